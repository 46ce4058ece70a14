import JvmDerived
import JvmDerived.Pilot.@@N@@Statement
import JvmDerived.Pilot.@@N@@Code
set_option linter.unusedVariables false
set_option linter.unusedSimpArgs false
namespace Jvm.Own
open Sem ClassFile Op Lib Jvm.Stand Jvm.Free Jvm.LawKit Jvm.RoadKit
/-- from the frame f over T the run ends in a return that Q speaks of -/
def Run (p : Program) (e : Env) (s : State) (below : List Frame) (Q : Option Value → Heap → List Loc → Prop) (cm sm : Nat) (T : State) (f : JFrame) : Prop :=
  ∃ s₂ o, Steps p.tables e below (T.setTop f) s₂ ∧ s₂.status = .running ∧ Ended s₂ below o ∧ ∃ v L, o = .returned v ∧ Q v s₂.heap L ∧ FrameEnd s o s₂ L cm sm
section Own
variable {p : Program} {l : Launch} {e : Env} {R : Room} {s : State} {m : MethodId} {args : Array Value} {below : List Frame} {meth : Method} {c : Code} {T : State} {locs : List Loc} {cells slots : Nat} {Q : Option Value → Heap → List Loc → Prop} {cm sm : Nat}
theorem go {T' : State} {f f' : JFrame} (st : ∀ target, Steps p.tables e below (T'.setTop f') target → Steps p.tables e below (T.setTop f) target) (k : Run p e s below Q cm sm T' f') : Run p e s below Q cm sm T f := by
  obtain ⟨s₂, o, h, r⟩ := k
  exact ⟨s₂, o, st _ h, r⟩
theorem retZ (X : Stand p l e R s m args below meth c T locs cells slots) (hx : p.tables.exec = Jvm.exec) {pc : Nat} {Ls : Array Slot} {z : Int32} {t : FieldType} {rest : List Value} (hret : meth.sig.returnType = some t) (ht : t = .boolean ∨ t = .byte ∨ t = .char ∨ t = .short)
    (hd : decode c.code pc = .ok (.ireturn, 1)) (hlk : meth.locks = false) (hc : cells ≤ cm) (hs : slots ≤ sm) (hq : Q (some (.int (nar t z))) T.heap locs) : Run p e s below Q cm sm T (mkF m pc Ls (.int z :: rest)) := by
  obtain ⟨fs, hr, hrun, hended, hW, hsame⟩ := X.leave (v := some (.int (nar t z))) (fun h => by rw [hret] at h; cases h) hlk
  exact ⟨_, _, retN X hx hret ht hd hr, hrun, hended, _, _, rfl, hq, ⟨_, rfl⟩, hW, hsame.mono hc hs⟩
theorem retW (X : Stand p l e R s m args below meth c T locs cells slots) (hx : p.tables.exec = Jvm.exec) {pc : Nat} {Ls : Array Slot} {w : Value} {t : FieldType} {i : Instr} {rest : List Value} (hret : meth.sig.returnType = some t) (hn : narrow t w = w)
    (hi : (i = .ireturn ∧ (t = .int ∨ t = .boolean ∨ t = .byte ∨ t = .char ∨ t = .short) ∧ ∃ z, w = .int z) ∨ (i = .lreturn ∧ t = .long ∧ ∃ z, w = .long z) ∨ (i = .dreturn ∧ t = .double ∧ ∃ z, w = .double z) ∨ (i = .freturn ∧ t = .float ∧ ∃ z, w = .float z) ∨ (i = .areturn ∧ t.isReference = true ∧ w.isRef = true))
    (hd : decode c.code pc = .ok (i, 1)) (hlk : meth.locks = false) (hc : cells ≤ cm) (hs : slots ≤ sm) (hq : Q (some w) T.heap locs) : Run p e s below Q cm sm T (mkF m pc Ls (w :: rest)) := by
  obtain ⟨fs, hr, hrun, hended, hW, hsame⟩ := X.leave (v := some w) (fun h => by rw [hret] at h; cases h) hlk
  exact ⟨_, _, retOut X hx hret hn hi hd hr, hrun, hended, _, _, rfl, hq, ⟨_, rfl⟩, hW, hsame.mono hc hs⟩
theorem retV (X : Stand p l e R s m args below meth c T locs cells slots) (hx : p.tables.exec = Jvm.exec) {pc : Nat} {Ls : Array Slot} (hret : meth.sig.returnType = none)
    (hd : decode c.code pc = .ok (.return_, 1)) (hlk : meth.locks = false) (hc : cells ≤ cm) (hs : slots ≤ sm) (hq : Q none T.heap locs) : Run p e s below Q cm sm T (mkF m pc Ls []) := by
  obtain ⟨fs, hr, hrun, hended, hW, hsame⟩ := X.leave (v := none) (fun _ => rfl) hlk
  exact ⟨_, _, X.returnOut hx hret hd hr, hrun, hended, _, _, rfl, hq, ⟨_, rfl⟩, hW, hsame.mono hc hs⟩
/-- the same, where Strings may have been interned -/
def RunW (p : Program) (e : Env) (s : State) (below : List Frame) (Q : Option Value → Heap → List Loc → Prop) (cm sm : Nat) (T : State) (f : JFrame) : Prop :=
  ∃ s₂ o, Steps p.tables e below (T.setTop f) s₂ ∧ s₂.status = .running ∧ Ended s₂ below o ∧ ∃ v L, o = .returned v ∧ Q v s₂.heap L ∧ ReturnedEndW s o s₂ L cm sm
theorem goW {T' : State} {f f' : JFrame} (st : ∀ target, Steps p.tables e below (T'.setTop f') target → Steps p.tables e below (T.setTop f) target) (k : RunW p e s below Q cm sm T' f') : RunW p e s below Q cm sm T f := by
  obtain ⟨s₂, o, h, r⟩ := k
  exact ⟨s₂, o, st _ h, r⟩
theorem retZW {vm₁ : Vm} (X : Stand p l e R (s.setVm vm₁) m args below meth c T locs cells slots) {n : Nat} (hS : s.Since vm₁ n) (hn : n ≤ T.heap.size) (hx : p.tables.exec = Jvm.exec) {pc : Nat} {Ls : Array Slot} {z : Int32} {t : FieldType} {rest : List Value} (hret : meth.sig.returnType = some t) (ht : t = .boolean ∨ t = .byte ∨ t = .char ∨ t = .short)
    (hd : decode c.code pc = .ok (.ireturn, 1)) (hlk : meth.locks = false) (hc : cells ≤ cm) (hs : slots ≤ sm) (hq : Q (some (.int (nar t z))) T.heap locs) : RunW p e s below Q cm sm T (mkF m pc Ls (.int z :: rest)) := by
  obtain ⟨fs, hr, hrun, hended, h1, h2, h3, h4⟩ := X.leaveW hS hn (v := some (.int (nar t z))) (fun h => by rw [hret] at h; cases h) hlk
  exact ⟨_, _, retN X hx hret ht hd hr, hrun, hended, _, _, rfl, hq, h1, h2, h3, h4.mono hc hs⟩
theorem retWW {vm₁ : Vm} (X : Stand p l e R (s.setVm vm₁) m args below meth c T locs cells slots) {n : Nat} (hS : s.Since vm₁ n) (hn : n ≤ T.heap.size) (hx : p.tables.exec = Jvm.exec) {pc : Nat} {Ls : Array Slot} {w : Value} {t : FieldType} {i : Instr} {rest : List Value} (hret : meth.sig.returnType = some t) (hn' : narrow t w = w)
    (hi : (i = .ireturn ∧ (t = .int ∨ t = .boolean ∨ t = .byte ∨ t = .char ∨ t = .short) ∧ ∃ z, w = .int z) ∨ (i = .lreturn ∧ t = .long ∧ ∃ z, w = .long z) ∨ (i = .dreturn ∧ t = .double ∧ ∃ z, w = .double z) ∨ (i = .freturn ∧ t = .float ∧ ∃ z, w = .float z) ∨ (i = .areturn ∧ t.isReference = true ∧ w.isRef = true))
    (hd : decode c.code pc = .ok (i, 1)) (hlk : meth.locks = false) (hc : cells ≤ cm) (hs : slots ≤ sm) (hq : Q (some w) T.heap locs) : RunW p e s below Q cm sm T (mkF m pc Ls (w :: rest)) := by
  obtain ⟨fs, hr, hrun, hended, h1, h2, h3, h4⟩ := X.leaveW hS hn (v := some w) (fun h => by rw [hret] at h; cases h) hlk
  exact ⟨_, _, retOut X hx hret hn' hi hd hr, hrun, hended, _, _, rfl, hq, h1, h2, h3, h4.mono hc hs⟩
theorem retVW {vm₁ : Vm} (X : Stand p l e R (s.setVm vm₁) m args below meth c T locs cells slots) {n : Nat} (hS : s.Since vm₁ n) (hn : n ≤ T.heap.size) (hx : p.tables.exec = Jvm.exec) {pc : Nat} {Ls : Array Slot} (hret : meth.sig.returnType = none)
    (hd : decode c.code pc = .ok (.return_, 1)) (hlk : meth.locks = false) (hc : cells ≤ cm) (hs : slots ≤ sm) (hq : Q none T.heap locs) : RunW p e s below Q cm sm T (mkF m pc Ls []) := by
  obtain ⟨fs, hr, hrun, hended, h1, h2, h3, h4⟩ := X.leaveW hS hn (v := none) (fun _ => rfl) hlk
  exact ⟨_, _, X.returnOut hx hret hd hr, hrun, hended, _, _, rfl, hq, h1, h2, h3, h4.mono hc hs⟩
end Own
section Heap
variable {Z : State} {h h' h0 : Heap} {a b : Addr} {ty : FieldType} {vs : List Value} {ws ws' : List Addr} {v : Value} {k : ClassId} {z j : Int32}
/-- an array and all that it holds -/
def Ary (Z : State) (h : Heap) (a : Addr) (ty : FieldType) (vs : List Value) : Prop := ∃ c : Cell, Arr Z h a c ty ∧ c.slots.toList = vs ∧ vs.length < 2147483648 ∧ ∀ v ∈ vs, fits ty v = true
theorem Ary.lt (A : Ary Z h a ty vs) : a < h.size := by obtain ⟨c, A, -⟩ := A; exact A.lt
theorem Ary.ext (A : Ary Z h a ty vs) (E : Ext h h') : Ary Z h' a ty vs := by obtain ⟨c, A, r⟩ := A; exact ⟨c, A.ext E, r⟩
theorem Ary.keep (A : Ary Z h a ty vs) (K : Keep h h' ws) (q : a ∉ ws) : Ary Z h' a ty vs := by obtain ⟨c, A, r⟩ := A; exact ⟨c, ⟨K.2.1 a c A.1 q, A.2⟩, r⟩
theorem Ary.set (A : Ary Z h a ty vs) {i : Nat} (W : Wr h h' a i v) (hv : fits ty v = true) : Ary Z h' a ty (vs.set i v) := by
  obtain ⟨c, A, e, l, f⟩ := A
  refine ⟨_, A.same W, by simp [Cell.setSlot, e], by simpa using l, fun w hw => ?_⟩
  rcases List.mem_or_eq_of_mem_set hw with q | rfl
  · exact f w q
  · exact hv
theorem Ary.ld (A : Ary Z h a ty vs) (hj : ¬ j < 0) (hv : vs[j.toNatClampNeg]? = some v) : ∃ c : Cell, Arr Z h a c ty ∧ ¬ (j < 0 ∨ c.slots.size ≤ j.toNatClampNeg) ∧ c.slots[j.toNatClampNeg]? = some v := by
  obtain ⟨c, A, e, l, f⟩ := A
  have q : c.slots[j.toNatClampNeg]? = some v := by rw [← Array.getElem?_toList, e]; exact hv
  exact ⟨c, A, fun r => r.elim hj fun y => absurd (Array.getElem?_eq_some_iff.mp q).1 (Nat.not_lt.mpr y), q⟩
theorem Ary.st (A : Ary Z h a ty vs) (hj : ¬ j < 0) (hl : j.toNatClampNeg < vs.length) : ∃ c : Cell, Arr Z h a c ty ∧ ¬ (j < 0 ∨ c.slots.size ≤ j.toNatClampNeg) := by
  obtain ⟨c, A, e, l, f⟩ := A
  refine ⟨c, A, fun r => r.elim hj fun y => ?_⟩
  rw [← e, Array.length_toList] at hl
  omega
theorem Ary.len (A : Ary Z h a ty vs) : ∃ c : Cell, Arr Z h a c ty ∧ c.slots.size.toInt32 = vs.length.toInt32 := by
  obtain ⟨c, A, e, l, f⟩ := A
  exact ⟨c, A, by rw [← e, Array.length_toList]⟩
theorem Ary.new (A : Arr Z h a (newA k ty z) ty) : Ary Z h a ty (List.replicate z.toNatClampNeg (defaultValue ty)) := by
  refine ⟨_, A, by simp [newA], ?_, fun v hv => ?_⟩
  · rw [List.length_replicate]
    have := Int32.toInt_lt z
    simp only [Int32.toNatClampNeg]
    omega
  · rw [List.eq_of_mem_replicate hv]
    cases ty <;> rfl
theorem Ary.fit (A : Ary Z h a ty vs) : ∃ c : Cell, Arr Z h a c ty ∧ FitC Z c ∧ c.slots.toList = vs ∧ c.slots.size = vs.length ∧ ∀ (h' : Heap) (b : Addr), Arr Z h' b (cloneOf c) ty → Ary Z h' b ty vs := by
  obtain ⟨c, A, e, l, f⟩ := A
  refine ⟨c, A, fitC_of A fun i hi v hv => ?_, e, by rw [← e, Array.length_toList], fun _ _ B => ⟨_, B, e, l, f⟩⟩
  refine f v ?_
  rw [← e]
  exact List.mem_of_getElem? (by rw [Array.getElem?_toList]; exact hv)
theorem ldI {p : Program} {l : Launch} {e : Env} {R : Room} {s : State} {m : MethodId} {args : Array Value} {below : List Frame} {meth : Method} {c : Code} {T : State} {locs : List Loc} {cells slots : Nat} (X : Stand p l e R s m args below meth c T locs cells slots) (hx : p.tables.exec = Jvm.exec) (hZ : Z.Warmed39 s.vm) (eT : T.heap = h) (A : Ary Z h a .int vs) (hj : ¬ j < 0) (hv : vs[j.toNatClampNeg]? = some v) {g : JFrame} (hg : g.method = m) {rest : List Value} (hs : g.stack = .int j :: .ref a :: rest) (hd : decode c.code g.pc = .ok (.iaload, 1)) (target : State)
    (hr : Steps p.tables e below (T.setTop { g with pc := g.pc + 1, stack := v :: rest }) target) : Steps p.tables e below (T.setTop g) target := by
  obtain ⟨cl, Ar, hin, hat⟩ := A.ld hj hv
  exact X.iaload hx (by rw [eT]; exact Ar.1) (State.isArrayOf_alike hZ.alike Ar.2.1) Ar.2.2 hin hat hg hs hd target hr
theorem ldJ {p : Program} {l : Launch} {e : Env} {R : Room} {s : State} {m : MethodId} {args : Array Value} {below : List Frame} {meth : Method} {c : Code} {T : State} {locs : List Loc} {cells slots : Nat} (X : Stand p l e R s m args below meth c T locs cells slots) (hx : p.tables.exec = Jvm.exec) (hZ : Z.Warmed39 s.vm) (eT : T.heap = h) (A : Ary Z h a .long vs) (hj : ¬ j < 0) (hv : vs[j.toNatClampNeg]? = some v) {g : JFrame} (hg : g.method = m) {rest : List Value} (hs : g.stack = .int j :: .ref a :: rest) (hd : decode c.code g.pc = .ok (.laload, 1)) (target : State)
    (hr : Steps p.tables e below (T.setTop { g with pc := g.pc + 1, stack := v :: rest }) target) : Steps p.tables e below (T.setTop g) target := by
  obtain ⟨cl, Ar, hin, hat⟩ := A.ld hj hv
  exact X.laload hx (by rw [eT]; exact Ar.1) (State.isArrayOf_alike hZ.alike Ar.2.1) Ar.2.2 hin hat hg hs hd target hr
theorem ldC {p : Program} {l : Launch} {e : Env} {R : Room} {s : State} {m : MethodId} {args : Array Value} {below : List Frame} {meth : Method} {c : Code} {T : State} {locs : List Loc} {cells slots : Nat} (X : Stand p l e R s m args below meth c T locs cells slots) (hx : p.tables.exec = Jvm.exec) (hZ : Z.Warmed39 s.vm) (eT : T.heap = h) (A : Ary Z h a .char vs) (hj : ¬ j < 0) (hv : vs[j.toNatClampNeg]? = some v) {g : JFrame} (hg : g.method = m) {rest : List Value} (hs : g.stack = .int j :: .ref a :: rest) (hd : decode c.code g.pc = .ok (.caload, 1)) (target : State)
    (hr : Steps p.tables e below (T.setTop { g with pc := g.pc + 1, stack := v :: rest }) target) : Steps p.tables e below (T.setTop g) target := by
  obtain ⟨cl, Ar, hin, hat⟩ := A.ld hj hv
  exact X.caload hx (by rw [eT]; exact Ar.1) (State.isArrayOf_alike hZ.alike Ar.2.1) Ar.2.2 hin hat hg hs hd target hr
theorem ldB {p : Program} {l : Launch} {e : Env} {R : Room} {s : State} {m : MethodId} {args : Array Value} {below : List Frame} {meth : Method} {c : Code} {T : State} {locs : List Loc} {cells slots : Nat} (X : Stand p l e R s m args below meth c T locs cells slots) (hx : p.tables.exec = Jvm.exec) (hZ : Z.Warmed39 s.vm) (eT : T.heap = h) (A : Ary Z h a .byte vs) (hj : ¬ j < 0) (hv : vs[j.toNatClampNeg]? = some v) {g : JFrame} (hg : g.method = m) {rest : List Value} (hs : g.stack = .int j :: .ref a :: rest) (hd : decode c.code g.pc = .ok (.baload, 1)) (target : State)
    (hr : Steps p.tables e below (T.setTop { g with pc := g.pc + 1, stack := v :: rest }) target) : Steps p.tables e below (T.setTop g) target := by
  obtain ⟨cl, Ar, hin, hat⟩ := A.ld hj hv
  exact X.baloadBytes hx (by rw [eT]; exact Ar.1) (State.isArrayOf_alike hZ.alike Ar.2.1) Ar.2.2 hin hat hg hs hd target hr
theorem ldZ {p : Program} {l : Launch} {e : Env} {R : Room} {s : State} {m : MethodId} {args : Array Value} {below : List Frame} {meth : Method} {c : Code} {T : State} {locs : List Loc} {cells slots : Nat} (X : Stand p l e R s m args below meth c T locs cells slots) (hx : p.tables.exec = Jvm.exec) (hZ : Z.Warmed39 s.vm) (eT : T.heap = h) (A : Ary Z h a .boolean vs) (hj : ¬ j < 0) (hv : vs[j.toNatClampNeg]? = some v) {g : JFrame} (hg : g.method = m) {rest : List Value} (hs : g.stack = .int j :: .ref a :: rest) (hd : decode c.code g.pc = .ok (.baload, 1)) (target : State)
    (hr : Steps p.tables e below (T.setTop { g with pc := g.pc + 1, stack := v :: rest }) target) : Steps p.tables e below (T.setTop g) target := by
  obtain ⟨cl, Ar, hin, hat⟩ := A.ld hj hv
  exact X.baloadBooleans hx (by rw [eT]; exact Ar.1) (State.isArrayOf_alike hZ.alike Ar.2.1) Ar.2.2 hin hat hg hs hd target hr
theorem ldD {p : Program} {l : Launch} {e : Env} {R : Room} {s : State} {m : MethodId} {args : Array Value} {below : List Frame} {meth : Method} {c : Code} {T : State} {locs : List Loc} {cells slots : Nat} (X : Stand p l e R s m args below meth c T locs cells slots) (hx : p.tables.exec = Jvm.exec) (hZ : Z.Warmed39 s.vm) (eT : T.heap = h) (A : Ary Z h a .double vs) (hj : ¬ j < 0) (hv : vs[j.toNatClampNeg]? = some v) {g : JFrame} (hg : g.method = m) {rest : List Value} (hs : g.stack = .int j :: .ref a :: rest) (hd : decode c.code g.pc = .ok (.daload, 1)) (target : State)
    (hr : Steps p.tables e below (T.setTop { g with pc := g.pc + 1, stack := v :: rest }) target) : Steps p.tables e below (T.setTop g) target := by
  obtain ⟨cl, Ar, hin, hat⟩ := A.ld hj hv
  exact X.daload hx (by rw [eT]; exact Ar.1) (State.isArrayOf_alike hZ.alike Ar.2.1) Ar.2.2 hin hat hg hs hd target hr
theorem ldR {p : Program} {l : Launch} {e : Env} {R : Room} {s : State} {m : MethodId} {args : Array Value} {below : List Frame} {meth : Method} {c : Code} {T : State} {locs : List Loc} {cells slots : Nat} (X : Stand p l e R s m args below meth c T locs cells slots) (hx : p.tables.exec = Jvm.exec) (hZ : Z.Warmed39 s.vm) (eT : T.heap = h) (A : Ary Z h a ty vs) (ht : ty.isReference = true) (hj : ¬ j < 0) (hv : vs[j.toNatClampNeg]? = some v) {g : JFrame} (hg : g.method = m) {rest : List Value} (hs : g.stack = .int j :: .ref a :: rest) (hd : decode c.code g.pc = .ok (.aaload, 1)) (target : State)
    (hr : Steps p.tables e below (T.setTop { g with pc := g.pc + 1, stack := v :: rest }) target) : Steps p.tables e below (T.setTop g) target := by
  obtain ⟨cl, Ar, hin, hat⟩ := A.ld hj hv
  exact X.aaload hx (by rw [eT]; exact Ar.1) (State.isArrayOf_alike hZ.alike Ar.2.1) ht Ar.2.2 hin hat hg hs hd target hr
theorem alen {p : Program} {l : Launch} {e : Env} {R : Room} {s : State} {m : MethodId} {args : Array Value} {below : List Frame} {meth : Method} {c : Code} {T : State} {locs : List Loc} {cells slots : Nat} (X : Stand p l e R s m args below meth c T locs cells slots) (hx : p.tables.exec = Jvm.exec) (hZ : Z.Warmed39 s.vm) (eT : T.heap = h) (A : Ary Z h a ty vs) (hn : vs.length.toInt32 = z) {g : JFrame} (hg : g.method = m) {rest : List Value} (hs : g.stack = .ref a :: rest) (hd : decode c.code g.pc = .ok (.arraylength, 1)) (target : State)
    (hr : Steps p.tables e below (T.setTop { g with pc := g.pc + 1, stack := .int z :: rest }) target) : Steps p.tables e below (T.setTop g) target := by
  obtain ⟨cl, Ar, ln⟩ := A.len
  exact X.arraylength hx (by rw [eT]; exact Ar.1) (State.isArrayOf_alike hZ.alike Ar.2.1) hg hs hd target (by rw [ln.trans hn]; exact hr)
theorem getI {xs : List Int32} {i : Nat} (q : i < xs.length) : (xs.map Value.int)[i]? = some (.int (xs.getD i 0)) := by
  simp [List.getElem?_map, List.getD_eq_getElem?_getD, List.getElem?_eq_getElem q]
theorem setI {xs : List Int32} {i : Nat} {x : Int32} : (xs.map Value.int).set i (.int x) = (xs.set i x).map Value.int := List.map_set.symm
/-- an array made over the class C -/
def OvA (Z : State) (h : Heap) (a : Addr) (C : String) : Prop := ∃ c : Cell, h[a]? = some c ∧ Ovr Z c.cls C
theorem OvA.keep {C : String} (O : OvA Z h a C) (K : Keep h h' ws) : OvA Z h' a C := by
  obtain ⟨c, e, o⟩ := O
  obtain ⟨c', q, r1, -, -⟩ := K.2.2 a c e
  exact ⟨c', q, r1 ▸ o⟩
theorem stA {C : String} {y : Addr} (O : OvA Z h a C) (A : Ary Z h a ty vs) (I : Ins Z h y C true) : Sto Z h a (.ref y) := by
  obtain ⟨c, A, -⟩ := A
  obtain ⟨c', e, o⟩ := O
  cases A.1.symm.trans e
  exact Sto.of A o I
theorem eqi_v {args : Array Value} {first s : State} {o : Option Outcome} {idx : List Nat} {t : Term} {k : Int32} (q : (Cond.eq t (.int k)).value args first o s idx = some true) : t.eval args first o idx s = some (.int k) := by
  simp only [Cond.value, Term.eval] at q
  cases ht : t.eval args first o idx s with
  | none => simp [ht] at q
  | some x => cases x <;> simp [ht] at q ⊢; exact q
theorem ary_start {args : Array Value} {s : State} {t : Term} {ty : FieldType} {a : Addr} {n : Int32} {vs : List Value} (hf : Fit s) (ev : t.eval args s none [] s = some (.ref a)) (ha : (Cond.arrayOf t ty).value args s none s [] = some true) (hl : (Cond.eq (.length t) (.int n)).value args s none s [] = some true) (hn : n = vs.length.toInt32) (hs : vs.length < 2147483648)
    (he : ∀ i, i < vs.length → (Term.elem t (.int i.toInt32)).eval args s none [] s = vs[i]?) : Ary s s.heap a ty vs := by
  obtain ⟨cl, A⟩ := Arr.start ev ha
  have hA := A.fin (Vm.Alike.refl _)
  have e1 := eqi_v hl
  have hsz : cl.slots.size < 2147483648 := by
    refine Nat.lt_of_not_le fun q => ?_
    have : ¬ cl.slots.size < 2 ^ 31 := by omega
    simp [Term.eval, ev, hA, this] at e1
  have e2 := len_f (idx := []) ev hA (by omega)
  rw [e1] at e2
  have e3 : n = cl.slots.size.toInt32 := by simpa using e2
  have e4 : cl.slots.size = vs.length := by
    have q := hn.symm.trans e3
    have q1 : vs.length.toInt32.toInt = vs.length := len_toInt (by omega)
    have q2 : cl.slots.size.toInt32.toInt = cl.slots.size := len_toInt (by omega)
    rw [q, q2] at q1
    omega
  have e5 : ∀ i, i < vs.length → cl.slots[i]? = vs[i]? := fun i hi => by
    have q := he i hi
    rw [List.getElem?_eq_getElem hi] at q
    have r := (elem_in q ev (Term.int_eval _) A.1).2
    have e : i.toInt32.toNatClampNeg = i := by simp only [Int32.toNatClampNeg, len_toInt (show i < 2 ^ 31 by omega)]; rfl
    rw [e] at r
    rw [r, List.getElem?_eq_getElem hi]
  refine ⟨cl, A, ?_, hs, fun v hv => ?_⟩
  · refine List.ext_getElem? fun i => ?_
    rw [Array.getElem?_toList]
    by_cases hi : i < vs.length
    · exact e5 i hi
    · rw [Array.getElem?_eq_none (by omega), List.getElem?_eq_none (by omega)]
  · obtain ⟨i, hi, rfl⟩ := List.getElem_of_mem hv
    have r := e5 i hi
    rw [List.getElem?_eq_getElem hi] at r
    have e : i.toInt32.toNatClampNeg = i := by simp only [Int32.toNatClampNeg, len_toInt (show i < 2 ^ 31 by omega)]; rfl
    exact elem_fits (j := i.toInt32) hf A (idx_in (by omega) (by omega)) (by rw [e]; exact r)
theorem nin1 {x y : Addr} (q : x ≠ y) : x ∉ [y] := ninS q nin0
theorem Arv.ary {dv : Value} (F : Arv Z h a k ty z vs dv) (hl : z.toNatClampNeg = vs.length) : Ary Z h a ty vs := by
  obtain ⟨c, A, -, S, hz, H, G⟩ := F
  have hs : c.slots.size = vs.length := S.trans hl
  have hb := (back32 hz).2
  refine ⟨c, A, List.ext_getElem? fun i => ?_, by omega, fun v hv => ?_⟩
  · rw [Array.getElem?_toList]
    by_cases hi : i < vs.length
    · rw [H i (by omega), List.getD_eq_getElem?_getD, List.getElem?_eq_getElem hi]
      rfl
    · rw [Array.getElem?_eq_none (by omega), List.getElem?_eq_none (by omega)]
  · obtain ⟨i, hi, rfl⟩ := List.getElem_of_mem hv
    have := G i (by omega)
    rw [List.getD_eq_getElem?_getD, List.getElem?_eq_getElem hi] at this
    exact this
end Heap
section Held
variable {p : Program} {l : Launch} {e : Env} {R : Room} {s : State} {m : MethodId} {args : Array Value} {below : List Frame} {meth : Method} {c : Code} {T : State} {locs : List Loc} {cells slots : Nat} {Q : Option Value → Heap → List Loc → Prop} {cm sm : Nat} {Z : State} {EL : List (String × Nat)} {h h0 : Heap} {aw : Array Value}
/-- a run that may intern, and keeps what is held of the constants EL -/
def RunH (Z : State) (EL : List (String × Nat)) (p : Program) (e : Env) (s : State) (below : List Frame) (Q : Option Value → Heap → List Loc → Prop) (cm sm : Nat) (T : State) (f : JFrame) : Prop :=
  ∃ s₂ o, Steps p.tables e below (T.setTop f) s₂ ∧ s₂.status = .running ∧ Ended s₂ below o ∧ ∃ v L, o = .returned v ∧ Q v s₂.heap L ∧ CHr Z EL s.vm s.heap s₂.vm s₂.heap ∧ ReturnedEndW s o s₂ L cm sm
theorem goH {T' : State} {f f' : JFrame} (st : ∀ target, Steps p.tables e below (T'.setTop f') target → Steps p.tables e below (T.setTop f) target) (k : RunH Z EL p e s below Q cm sm T' f') : RunH Z EL p e s below Q cm sm T f := by
  obtain ⟨s₂, o, h, r⟩ := k
  exact ⟨s₂, o, st _ h, r⟩
theorem retZH {vm₁ : Vm} (X : Stand p l e R (s.setVm vm₁) m args below meth c T locs cells slots) {n : Nat} (hS : s.Since vm₁ n) (hn : n ≤ T.heap.size) (hh : s.heap = h0) (eT : T.heap = h) (C : CHr Z EL s.vm h0 vm₁ h) (hEL : EW Z aw EL) (hZ : Z.Warmed39 vm₁) (hx : p.tables.exec = Jvm.exec) {pc : Nat} {Ls : Array Slot} {z : Int32} {t : FieldType} {rest : List Value} (hret : meth.sig.returnType = some t) (ht : t = .boolean ∨ t = .byte ∨ t = .char ∨ t = .short)
    (hd : decode c.code pc = .ok (.ireturn, 1)) (hlk : meth.locks = false) (hc : cells ≤ cm) (hs : slots ≤ sm) (hq : Q (some (.int (nar t z))) T.heap locs) : RunH Z EL p e s below Q cm sm T (mkF m pc Ls (.int z :: rest)) := by
  obtain ⟨fs, hr, hrun, hended, h1, h2, h3, h4⟩ := X.leaveW hS hn (v := some (.int (nar t z))) (fun h => by rw [hret] at h; cases h) hlk
  have C' := C.trans (CHv.at X hZ hEL C.1)
  subst hh eT
  exact ⟨_, _, retN X hx hret ht hd hr, hrun, hended, _, _, rfl, hq, C', h1, h2, h3, h4.mono hc hs⟩
theorem retWH {vm₁ : Vm} (X : Stand p l e R (s.setVm vm₁) m args below meth c T locs cells slots) {n : Nat} (hS : s.Since vm₁ n) (hn : n ≤ T.heap.size) (hh : s.heap = h0) (eT : T.heap = h) (C : CHr Z EL s.vm h0 vm₁ h) (hEL : EW Z aw EL) (hZ : Z.Warmed39 vm₁) (hx : p.tables.exec = Jvm.exec) {pc : Nat} {Ls : Array Slot} {w : Value} {t : FieldType} {i : Instr} {rest : List Value} (hret : meth.sig.returnType = some t) (hn' : narrow t w = w)
    (hi : (i = .ireturn ∧ (t = .int ∨ t = .boolean ∨ t = .byte ∨ t = .char ∨ t = .short) ∧ ∃ z, w = .int z) ∨ (i = .lreturn ∧ t = .long ∧ ∃ z, w = .long z) ∨ (i = .dreturn ∧ t = .double ∧ ∃ z, w = .double z) ∨ (i = .freturn ∧ t = .float ∧ ∃ z, w = .float z) ∨ (i = .areturn ∧ t.isReference = true ∧ w.isRef = true))
    (hd : decode c.code pc = .ok (i, 1)) (hlk : meth.locks = false) (hc : cells ≤ cm) (hs : slots ≤ sm) (hq : Q (some w) T.heap locs) : RunH Z EL p e s below Q cm sm T (mkF m pc Ls (w :: rest)) := by
  obtain ⟨fs, hr, hrun, hended, h1, h2, h3, h4⟩ := X.leaveW hS hn (v := some w) (fun h => by rw [hret] at h; cases h) hlk
  have C' := C.trans (CHv.at X hZ hEL C.1)
  subst hh eT
  exact ⟨_, _, retOut X hx hret hn' hi hd hr, hrun, hended, _, _, rfl, hq, C', h1, h2, h3, h4.mono hc hs⟩
theorem selP {s : State} {args : Array Value} {y : MethodName} {n : Nat} (wi : (Cond.instantiable y.cls n).before args s = true) (hpriv : s.PrivateAt y) (hinst : (Cond.instanceMethod y).before args s = true) (hy : y.cls ≠ "java/lang/invoke/MethodHandle" ∧ y.cls ≠ "java/lang/invoke/VarHandle") : (Cond.selects y.cls y y).before args s = true := by
  have w := wi
  obtain ⟨c, k, h1, h2, -⟩ := Cond.instantiable_spec wi
  refine selects_self_of_private h1 h2 ?_ hpriv hinst hy
  simp [Cond.before, Cond.holds, Cond.value, h1, h2] at w
  exact w.1.1.2.1
end Held
section NoIns
variable {Z : State} {a0 : Array Value} {O C S K : String} {n : Nat}
theorem NS.rootI (w : (Cond.noSuperclass O).before a0 Z = true) (wk : (Cond.instantiable K n).before a0 Z = true) (hn : O ≠ K) : NS Z O K := by
  obtain ⟨c, k, h1, h2, h3, -, -⟩ := Cond.noSuperclass_spec w
  obtain ⟨t, kt, g1, -⟩ := Cond.instantiable_spec wk
  have ne := ids_ne h1 g1 hn
  refine ⟨c, t, h1, g1, fun fuel => ?_⟩
  cases fuel with
  | zero => rfl
  | succ f => simp [Vm.isSubclassAux, ne, h2, h3]
theorem NS.noI (w : (Cond.superclass C S).before a0 Z = true) (wk : (Cond.instantiable K n).before a0 Z = true) (q : NS Z C K) (hn : C ≠ K) : ∃ c t, Z.vm.findClass C = some c ∧ Z.vm.findClass K = some t ∧ Z.vm.assignable c t = false := by
  obtain ⟨c, t, h0, g0, n3⟩ := q
  obtain ⟨p, k, kp, h1, h2, h3, h4, h5, -, h7⟩ := Cond.superclass_spec h0 w
  obtain ⟨t', k', g1, g2, g5, g7, -⟩ := Cond.instantiable_spec wk
  cases g0.symm.trans g1
  have ne := ids_ne h0 g0 hn
  simp only [Bool.or_eq_false_iff] at g7
  refine ⟨c, t, h0, g0, ?_⟩
  show Z.vm.assignableAux (255 + 1) c t = false
  simp [Vm.assignableAux, ne, h2, g2, h5, g5, g7.1, Vm.isSubclass, n3]
end NoIns
end Jvm.Own
namespace Jvm.OwnF
open Jvm.FP.Core
theorem own_ratio {n d : Int} {s t : Bool} {c c' : Nat} {q q' : Int} (hx : Whole n (.fin s c q)) (hy : Whole d (.fin t c' q')) :
    c * d.natAbs * 2 ^ (q - q' - 0).toNat = n.natAbs * c' * 2 ^ (0 - (q - q')).toNat := by
  have h1 := whole_natAbs hx
  have h2 := whole_natAbs hy
  generalize n.natAbs = N at *
  generalize d.natAbs = D at *
  refine Nat.eq_of_mul_eq_mul_right (Nat.mul_pos (Nat.two_pow_pos (-q).toNat) (Nat.two_pow_pos q'.toNat)) ?_
  have hx : (q - q' - 0).toNat + ((-q).toNat + q'.toNat) = (0 - (q - q')).toNat + (q.toNat + (-q').toNat) := by omega
  calc c * D * 2 ^ (q - q' - 0).toNat * (2 ^ (-q).toNat * 2 ^ q'.toNat)
      = c * D * 2 ^ ((q - q' - 0).toNat + ((-q).toNat + q'.toNat)) := by rw [Nat.pow_add, Nat.pow_add]; ac_rfl
    _ = (c * 2 ^ q.toNat) * (D * 2 ^ (-q').toNat) * 2 ^ (0 - (q - q')).toNat := by rw [hx, Nat.pow_add, Nat.pow_add]; ac_rfl
    _ = (N * 2 ^ (-q).toNat) * (c' * 2 ^ q'.toNat) * 2 ^ (0 - (q - q')).toNat := by rw [h1, h2]
    _ = N * c' * 2 ^ (0 - (q - q')).toNat * (2 ^ (-q).toNat * 2 ^ q'.toNat) := by ac_rfl
/-- four times a datum -/
def sc : Datum → Datum
  | .fin s c q => .fin s c (q + 2)
  | d => d
theorem sc_whole {i : Int} {d : Datum} (h : Whole i d) : Whole (4 * i) (sc d) := by
  cases d with
  | nan => exact h.elim
  | inf => exact h.elim
  | fin s c q =>
    have h' : signed s (c * 2 ^ q.toNat) = i * ((2 ^ (-q).toNat : Nat) : Int) := h
    show signed s (c * 2 ^ (q + 2).toNat) = 4 * i * ((2 ^ (-(q + 2)).toNat : Nat) : Int)
    have p2 : ((2 ^ (-q).toNat : Nat) : Int) ≠ 0 := by
      have := Nat.two_pow_pos (-q).toNat; omega
    refine Int.eq_of_mul_eq_mul_right p2 ?_
    have hx : (q + 2).toNat + (-q).toNat = q.toNat + (2 + (-(q + 2)).toNat) := by omega
    calc signed s (c * 2 ^ (q + 2).toNat) * ((2 ^ (-q).toNat : Nat) : Int)
        = signed s (c * 2 ^ ((q + 2).toNat + (-q).toNat)) := by rw [← signed_mul, Nat.pow_add, Nat.mul_assoc]
      _ = signed s (c * 2 ^ q.toNat * (4 * 2 ^ (-(q + 2)).toNat)) := by rw [hx, Nat.pow_add, Nat.pow_add, ← Nat.mul_assoc]
      _ = i * ((2 ^ (-q).toNat : Nat) : Int) * ((4 * 2 ^ (-(q + 2)).toNat : Nat) : Int) := by rw [signed_mul, h']
      _ = 4 * i * ((2 ^ (-(q + 2)).toNat : Nat) : Int) * ((2 ^ (-q).toNat : Nat) : Int) := by rw [Int.natCast_mul, show ((4 : Nat) : Int) = 4 from rfl]; ac_rfl
theorem sc_product {i j : Int} {x y : Datum} (hx : Whole i (sc x)) (hy : Whole j y) : Whole (i * j) (sc (exactProduct x y)) := by
  cases x with
  | nan => exact hx.elim
  | inf => exact hx.elim
  | fin s c q =>
  cases y with
  | nan => exact hy.elim
  | inf => exact hy.elim
  | fin t d r =>
    have h := whole_product hx hy
    have e : exactProduct (sc (.fin s c q)) (.fin t d r) = sc (exactProduct (.fin s c q) (.fin t d r)) := by
      show Datum.fin _ _ (q + 2 + r) = Datum.fin _ _ (q + r + 2)
      rw [Int.add_right_comm]
    rw [← e]; exact h
theorem sc_sum {i j : Int} {x y : Datum} (hx : Whole i (sc x)) (hy : Whole j (sc y)) : Whole (i + j) (sc (exactSum x y)) := by
  cases x with
  | nan => exact hx.elim
  | inf => exact hx.elim
  | fin s c q =>
  cases y with
  | nan => exact hy.elim
  | inf => exact hy.elim
  | fin t d r =>
    have h := whole_sum hx hy
    have e : exactSum (sc (.fin s c q)) (sc (.fin t d r)) = sc (exactSum (.fin s c q) (.fin t d r)) := by
      have e1 : min (q + 2) (r + 2) = min q r + 2 := by omega
      have e2 : sumUnits s c (q + 2) t d (r + 2) (min (q + 2) (r + 2)) = sumUnits s c q t d r (min q r) := by
        unfold sumUnits inUnits
        rw [e1, show q + 2 - (min q r + 2) = q - min q r by omega, show r + 2 - (min q r + 2) = r - min q r by omega]
      show Datum.fin (sumSign s t (sumUnits s c (q + 2) t d (r + 2) (min (q + 2) (r + 2)))) (sumUnits s c (q + 2) t d (r + 2) (min (q + 2) (r + 2))).natAbs (min (q + 2) (r + 2)) = Datum.fin _ _ (min q r + 2)
      rw [e2, e1]
    rw [← e]; exact h
theorem sc_order {i j : Int} {x y : Datum} (hx : Whole i (sc x)) (hy : Whole j (sc y)) : order x y = some (compare i j) := by
  cases x with
  | nan => exact hx.elim
  | inf => exact hx.elim
  | fin s c q =>
  cases y with
  | nan => exact hy.elim
  | inf => exact hy.elim
  | fin t d r =>
    rw [← order_whole hx hy]
    have e1 : min (q + 2) (r + 2) = min q r + 2 := by omega
    show some (compare _ _) = some (compare (signed s (inUnits c (q + 2) (min (q + 2) (r + 2)))) (signed t (inUnits d (r + 2) (min (q + 2) (r + 2)))))
    unfold inUnits
    rw [e1, show q + 2 - (min q r + 2) = q - min q r by omega, show r + 2 - (min q r + 2) = r - min q r by omega]
theorem sc_round {i : Int} {d : Datum} (hi : i.natAbs ≤ 2 ^ 53) (h : Whole i (sc d)) : Whole i (sc (round b64 d)) := by
  cases d with
  | nan => exact h.elim
  | inf => exact h.elim
  | fin s c q =>
    have h' : Whole i (.fin s c (q + 2)) := h
    show Whole i (sc (roundRatio b64 s c 1 q))
    by_cases h0 : i = 0
    · have hc : c = 0 := (whole_zero h').mpr h0
      subst h0 hc
      show signed s (0 * _) = 0 * _
      rw [Nat.zero_mul, signed_zero, Int.zero_mul]
    · obtain ⟨c', q', hfit, hv⟩ := natFit good_b64 wide_b64 s (n := i.natAbs) hi
      have hs := whole_sign h' h0
      have hw : Whole i (.fin s c' q') := by
        show signed s (c' * 2 ^ q'.toNat) = i * _
        rw [show (0 - q').toNat = (-q').toNat by omega, show (q' - 0).toNat = q'.toNat by omega, Nat.mul_one] at hv
        rw [← hv, signed_mul, hs]
        congr 1
        unfold signed
        by_cases h : i < 0 <;> simp [h] <;> omega
      have hr := own_ratio h' hw
      have hpos : 0 < i.natAbs := by omega
      have hr' : c * 2 ^ (q - (q' - 2)).toNat = c' * 1 * 2 ^ (q' - 2 - q).toNat := by
        refine Nat.eq_of_mul_eq_mul_left hpos ?_
        calc i.natAbs * (c * 2 ^ (q - (q' - 2)).toNat) = c * i.natAbs * 2 ^ (q + 2 - q' - 0).toNat := by
              rw [show q + 2 - q' - 0 = q - (q' - 2) by omega]; ac_rfl
          _ = i.natAbs * c' * 2 ^ (0 - (q + 2 - q')).toNat := hr
          _ = i.natAbs * (c' * 1 * 2 ^ (q' - 2 - q).toNat) := by rw [show 0 - (q + 2 - q') = q' - 2 - q by omega, Nat.mul_one]; ac_rfl
      have hn := whole_natAbs hw
      have hlow : -54 < q' := by
        refine Int.lt_of_not_ge fun hle => ?_
        have h1 := hfit.1
        have e : q'.toNat = 0 := by omega
        rw [e, Nat.pow_zero, Nat.mul_one] at hn
        have h2 : 2 ^ 54 ≤ 2 ^ (-q').toNat := Nat.pow_le_pow_right (by decide) (by omega)
        have h3 : 1 * 2 ^ (-q').toNat ≤ i.natAbs * 2 ^ (-q').toNat := Nat.mul_le_mul_right _ hpos
        have h4 : b64.p = 53 := rfl
        rw [h4] at h1
        have h5 : (2 : Nat) ^ 53 < 2 ^ 54 := by decide
        omega
      have hmin : b64.qmin = -1074 := by decide
      have hfit' : FP.Core.fits b64 (.fin s c' (q' - 2)) := by
        obtain ⟨f1, f2, f3, f4⟩ := hfit
        refine ⟨f1, by omega, by omega, Or.inr ?_⟩
        rcases f4 with f4 | f4
        · omega
        · exact f4
      rw [roundRatio_exact good_b64 (by decide) hfit' hr']
      show Whole i (.fin s c' (q' - 2 + 2))
      rw [show q' - 2 + 2 = q' by omega]
      exact hw
/-- x is i quarters -/
def Quart (i : Int) (x : UInt64) : Prop := Whole i (sc (val64 x))
theorem val64_four : val64 4616189618054758400 = .fin false (2 ^ 52) (-50) := by decide +kernel
theorem quart_div {i : Int} {x : UInt64} (hi : i.natAbs ≤ 2 ^ 53) (h : Whole i (val64 x)) : Quart i (ddiv x 4616189618054758400) := by
  unfold Quart
  rw [val64_ddiv, val64_four]
  generalize val64 x = d at *
  cases d with
  | nan => exact h.elim
  | inf => exact h.elim
  | fin s c q =>
    have e : quotient b64 (.fin s c q) (.fin false (2 ^ 52) (-50)) = round b64 (.fin s c (q - 2)) := by
      have e0 : quotient b64 (.fin s c q) (.fin false (2 ^ 52) (-50)) = roundRatio b64 (s != false) c (2 ^ 52) (q - -50) := by
        simp only [quotient]
        rw [if_neg (by decide)]
      rw [e0]
      show _ = roundRatio b64 s c 1 (q - 2)
      have : (s != false) = s := by cases s <;> rfl
      rw [this]
      refine roundRatio_congr (by decide) (by decide) ?_
      rw [show q - -50 - (q - 2) = 52 by omega, show q - 2 - (q - -50) = -52 by omega]
      show c * 1 * 2 ^ 52 = c * 2 ^ 52 * 2 ^ 0
      omega
    rw [e]
    refine sc_round hi ?_
    show Whole i (.fin s c (q - 2 + 2))
    rw [show q - 2 + 2 = q by omega]
    exact h
theorem quart_mul {i j : Int} {x y : UInt64} (hx : Quart i x) (hy : Whole j (val64 y)) (h : (i * j).natAbs ≤ 2 ^ 53) : Quart (i * j) (dmul x y) := by
  unfold Quart
  rw [val64_dmul]
  exact sc_round h (sc_product hx hy)
theorem quart_add {i j : Int} {x y : UInt64} (hx : Whole i (val64 x)) (hy : Quart j y) (h : (4 * i + j).natAbs ≤ 2 ^ 53) : Quart (4 * i + j) (dadd x y) := by
  unfold Quart
  rw [val64_dadd]
  exact sc_round h (sc_sum (sc_whole hx) hy)
theorem quart_cmp {i j : Int} {x y : UInt64} (hx : Quart i x) (hy : Quart j y) : dcmp x y = some (compare i j) := sc_order hx hy
theorem Quart.num {i : Int} {x : UInt64} (h : Quart i x) : val64 x ≠ .nan := fun q => by
  unfold Quart at h
  rw [q] at h
  exact h.elim
end Jvm.OwnF
namespace Jvm.Pilot.@@N@@
open Jvm Jvm.ClassFile Sem Op Lib Jvm.Free Jvm.Stand Jvm.LawKit Jvm.RoadKit Jvm.Own Bundle Jvm.Pilot.@@N@@.Jvm.D
theorem own_rem (x m : Int32) (M : Int) (hm : m.toInt = M) (h : 0 < M) : -M < (x % m).toInt ∧ (x % m).toInt < M := by
  rw [Int32.toInt_mod, hm]
  exact ⟨Int.lt_tmod_of_pos _ h, Int.tmod_lt_of_pos _ h⟩
theorem own_a {a : Int64} {x : Int32} (h : a = (((x % (16777216 : Int32))).toInt64)) : -16777216 < a.toInt ∧ a.toInt < 16777216 := by
  rw [h, Int32.toInt_toInt64]; exact own_rem x _ 16777216 rfl (by decide)
theorem own_c {a : Int64} {x : Int32} (h : a = (((x % (1048576 : Int32))).toInt64)) : -1048576 < a.toInt ∧ a.toInt < 1048576 := by
  rw [h, Int32.toInt_toInt64]; exact own_rem x _ 1048576 rfl (by decide)
theorem own_z {z a k : Int64} (hz : z = (if a = (0 : Int64) then k else a)) (h : -1048576 < a.toInt ∧ a.toInt < 1048576) (hk : (-1048576 < k.toInt ∧ k.toInt < 1048576) ∧ k ≠ 0) : (-1048576 < z.toInt ∧ z.toInt < 1048576) ∧ z ≠ 0 := by
  by_cases q : a = 0
  · rw [if_pos q] at hz; rw [hz]; exact hk
  · rw [if_neg q] at hz; rw [hz]; exact ⟨h, q⟩
theorem own_nz0 {w : Int64} (h : (-1048576 < w.toInt ∧ w.toInt < 1048576) ∧ w ≠ 0) : ¬ (cmpValue (FP.dcmp (FP.l2d w) (0 : UInt64)) .l = (0 : Int32)) := by
  have e := dcmpV_w (a := w) (b := 0) ⟨by omega, by omega⟩ (by unfold B53; decide) .l
  rw [l2d_zero] at e
  rw [e]
  exact fun q => h.2 ((lw_eq _ _).mp q)
theorem own_fin {x : UInt64} (h : Jvm.Free.Fl.Fin64 x) : ¬ ((0 : Int32) < cmpValue (FP.dcmp (x &&& 0x7fffffffffffffff) (9218868437227405311 : UInt64)) .g) := by
  have ha := abs_fin h
  have hb := (Jvm.Free.Fl.fin64_iff _).mp ha
  have hn := Jvm.Free.Fl.val64_no.mp ha.noNaN
  have hm : FP.Core.val64 9218868437227405311 ≠ .nan := by decide +kernel
  have hx : (x &&& 0x7fffffffffffffff).toNat < 2 ^ 63 := by
    rw [UInt64.toNat_and, show (0x7fffffffffffffff : UInt64).toNat = 2 ^ 63 - 1 from rfl, Nat.and_two_pow_sub_one_eq_mod]
    exact Nat.mod_lt _ (by decide)
  have hy : (9218868437227405311 : UInt64).toNat = 9218868437227405311 := rfl
  obtain ⟨m1, m2, m3⟩ := FP.Core.mono_bits hn hm hx (by rw [hy]; decide)
  rw [hy] at m1 m2 m3
  rw [Nat.mod_eq_of_lt hx] at hb
  by_cases q : (x &&& 0x7fffffffffffffff).toNat < 9218868437227405311
  · rw [show FP.dcmp (x &&& 0x7fffffffffffffff) (9218868437227405311 : UInt64) = some .lt from m1.mpr q]; decide
  · rw [show FP.dcmp (x &&& 0x7fffffffffffffff) (9218868437227405311 : UInt64) = some .eq from m2.mpr (by omega)]; decide
theorem own_wh {a : Int64} (h : -16777216 < a.toInt ∧ a.toInt < 16777216) : FP.Core.Whole a.toInt (FP.Core.val64 (FP.l2d a)) := FP.Core.l2d_whole ⟨by omega, by omega⟩
theorem own_mulb {a b : Int} (h1 : -1048576 < a ∧ a < 1048576) (h2 : -1048576 < b ∧ b < 1048576) : -1099511627776 ≤ a * b ∧ a * b ≤ 1099511627776 := by
  have h : (a * b).natAbs ≤ 1048576 * 1048576 := by rw [Int.natAbs_mul]; exact Nat.mul_le_mul (by omega) (by omega)
  omega
theorem own_x1 {k : Int64} (h : -1048576 < k.toInt ∧ k.toInt < 1048576) : Jvm.OwnF.Quart k.toInt (FP.ddiv (FP.l2d k) (4616189618054758400 : UInt64)) :=
  Jvm.OwnF.quart_div (by omega) (own_wh ⟨by omega, by omega⟩)
theorem own_x2 {k w : Int64} (h : -1048576 < k.toInt ∧ k.toInt < 1048576) (hw : (-1048576 < w.toInt ∧ w.toInt < 1048576) ∧ w ≠ 0) : Jvm.OwnF.Quart (k.toInt * w.toInt) (FP.dmul (FP.ddiv (FP.l2d k) (4616189618054758400 : UInt64)) (FP.l2d w)) := by
  have := own_mulb h hw.1
  exact Jvm.OwnF.quart_mul (own_x1 h) (own_wh ⟨by omega, by omega⟩) (by omega)
theorem own_x3 {a k w : Int64} (ha : -16777216 < a.toInt ∧ a.toInt < 16777216) (h : -1048576 < k.toInt ∧ k.toInt < 1048576) (hw : (-1048576 < w.toInt ∧ w.toInt < 1048576) ∧ w ≠ 0) : Jvm.OwnF.Quart (4 * a.toInt + k.toInt * w.toInt) (FP.dadd (FP.l2d a) (FP.dmul (FP.ddiv (FP.l2d k) (4616189618054758400 : UInt64)) (FP.l2d w))) := by
  have := own_mulb h hw.1
  exact Jvm.OwnF.quart_add (own_wh ha) (own_x2 h hw) (by omega)
theorem own_x4 {a k w : Int64} (ha : -16777216 < a.toInt ∧ a.toInt < 16777216) (h : -1048576 < k.toInt ∧ k.toInt < 1048576) (hw : (-1048576 < w.toInt ∧ w.toInt < 1048576) ∧ w ≠ 0) : Jvm.OwnF.Quart (4 * a.toInt + k.toInt * w.toInt) (FP.ddiv (FP.l2d (((4 : Int64) * a) + (k * w))) (4616189618054758400 : UInt64)) := by
  have hm := own_mulb h hw.1
  have e1 : ((4 : Int64) * a).toInt = 4 * a.toInt := by
    rw [Int64.toInt_mul, show (4 : Int64).toInt = 4 from rfl]; exact Int.bmod_eq_of_le (by omega) (by omega)
  have e2 : (k * w).toInt = k.toInt * w.toInt := by
    rw [Int64.toInt_mul]; exact Int.bmod_eq_of_le (by omega) (by omega)
  have e3 : (((4 : Int64) * a) + (k * w)).toInt = 4 * a.toInt + k.toInt * w.toInt := by
    rw [Int64.toInt_add, e1, e2]; exact Int.bmod_eq_of_le (by omega) (by omega)
  have hh : FP.Core.Whole (((4 : Int64) * a) + (k * w)).toInt (FP.Core.val64 (FP.l2d (((4 : Int64) * a) + (k * w)))) := FP.Core.l2d_whole ⟨by omega, by omega⟩
  rw [e3] at hh
  exact Jvm.OwnF.quart_div (by omega) hh
theorem own_q {i : Int} {x : UInt64} (h : Jvm.OwnF.Quart i x) : Jvm.Free.Fl.NoNaN64 x := Jvm.Free.Fl.val64_no.mpr h.num
theorem own_eq {i : Int} {x y : UInt64} (hx : Jvm.OwnF.Quart i x) (hy : Jvm.OwnF.Quart i y) : cmpValue (FP.dcmp x y) .l = (0 : Int32) := by
  have e : FP.dcmp x y = some (compare i i) := Jvm.OwnF.quart_cmp hx hy
  rw [e, show compare i i = .eq from (FP.Core.compare_eq_iff i i).mpr rfl]
  rfl
theorem d4_0 : decode jdk_117_method_8_code 0 = .ok (.dload_n 0, 1) := by decide +kernel
theorem d4_1 : decode jdk_117_method_8_code 1 = .ok (.invokestatic 38, 3) := by decide +kernel
theorem d4_4 : decode jdk_117_method_8_code 4 = .ok (.ldc2_w 111, 3) := by decide +kernel
theorem d4_7 : decode jdk_117_method_8_code 7 = .ok (.dcmp .g, 1) := by decide +kernel
theorem d4_8 : decode jdk_117_method_8_code 8 = .ok (.ifCond .gt 7, 3) := by decide +kernel
theorem d4_11 : decode jdk_117_method_8_code 11 = .ok (.iconst 1, 1) := by decide +kernel
theorem d4_12 : decode jdk_117_method_8_code 12 = .ok (.goto 4, 3) := by decide +kernel
theorem d4_16 : decode jdk_117_method_8_code 16 = .ok (.ireturn, 1) := by decide +kernel
theorem pd_28D29D : parseMethodDescriptor "(D)D" = some ⟨[.double], some .double⟩ := by decide +kernel
theorem pn_4 : plainName "java/lang/Double" = true := by first | (simp [plainName, overriddenIn]; done) | decide +kernel
theorem ef_4 (m : MethodId) (x0 : UInt64) : entryFrame m #[(.double x0)] 2 = mkF m 0 #[.val (.double x0), .second] [] := by first | (simp [entryFrame, mkF, argsToLocals, Value.category]; done) | rfl
def Q4 (Z : State) (d0 : UInt64) (h0 : Heap) (n0 : Nat) (v : Option Value) (h : Heap) (L : List Loc) : Prop := v = some (.int (1 : Int32)) ∧ Fr n0 L ∧ h = h0
set_option maxRecDepth 65536 in
set_option maxHeartbeats 40000000 in
theorem rm4 (l : Launch) (Z : State) (aw : Array Value) (hw : ∀ d ∈ tables_1, d.before aw Z = true) (ws : List Jvm.Cond) (d0 : UInt64) (h0 : Heap) (n0 : Nat) (Z0 : n0 ≤ h0.size) (hfin : Jvm.Free.Fl.Fin64 d0) :
    MetFree l (⟨"java/lang/Double", "isFinite", "(D)Z"⟩ : MethodName) (head1 (Jvm.Cond.code (⟨"java/lang/Double", "isFinite", "(D)Z"⟩ : MethodName) jdk_117_method_8_code 2 (some .boolean) :: ws) ({ frames := 1, cells := 0, slots := 0, locals := 13 } : Room)) (fun a U => a = #[(.double d0)] ∧ Z.Warmed39 U.vm ∧ U.heap = h0) (fun _ _ _ _ _ => True) (fun _ U o U' => ∃ v L, o = .returned v ∧ Q4 Z d0 h0 n0 v U'.heap L ∧ FrameEnd U o U' L ({ frames := 1, cells := 0, slots := 0, locals := 13 } : Room).cells ({ frames := 1, cells := 0, slots := 0, locals := 13 } : Room).slots) := by
  refine MetFree.of_bodySF (plainFor_of_name pn_4) hisR ?_
  intro p e s m args below meth c s₁ Bd hml0 hP hK
  obtain ⟨rfl, hZ, hh⟩ := hP
  have hx := Bd.exec
  have hby := Bd.bytes
  have hml : c.maxLocals = 2 := hml0
  have hown : s.vm.findClass "java/lang/Double" = some m.cls := findClass_of_methodNamed Bd.named
  have hnm := (name_of_methodNamed Bd.named Bd.method).1
  have hlk : meth.locks = false := BodyLoose.notSynchronized Bd
  have X0 : Stand p l e ({ frames := 1, cells := 0, slots := 0, locals := 13 } : Room) s m #[(.double d0)] below meth c s₁ [] 0 0 := Stand.of_body Bd
  have e0 : s₁.heap = h0 := by rw [← hh, Bd.state]; rfl
  have N0 := Fr.nil n0
  show Run p e s below (Q4 Z d0 h0 n0) ({ frames := 1, cells := 0, slots := 0, locals := 13 } : Room).cells ({ frames := 1, cells := 0, slots := 0, locals := 13 } : Room).slots s₁ (entryFrame m #[(.double d0)] 2)
  rw [ef_4]
  show Run _ _ _ _ _ _ _ s₁ (mkF m 0 #[.val (.double d0), .second] [])
  refine go (T' := s₁) (f' := (mkF m 1 #[.val (.double d0), .second] [(.double d0)])) (by intro t k; exact XS.dloadN X0.here hx rfl (hb hby d4_0) rfl k) ?_
  obtain ⟨T1, X1, e1, st1⟩ := natS X0 hx hZ hown (hw _ (List.mem_of_getElem? (i := 26) rfl)) (hw _ (List.mem_of_getElem? (i := 27) rfl)) (hw _ (List.mem_of_getElem? (i := 28) rfl)) (hw _ (List.mem_of_getElem? (i := 29) rfl)) (by decide) e0 (W := 0) (F := fun a' => a' = #[.double d0] ∧ Jvm.Free.Fl.NoNaN64 d0) (fun hc => Jvm.Free.Fl.Abs.absD_pays d0 hc (by decide) (by decide)) (g := (mkF m 1 #[.val (.double d0), .second] [(.double d0)])) rfl (by rw [hml]; rfl) (argsL := [.double d0]) (rest := []) (lenOf pd_28D29D rfl) rfl (by show 2 * 0 + _ ≤ _; exact Nat.le_of_eq rfl) (hb hby d4_1) (by decide) (by decide) ⟨rfl, hfin.noNaN⟩ rfl
  refine go st1 ?_
  show Run _ _ _ _ _ _ _ T1 (mkF m 4 #[.val (.double d0), .second] [(.double (d0 &&& 0x7fffffffffffffff))])
  refine go (T' := T1) (f' := (mkF m 7 #[.val (.double d0), .second] [(.double (9218868437227405311 : UInt64)), (.double (d0 &&& 0x7fffffffffffffff))])) (by intro t k; exact X1.ldc2DoubleC hx hown (mvT hZ (hw _ (List.mem_of_getElem? (i := 30) rfl))) (g := (mkF m 4 #[.val (.double d0), .second] [(.double (d0 &&& 0x7fffffffffffffff))])) rfl (hb hby d4_4) _ k) ?_
  refine go (T' := T1) (f' := (mkF m 8 #[.val (.double d0), .second] [(.int (cmpValue (FP.dcmp (d0 &&& 0x7fffffffffffffff) (9218868437227405311 : UInt64)) .g))])) (by intro t k; exact XS.dcmpS X1.here hx rfl (hb hby d4_7) rfl rfl k) ?_
  refine go (T' := T1) (f' := (mkF m 11 #[.val (.double d0), .second] [])) (by intro t k; exact XS.ifNo X1.here hx rfl (hb hby d4_8) rfl ((if0 _ _).trans (flt (own_fin hfin : ¬ ((0 : Int32) < (cmpValue (FP.dcmp (d0 &&& 0x7fffffffffffffff) (9218868437227405311 : UInt64)) .g)))).2.2.1) k) ?_
  refine go (T' := T1) (f' := (mkF m 12 #[.val (.double d0), .second] [(.int (1 : Int32))])) (by intro t k; exact XS.iconst X1.here hx rfl (hb hby d4_11) k) ?_
  refine go (T' := T1) (f' := (mkF m 16 #[.val (.double d0), .second] [(.int (1 : Int32))])) (by intro t k; exact XS.goto X1.here hx rfl (pc0 := 12) (pc' := 16) rfl (hb hby d4_12) (by decide) (by decide) k) ?_
  refine retZ X1 hx (t := .boolean) Bd.returns (by simp) (hb hby d4_16) hlk (by decide) (by decide) ?_
  show Q4 Z d0 h0 n0 _ T1.heap _
  rw [e1]
  have hv' : (nar .boolean (1 : Int32)) = (1 : Int32) := by
    rfl
  have hv : (some (.int (nar .boolean (1 : Int32))) : Option Value) = some (.int (1 : Int32)) := congrArg (fun z => (some (.int z) : Option Value)) hv'
  exact ⟨hv, N0, rfl⟩
theorem d3_0 : decode prog_27_method_10_code 0 = .ok (.dload_n 1, 1) := by decide +kernel
theorem d3_1 : decode prog_27_method_10_code 1 = .ok (.invokestatic 33, 3) := by decide +kernel
theorem d3_4 : decode prog_27_method_10_code 4 = .ok (.ifCond .ne 18, 3) := by decide +kernel
theorem d3_22 : decode prog_27_method_10_code 22 = .ok (.return_, 1) := by decide +kernel
theorem pd_28D29Z : parseMethodDescriptor "(D)Z" = some ⟨[.double], some .boolean⟩ := by decide +kernel
theorem pn_3 : plainName "com/example/mapwright/mapwright/image/Placement" = true := by first | (simp [plainName, overriddenIn]; done) | decide +kernel
theorem ef_3 (m : MethodId) (x0 : Addr) (x1 : UInt64) : entryFrame m #[(.ref x0), (.double x1)] 3 = mkF m 0 #[.val (.ref x0), .val (.double x1), .second] [] := by first | (simp [entryFrame, mkF, argsToLocals, Value.category]; done) | rfl
def Q3 (Z : State) (a0 : Addr) (d1 : UInt64) (h0 : Heap) (n0 : Nat) (v : Option Value) (h : Heap) (L : List Loc) : Prop := v = none ∧ Fr n0 L ∧ h = h0
set_option maxRecDepth 65536 in
set_option maxHeartbeats 40000000 in
theorem rm3 (l : Launch) (Z : State) (aw : Array Value) (hw : ∀ d ∈ tables_1, d.before aw Z = true) (ws : List Jvm.Cond) (a0 : Addr) (d1 : UInt64) (h0 : Heap) (n0 : Nat) (Z0 : n0 ≤ h0.size) (hfin : Jvm.Free.Fl.Fin64 d1) :
    MetFree l (⟨"com/example/mapwright/mapwright/image/Placement", "requireFinite", "(Ljava/lang/String;D)V"⟩ : MethodName) (head1 (Jvm.Cond.code (⟨"com/example/mapwright/mapwright/image/Placement", "requireFinite", "(Ljava/lang/String;D)V"⟩ : MethodName) prog_27_method_10_code 3 none :: ws) ({ frames := 2, cells := 0, slots := 0, locals := 26 } : Room)) (fun a U => a = #[(.ref a0), (.double d1)] ∧ Z.Warmed39 U.vm ∧ U.heap = h0) (fun _ _ _ _ _ => True) (fun _ U o U' => ∃ v L, o = .returned v ∧ Q3 Z a0 d1 h0 n0 v U'.heap L ∧ FrameEnd U o U' L ({ frames := 2, cells := 0, slots := 0, locals := 26 } : Room).cells ({ frames := 2, cells := 0, slots := 0, locals := 26 } : Room).slots) := by
  refine MetFree.of_bodySF (plainFor_of_name pn_3) hisR ?_
  intro p e s m args below meth c s₁ Bd hml0 hP hK
  obtain ⟨rfl, hZ, hh⟩ := hP
  have hx := Bd.exec
  have hby := Bd.bytes
  have hml : c.maxLocals = 3 := hml0
  have hown : s.vm.findClass "com/example/mapwright/mapwright/image/Placement" = some m.cls := findClass_of_methodNamed Bd.named
  have hnm := (name_of_methodNamed Bd.named Bd.method).1
  have hlk : meth.locks = false := BodyLoose.notSynchronized Bd
  have X0 : Stand p l e ({ frames := 2, cells := 0, slots := 0, locals := 26 } : Room) s m #[(.ref a0), (.double d1)] below meth c s₁ [] 0 0 := Stand.of_body Bd
  have e0 : s₁.heap = h0 := by rw [← hh, Bd.state]; rfl
  have N0 := Fr.nil n0
  show Run p e s below (Q3 Z a0 d1 h0 n0) ({ frames := 2, cells := 0, slots := 0, locals := 26 } : Room).cells ({ frames := 2, cells := 0, slots := 0, locals := 26 } : Room).slots s₁ (entryFrame m #[(.ref a0), (.double d1)] 3)
  rw [ef_3]
  show Run _ _ _ _ _ _ _ s₁ (mkF m 0 #[.val (.ref a0), .val (.double d1), .second] [])
  refine go (T' := s₁) (f' := (mkF m 1 #[.val (.ref a0), .val (.double d1), .second] [(.double d1)])) (by intro t k; exact XS.dloadN X0.here hx rfl (hb hby d3_0) rfl k) ?_
  obtain ⟨_, _, ⟨T1, Lz1, kz1, nz1⟩, -, X1, ⟨Lc1, hQ1, lz1, yz1, zz1⟩, st1⟩ := Jvm.LawKit.callS X0 hx (y := (⟨"java/lang/Double", "isFinite", "(D)Z"⟩ : MethodName)) hown (mvT hZ (hw _ (List.mem_of_getElem? (i := 22) rfl))) (mvT hZ (hw _ (List.mem_of_getElem? (i := 23) rfl))) (mvT hZ (hw _ (List.mem_of_getElem? (i := 24) rfl))) (mvT hZ (hw _ (List.mem_of_getElem? (i := 25) rfl))) (by decide) (backOf (W := 0) (rm4 l Z aw hw [] d1  h0 n0 Z0 hfin) hZ (hw _ (List.mem_of_getElem? (i := 25) rfl)) (hw _ (List.mem_of_getElem? (i := 24) rfl)) (by decide) (by decide)) (g := (mkF m 1 #[.val (.ref a0), .val (.double d1), .second] [(.double d1)])) rfl (by rw [hml]; rfl) (argsL := [(.double d1)]) (rest := []) (lenOf pd_28D29Z rfl) rfl (by show 2 * 0 + _ ≤ _; exact Nat.le_of_eq rfl) (hb hby d3_1) (fun _ _ => ⟨rfl, e0, (by decide : 0 + 0 ≤ _), (by decide : 0 + 0 ≤ _)⟩)
  dsimp only [Pt.U, Pt.locs, Pt.cells, Pt.slots] at X1 lz1 yz1 zz1 st1 hQ1
  subst lz1 yz1 zz1
  obtain ⟨rfl, N1q, e1⟩ := hQ1
  have N1 := Fr.app N0 N1q
  refine go st1 ?_
  show Run _ _ _ _ _ _ _ T1 (mkF m 4 #[.val (.ref a0), .val (.double d1), .second] [(.int (1 : Int32))])
  refine go (T' := T1) (f' := (mkF m 22 #[.val (.ref a0), .val (.double d1), .second] [])) (by intro t k; exact XS.ifYes X1.here hx rfl (pc0 := 4) (pc' := 22) rfl (hb hby d3_4) rfl ((if0 _ _).trans (feq (by decide : ¬ ((1 : Int32) = (0 : Int32)))).2) (by decide) (by decide) k) ?_
  refine retV X1 hx Bd.returns (hb hby d3_22) hlk (by decide) (by decide) ?_
  show Q3 Z a0 d1 h0 n0 _ T1.heap _
  rw [e1]
  exact ⟨rfl, N1, rfl⟩
theorem d6_0 : decode prog_27_method_11_code 0 = .ok (.aload_n 0, 1) := by decide +kernel
theorem d6_1 : decode prog_27_method_11_code 1 = .ok (.dload_n 1, 1) := by decide +kernel
theorem d6_2 : decode prog_27_method_11_code 2 = .ok (.invokestatic 9, 3) := by decide +kernel
theorem d6_5 : decode prog_27_method_11_code 5 = .ok (.dload_n 1, 1) := by decide +kernel
theorem d6_6 : decode prog_27_method_11_code 6 = .ok (.dconst 0, 1) := by decide +kernel
theorem d6_7 : decode prog_27_method_11_code 7 = .ok (.dcmp .l, 1) := by decide +kernel
theorem d6_8 : decode prog_27_method_11_code 8 = .ok (.ifCond .ne 17, 3) := by decide +kernel
theorem d6_25 : decode prog_27_method_11_code 25 = .ok (.return_, 1) := by decide +kernel
theorem pd_28Ljava2flang2fString3bD29V : parseMethodDescriptor "(Ljava/lang/String;D)V" = some ⟨[(.object "java/lang/String"), .double], none⟩ := by decide +kernel
theorem ef_6 (m : MethodId) (x0 : Addr) (x1 : UInt64) : entryFrame m #[(.ref x0), (.double x1)] 3 = mkF m 0 #[.val (.ref x0), .val (.double x1), .second] [] := by first | (simp [entryFrame, mkF, argsToLocals, Value.category]; done) | rfl
def Q6 (Z : State) (a0 : Addr) (d1 : UInt64) (h0 : Heap) (n0 : Nat) (v : Option Value) (h : Heap) (L : List Loc) : Prop := v = none ∧ Fr n0 L ∧ h = h0
set_option maxRecDepth 65536 in
set_option maxHeartbeats 40000000 in
theorem rm6 (l : Launch) (Z : State) (aw : Array Value) (hw : ∀ d ∈ tables_1, d.before aw Z = true) (ws : List Jvm.Cond) (a0 : Addr) (d1 : UInt64) (h0 : Heap) (n0 : Nat) (Z0 : n0 ≤ h0.size) (hfin : Jvm.Free.Fl.Fin64 d1) (hnz : ¬ (cmpValue (FP.dcmp d1 (0 : UInt64)) .l = (0 : Int32))) :
    MetFree l (⟨"com/example/mapwright/mapwright/image/Placement", "requireNonZero", "(Ljava/lang/String;D)V"⟩ : MethodName) (head1 (Jvm.Cond.code (⟨"com/example/mapwright/mapwright/image/Placement", "requireNonZero", "(Ljava/lang/String;D)V"⟩ : MethodName) prog_27_method_11_code 3 none :: ws) ({ frames := 3, cells := 0, slots := 0, locals := 40 } : Room)) (fun a U => a = #[(.ref a0), (.double d1)] ∧ Z.Warmed39 U.vm ∧ U.heap = h0) (fun _ _ _ _ _ => True) (fun _ U o U' => ∃ v L, o = .returned v ∧ Q6 Z a0 d1 h0 n0 v U'.heap L ∧ FrameEnd U o U' L ({ frames := 3, cells := 0, slots := 0, locals := 40 } : Room).cells ({ frames := 3, cells := 0, slots := 0, locals := 40 } : Room).slots) := by
  refine MetFree.of_bodySF (plainFor_of_name pn_3) hisR ?_
  intro p e s m args below meth c s₁ Bd hml0 hP hK
  obtain ⟨rfl, hZ, hh⟩ := hP
  have hx := Bd.exec
  have hby := Bd.bytes
  have hml : c.maxLocals = 3 := hml0
  have hown : s.vm.findClass "com/example/mapwright/mapwright/image/Placement" = some m.cls := findClass_of_methodNamed Bd.named
  have hnm := (name_of_methodNamed Bd.named Bd.method).1
  have hlk : meth.locks = false := BodyLoose.notSynchronized Bd
  have X0 : Stand p l e ({ frames := 3, cells := 0, slots := 0, locals := 40 } : Room) s m #[(.ref a0), (.double d1)] below meth c s₁ [] 0 0 := Stand.of_body Bd
  have e0 : s₁.heap = h0 := by rw [← hh, Bd.state]; rfl
  have N0 := Fr.nil n0
  show Run p e s below (Q6 Z a0 d1 h0 n0) ({ frames := 3, cells := 0, slots := 0, locals := 40 } : Room).cells ({ frames := 3, cells := 0, slots := 0, locals := 40 } : Room).slots s₁ (entryFrame m #[(.ref a0), (.double d1)] 3)
  rw [ef_6]
  show Run _ _ _ _ _ _ _ s₁ (mkF m 0 #[.val (.ref a0), .val (.double d1), .second] [])
  refine go (T' := s₁) (f' := (mkF m 1 #[.val (.ref a0), .val (.double d1), .second] [(.ref a0)])) (by intro t k; exact XS.aloadN X0.here hx rfl (hb hby d6_0) rfl rfl k) ?_
  refine go (T' := s₁) (f' := (mkF m 2 #[.val (.ref a0), .val (.double d1), .second] [(.double d1), (.ref a0)])) (by intro t k; exact XS.dloadN X0.here hx rfl (hb hby d6_1) rfl k) ?_
  obtain ⟨_, _, ⟨T1, Lz1, kz1, nz1⟩, -, X1, ⟨Lc1, hQ1, lz1, yz1, zz1⟩, st1⟩ := Jvm.LawKit.callS X0 hx (y := (⟨"com/example/mapwright/mapwright/image/Placement", "requireFinite", "(Ljava/lang/String;D)V"⟩ : MethodName)) hown (mvT hZ (hw _ (List.mem_of_getElem? (i := 19) rfl))) (mvT hZ (hw _ (List.mem_of_getElem? (i := 20) rfl))) (mvT hZ (hw _ (List.mem_of_getElem? (i := 4) rfl))) (mvT hZ (hw _ (List.mem_of_getElem? (i := 21) rfl))) (by decide) (backOf (W := 0) (rm3 l Z aw hw [] a0 d1  h0 n0 Z0 hfin) hZ (hw _ (List.mem_of_getElem? (i := 21) rfl)) (hw _ (List.mem_of_getElem? (i := 4) rfl)) (by decide) (by decide)) (g := (mkF m 2 #[.val (.ref a0), .val (.double d1), .second] [(.double d1), (.ref a0)])) rfl (by rw [hml]; rfl) (argsL := [(.ref a0), (.double d1)]) (rest := []) (lenOf pd_28Ljava2flang2fString3bD29V rfl) rfl (by show 2 * 0 + _ ≤ _; exact Nat.le_of_eq rfl) (hb hby d6_2) (fun _ _ => ⟨rfl, e0, (by decide : 0 + 0 ≤ _), (by decide : 0 + 0 ≤ _)⟩)
  dsimp only [Pt.U, Pt.locs, Pt.cells, Pt.slots] at X1 lz1 yz1 zz1 st1 hQ1
  subst lz1 yz1 zz1
  obtain ⟨rfl, N1q, e1⟩ := hQ1
  have N1 := Fr.app N0 N1q
  refine go st1 ?_
  show Run _ _ _ _ _ _ _ T1 (mkF m 5 #[.val (.ref a0), .val (.double d1), .second] [])
  refine go (T' := T1) (f' := (mkF m 6 #[.val (.ref a0), .val (.double d1), .second] [(.double d1)])) (by intro t k; exact XS.dloadN X1.here hx rfl (hb hby d6_5) rfl k) ?_
  refine go (T' := T1) (f' := (mkF m 7 #[.val (.ref a0), .val (.double d1), .second] [(.double (0 : UInt64)), (.double d1)])) (by intro t k; exact XS.dconst0 X1.here hx rfl (hb hby d6_6) rfl k) ?_
  refine go (T' := T1) (f' := (mkF m 8 #[.val (.ref a0), .val (.double d1), .second] [(.int (cmpValue (FP.dcmp d1 (0 : UInt64)) .l))])) (by intro t k; exact XS.dcmpS X1.here hx rfl (hb hby d6_7) rfl rfl k) ?_
  refine go (T' := T1) (f' := (mkF m 25 #[.val (.ref a0), .val (.double d1), .second] [])) (by intro t k; exact XS.ifYes X1.here hx rfl (pc0 := 8) (pc' := 25) rfl (hb hby d6_8) rfl ((if0 _ _).trans (feq (hnz : ¬ ((cmpValue (FP.dcmp d1 (0 : UInt64)) .l) = (0 : Int32)))).2) (by decide) (by decide) k) ?_
  refine retV X1 hx Bd.returns (hb hby d6_25) hlk (by decide) (by decide) ?_
  show Q6 Z a0 d1 h0 n0 _ T1.heap _
  rw [e1]
  exact ⟨rfl, N1, rfl⟩
theorem d1_0 : decode prog_27_method_1_code 0 = .ok (.aload_n 0, 1) := by decide +kernel
theorem d1_1 : decode prog_27_method_1_code 1 = .ok (.invokespecial 1, 3) := by decide +kernel
theorem d1_4 : decode prog_27_method_1_code 4 = .ok (.ldc 7, 2) := by decide +kernel
theorem d1_6 : decode prog_27_method_1_code 6 = .ok (.dload_n 1, 1) := by decide +kernel
theorem d1_7 : decode prog_27_method_1_code 7 = .ok (.invokestatic 9, 3) := by decide +kernel
theorem d1_10 : decode prog_27_method_1_code 10 = .ok (.ldc 15, 2) := by decide +kernel
theorem d1_12 : decode prog_27_method_1_code 12 = .ok (.dload_n 3, 1) := by decide +kernel
theorem d1_13 : decode prog_27_method_1_code 13 = .ok (.invokestatic 9, 3) := by decide +kernel
theorem d1_16 : decode prog_27_method_1_code 16 = .ok (.ldc 17, 2) := by decide +kernel
theorem d1_18 : decode prog_27_method_1_code 18 = .ok (.dload 5, 2) := by decide +kernel
theorem d1_20 : decode prog_27_method_1_code 20 = .ok (.invokestatic 19, 3) := by decide +kernel
theorem d1_23 : decode prog_27_method_1_code 23 = .ok (.ldc 22, 2) := by decide +kernel
theorem d1_25 : decode prog_27_method_1_code 25 = .ok (.dload 7, 2) := by decide +kernel
theorem d1_27 : decode prog_27_method_1_code 27 = .ok (.invokestatic 19, 3) := by decide +kernel
theorem d1_30 : decode prog_27_method_1_code 30 = .ok (.aload_n 0, 1) := by decide +kernel
theorem d1_31 : decode prog_27_method_1_code 31 = .ok (.dload_n 1, 1) := by decide +kernel
theorem d1_32 : decode prog_27_method_1_code 32 = .ok (.putfield 24, 3) := by decide +kernel
theorem d1_35 : decode prog_27_method_1_code 35 = .ok (.aload_n 0, 1) := by decide +kernel
theorem d1_36 : decode prog_27_method_1_code 36 = .ok (.dload_n 3, 1) := by decide +kernel
theorem d1_37 : decode prog_27_method_1_code 37 = .ok (.putfield 27, 3) := by decide +kernel
theorem d1_40 : decode prog_27_method_1_code 40 = .ok (.aload_n 0, 1) := by decide +kernel
theorem d1_41 : decode prog_27_method_1_code 41 = .ok (.dload 5, 2) := by decide +kernel
theorem d1_43 : decode prog_27_method_1_code 43 = .ok (.putfield 29, 3) := by decide +kernel
theorem d1_46 : decode prog_27_method_1_code 46 = .ok (.aload_n 0, 1) := by decide +kernel
theorem d1_47 : decode prog_27_method_1_code 47 = .ok (.dload 7, 2) := by decide +kernel
theorem d1_49 : decode prog_27_method_1_code 49 = .ok (.putfield 31, 3) := by decide +kernel
theorem d1_52 : decode prog_27_method_1_code 52 = .ok (.return_, 1) := by decide +kernel
theorem ef_1 (m : MethodId) (x0 : Addr) (x1 : UInt64) (x2 : UInt64) (x3 : UInt64) (x4 : UInt64) : entryFrame m #[(.ref x0), (.double x1), (.double x2), (.double x3), (.double x4)] 9 = mkF m 0 #[.val (.ref x0), .val (.double x1), .second, .val (.double x2), .second, .val (.double x3), .second, .val (.double x4), .second] [] := by first | (simp [entryFrame, mkF, argsToLocals, Value.category]; done) | rfl
def Q1 (Z : State) (a0 : Addr) (d1 : UInt64) (d2 : UInt64) (d3 : UInt64) (d4 : UInt64) (h0 : Heap) (n0 : Nat) (v : Option Value) (h : Heap) (L : List Loc) : Prop := v = none ∧ Fr n0 L ∧ Keep h0 h [a0] ∧ Fld Z h a0 "com/example/mapwright/mapwright/image/Placement" "originX" "D" (.double d1) ∧ Fld Z h a0 "com/example/mapwright/mapwright/image/Placement" "originY" "D" (.double d2) ∧ Fld Z h a0 "com/example/mapwright/mapwright/image/Placement" "pixelWidth" "D" (.double d3) ∧ Fld Z h a0 "com/example/mapwright/mapwright/image/Placement" "pixelHeight" "D" (.double d4)
set_option maxRecDepth 65536 in
set_option maxHeartbeats 40000000 in
theorem rm1 (l : Launch) (Z : State) (aw : Array Value) (hw : ∀ d ∈ tables_1, d.before aw Z = true) (ws : List Jvm.Cond) (a0 : Addr) (d1 : UInt64) (d2 : UInt64) (d3 : UInt64) (d4 : UInt64) (h0 : Heap) (n0 : Nat) (Z0 : n0 ≤ h0.size) (E_a0 : Exa Z h0 a0 "com/example/mapwright/mapwright/image/Placement") (F_originX : Fld Z h0 a0 "com/example/mapwright/mapwright/image/Placement" "originX" "D" (.double (0 : UInt64))) (F_originY : Fld Z h0 a0 "com/example/mapwright/mapwright/image/Placement" "originY" "D" (.double (0 : UInt64))) (F_pixelWidth : Fld Z h0 a0 "com/example/mapwright/mapwright/image/Placement" "pixelWidth" "D" (.double (0 : UInt64))) (F_pixelHeight : Fld Z h0 a0 "com/example/mapwright/mapwright/image/Placement" "pixelHeight" "D" (.double (0 : UInt64))) (g_a0 : n0 ≤ a0) (hf1 : Jvm.Free.Fl.Fin64 d1) (hf2 : Jvm.Free.Fl.Fin64 d2) (hf3 : Jvm.Free.Fl.Fin64 d3) (hf4 : Jvm.Free.Fl.Fin64 d4) (hn3 : ¬ (cmpValue (FP.dcmp d3 (0 : UInt64)) .l = (0 : Int32))) (hn4 : ¬ (cmpValue (FP.dcmp d4 (0 : UInt64)) .l = (0 : Int32))) :
    MetFree l (⟨"com/example/mapwright/mapwright/image/Placement", "<init>", "(DDDD)V"⟩ : MethodName) (head1 (Jvm.Cond.code (⟨"com/example/mapwright/mapwright/image/Placement", "<init>", "(DDDD)V"⟩ : MethodName) prog_27_method_1_code 9 none :: ws) ({ frames := 4, cells := 8, slots := 156, locals := 54 } : Room)) (fun a U => a = #[(.ref a0), (.double d1), (.double d2), (.double d3), (.double d4)] ∧ Z.Warmed39 U.vm ∧ U.heap = h0) (fun _ _ _ _ _ => True) (fun _ U o U' => ∃ v L, o = .returned v ∧ Q1 Z a0 d1 d2 d3 d4 h0 n0 v U'.heap L ∧ ReturnedEndW U o U' L ({ frames := 4, cells := 8, slots := 156, locals := 54 } : Room).cells ({ frames := 4, cells := 8, slots := 156, locals := 54 } : Room).slots) := by
  refine MetFree.of_bodySF (plainFor_of_name pn_3) hisR ?_
  intro p e s m args below meth c s₁ Bd hml0 hP hK
  obtain ⟨rfl, hZ, hh⟩ := hP
  have hx := Bd.exec
  have hby := Bd.bytes
  have hml : c.maxLocals = 9 := hml0
  have hown : s.vm.findClass "com/example/mapwright/mapwright/image/Placement" = some m.cls := findClass_of_methodNamed Bd.named
  have hnm := (name_of_methodNamed Bd.named Bd.method).1
  have hlk : meth.locks = false := BodyLoose.notSynchronized Bd
  have X0 : Stand p l e ({ frames := 4, cells := 8, slots := 156, locals := 54 } : Room) s m #[(.ref a0), (.double d1), (.double d2), (.double d3), (.double d4)] below meth c s₁ [] 0 0 := Stand.of_body Bd
  have e0 : s₁.heap = h0 := by rw [← hh, Bd.state]; rfl
  have N0 := Fr.nil n0
  show RunW p e s below (Q1 Z a0 d1 d2 d3 d4 h0 n0) ({ frames := 4, cells := 8, slots := 156, locals := 54 } : Room).cells ({ frames := 4, cells := 8, slots := 156, locals := 54 } : Room).slots s₁ (entryFrame m #[(.ref a0), (.double d1), (.double d2), (.double d3), (.double d4)] 9)
  rw [ef_1]
  show RunW _ _ _ _ _ _ _ s₁ (mkF m 0 #[.val (.ref a0), .val (.double d1), .second, .val (.double d2), .second, .val (.double d3), .second, .val (.double d4), .second] [])
  refine goW (T' := s₁) (f' := (mkF m 1 #[.val (.ref a0), .val (.double d1), .second, .val (.double d2), .second, .val (.double d3), .second, .val (.double d4), .second] [(.ref a0)])) (by intro t k; exact XS.aloadN X0.here hx rfl (hb hby d1_0) rfl rfl k) ?_
  obtain ⟨T1, X1, e1, st1⟩ := initO X0 hx hZ hown (hw _ (List.mem_of_getElem? (i := 8) rfl)) (hw _ (List.mem_of_getElem? (i := 9) rfl)) (hw _ (List.mem_of_getElem? (i := 10) rfl)) e0 (g := (mkF m 1 #[.val (.ref a0), .val (.double d1), .second, .val (.double d2), .second, .val (.double d3), .second, .val (.double d4), .second] [(.ref a0)])) rfl (by rw [hml]; rfl) rfl (hb hby d1_1) (by decide) (W := 0) (by show 2 * 0 + _ ≤ _; exact Nat.le_of_eq rfl) (by decide)
  refine goW st1 ?_
  show RunW _ _ _ _ _ _ _ T1 (mkF m 4 #[.val (.ref a0), .val (.double d1), .second, .val (.double d2), .second, .val (.double d3), .second, .val (.double d4), .second] [])
  have wS2 : ∀ d ∈ Bundle.stringAtoms, d.before aw Z = true := by
    intro d hd
    simp only [Bundle.stringAtoms, List.mem_cons, List.not_mem_nil, or_false] at hd
    rcases hd with rfl | rfl | rfl | rfl | rfl | rfl | rfl
    · exact (hw _ (List.mem_of_getElem? (i := 12) rfl))
    · exact (hw _ (List.mem_of_getElem? (i := 13) rfl))
    · exact (hw _ (List.mem_of_getElem? (i := 14) rfl))
    · exact (hw _ (List.mem_of_getElem? (i := 15) rfl))
    · exact (hw _ (List.mem_of_getElem? (i := 16) rfl))
    · exact (hw _ (List.mem_of_getElem? (i := 17) rfl))
    · exact (hw _ (List.mem_of_getElem? (i := 18) rfl))
  obtain ⟨ls2, T2, h2, kk2, X2, e2, E2, hS2, hk2, hZ2, hown2, st2⟩ := ldcS (s := s) (vm0 := s.vm) X1 hx hZ hown (hw _ (List.mem_of_getElem? (i := 11) rfl)) wS2 e1 ((State.WarmedH.refl s).since 0) (Nat.zero_le _) (g := (mkF m 4 #[.val (.ref a0), .val (.double d1), .second, .val (.double d2), .second, .val (.double d3), .second, .val (.double d4), .second] [])) rfl (hb hby d1_4) (n := 28) (by decide) (by decide) (by decide) (by decide)
  have hZ := hZ2
  have hown := hown2
  have K2 : Keep h0 h2 [] := (Keep.refl _ _).ext E2
  have E2_a0 := Exa.keep E_a0 K2
  have F2_a0_originX := Fld.keep F_originX K2 nin0
  have F2_a0_originY := Fld.keep F_originY K2 nin0
  have F2_a0_pixelWidth := Fld.keep F_pixelWidth K2 nin0
  have F2_a0_pixelHeight := Fld.keep F_pixelHeight K2 nin0
  have Z2 : n0 ≤ h2.size := Nat.le_trans Z0 K2.1
  have KK2 : Keep h0 h2 [a0] := (Keep.refl _ _).trans K2 all0
  refine goW st2 ?_
  show RunW _ _ _ _ _ _ _ T2 (mkF m 6 #[.val (.ref a0), .val (.double d1), .second, .val (.double d2), .second, .val (.double d3), .second, .val (.double d4), .second] [(.ref ls2)])
  refine goW (T' := T2) (f' := (mkF m 7 #[.val (.ref a0), .val (.double d1), .second, .val (.double d2), .second, .val (.double d3), .second, .val (.double d4), .second] [(.double d1), (.ref ls2)])) (by intro t k; exact XS.dloadN X2.here hx rfl (hb hby d1_6) rfl k) ?_
  obtain ⟨_, _, ⟨T3, Lz3, kz3, nz3⟩, -, X3, ⟨Lc3, hQ3, lz3, yz3, zz3⟩, st3⟩ := Jvm.LawKit.callS X2 hx (y := (⟨"com/example/mapwright/mapwright/image/Placement", "requireFinite", "(Ljava/lang/String;D)V"⟩ : MethodName)) hown (mvT hZ (hw _ (List.mem_of_getElem? (i := 19) rfl))) (mvT hZ (hw _ (List.mem_of_getElem? (i := 20) rfl))) (mvT hZ (hw _ (List.mem_of_getElem? (i := 4) rfl))) (mvT hZ (hw _ (List.mem_of_getElem? (i := 21) rfl))) (by decide) (backOf (W := 0) (rm3 l Z aw hw [] ls2 d1  h2 n0 Z2 hf1) hZ (hw _ (List.mem_of_getElem? (i := 21) rfl)) (hw _ (List.mem_of_getElem? (i := 4) rfl)) (by decide) (by decide)) (g := (mkF m 7 #[.val (.ref a0), .val (.double d1), .second, .val (.double d2), .second, .val (.double d3), .second, .val (.double d4), .second] [(.double d1), (.ref ls2)])) rfl (by rw [hml]; rfl) (argsL := [(.ref ls2), (.double d1)]) (rest := []) (lenOf pd_28Ljava2flang2fString3bD29V rfl) rfl (by show 2 * 0 + _ ≤ _; exact Nat.le_of_eq rfl) (hb hby d1_7) (fun _ _ => ⟨rfl, e2, (by decide : 2 + 0 ≤ _), (by decide : 32 + 0 ≤ _)⟩)
  dsimp only [Pt.U, Pt.locs, Pt.cells, Pt.slots] at X3 lz3 yz3 zz3 st3 hQ3
  subst lz3 yz3 zz3
  obtain ⟨rfl, N3q, e3⟩ := hQ3
  have N3 := Fr.app N0 N3q
  refine goW st3 ?_
  show RunW _ _ _ _ _ _ _ T3 (mkF m 10 #[.val (.ref a0), .val (.double d1), .second, .val (.double d2), .second, .val (.double d3), .second, .val (.double d4), .second] [])
  have wS4 : ∀ d ∈ Bundle.stringAtoms, d.before aw Z = true := by
    intro d hd
    simp only [Bundle.stringAtoms, List.mem_cons, List.not_mem_nil, or_false] at hd
    rcases hd with rfl | rfl | rfl | rfl | rfl | rfl | rfl
    · exact (hw _ (List.mem_of_getElem? (i := 12) rfl))
    · exact (hw _ (List.mem_of_getElem? (i := 13) rfl))
    · exact (hw _ (List.mem_of_getElem? (i := 14) rfl))
    · exact (hw _ (List.mem_of_getElem? (i := 15) rfl))
    · exact (hw _ (List.mem_of_getElem? (i := 16) rfl))
    · exact (hw _ (List.mem_of_getElem? (i := 17) rfl))
    · exact (hw _ (List.mem_of_getElem? (i := 18) rfl))
  obtain ⟨ls4, T4, h4, kk4, X4, e4, E4, hS4, hk4, hZ4, hown4, st4⟩ := ldcS (s := s) (vm0 := T2.vm) X3 hx hZ hown (hw _ (List.mem_of_getElem? (i := 31) rfl)) wS4 e3 hS2 hk2 (g := (mkF m 10 #[.val (.ref a0), .val (.double d1), .second, .val (.double d2), .second, .val (.double d3), .second, .val (.double d4), .second] [])) rfl (hb hby d1_10) (n := 28) (by decide) (by decide) (by decide) (by decide)
  have hZ := hZ4
  have hown := hown4
  have K4 : Keep h2 h4 [] := (Keep.refl _ _).ext E4
  have E4_a0 := Exa.keep E2_a0 K4
  have F4_a0_originX := Fld.keep F2_a0_originX K4 nin0
  have F4_a0_originY := Fld.keep F2_a0_originY K4 nin0
  have F4_a0_pixelWidth := Fld.keep F2_a0_pixelWidth K4 nin0
  have F4_a0_pixelHeight := Fld.keep F2_a0_pixelHeight K4 nin0
  have Z4 : n0 ≤ h4.size := Nat.le_trans Z2 K4.1
  have KK4 : Keep h0 h4 [a0] := KK2.trans K4 all0
  refine goW st4 ?_
  show RunW _ _ _ _ _ _ _ T4 (mkF m 12 #[.val (.ref a0), .val (.double d1), .second, .val (.double d2), .second, .val (.double d3), .second, .val (.double d4), .second] [(.ref ls4)])
  refine goW (T' := T4) (f' := (mkF m 13 #[.val (.ref a0), .val (.double d1), .second, .val (.double d2), .second, .val (.double d3), .second, .val (.double d4), .second] [(.double d2), (.ref ls4)])) (by intro t k; exact XS.dloadN X4.here hx rfl (hb hby d1_12) rfl k) ?_
  obtain ⟨_, _, ⟨T5, Lz5, kz5, nz5⟩, -, X5, ⟨Lc5, hQ5, lz5, yz5, zz5⟩, st5⟩ := Jvm.LawKit.callS X4 hx (y := (⟨"com/example/mapwright/mapwright/image/Placement", "requireFinite", "(Ljava/lang/String;D)V"⟩ : MethodName)) hown (mvT hZ (hw _ (List.mem_of_getElem? (i := 19) rfl))) (mvT hZ (hw _ (List.mem_of_getElem? (i := 20) rfl))) (mvT hZ (hw _ (List.mem_of_getElem? (i := 4) rfl))) (mvT hZ (hw _ (List.mem_of_getElem? (i := 21) rfl))) (by decide) (backOf (W := 0) (rm3 l Z aw hw [] ls4 d2  h4 n0 Z4 hf2) hZ (hw _ (List.mem_of_getElem? (i := 21) rfl)) (hw _ (List.mem_of_getElem? (i := 4) rfl)) (by decide) (by decide)) (g := (mkF m 13 #[.val (.ref a0), .val (.double d1), .second, .val (.double d2), .second, .val (.double d3), .second, .val (.double d4), .second] [(.double d2), (.ref ls4)])) rfl (by rw [hml]; rfl) (argsL := [(.ref ls4), (.double d2)]) (rest := []) (lenOf pd_28Ljava2flang2fString3bD29V rfl) rfl (by show 2 * 0 + _ ≤ _; exact Nat.le_of_eq rfl) (hb hby d1_13) (fun _ _ => ⟨rfl, e4, (by decide : 4 + 0 ≤ _), (by decide : 64 + 0 ≤ _)⟩)
  dsimp only [Pt.U, Pt.locs, Pt.cells, Pt.slots] at X5 lz5 yz5 zz5 st5 hQ5
  subst lz5 yz5 zz5
  obtain ⟨rfl, N5q, e5⟩ := hQ5
  have N5 := Fr.app N3 N5q
  refine goW st5 ?_
  show RunW _ _ _ _ _ _ _ T5 (mkF m 16 #[.val (.ref a0), .val (.double d1), .second, .val (.double d2), .second, .val (.double d3), .second, .val (.double d4), .second] [])
  have wS6 : ∀ d ∈ Bundle.stringAtoms, d.before aw Z = true := by
    intro d hd
    simp only [Bundle.stringAtoms, List.mem_cons, List.not_mem_nil, or_false] at hd
    rcases hd with rfl | rfl | rfl | rfl | rfl | rfl | rfl
    · exact (hw _ (List.mem_of_getElem? (i := 12) rfl))
    · exact (hw _ (List.mem_of_getElem? (i := 13) rfl))
    · exact (hw _ (List.mem_of_getElem? (i := 14) rfl))
    · exact (hw _ (List.mem_of_getElem? (i := 15) rfl))
    · exact (hw _ (List.mem_of_getElem? (i := 16) rfl))
    · exact (hw _ (List.mem_of_getElem? (i := 17) rfl))
    · exact (hw _ (List.mem_of_getElem? (i := 18) rfl))
  obtain ⟨ls6, T6, h6, kk6, X6, e6, E6, hS6, hk6, hZ6, hown6, st6⟩ := ldcS (s := s) (vm0 := T4.vm) X5 hx hZ hown (hw _ (List.mem_of_getElem? (i := 32) rfl)) wS6 e5 hS4 hk4 (g := (mkF m 16 #[.val (.ref a0), .val (.double d1), .second, .val (.double d2), .second, .val (.double d3), .second, .val (.double d4), .second] [])) rfl (hb hby d1_16) (n := 40) (by decide) (by decide) (by decide) (by decide)
  have hZ := hZ6
  have hown := hown6
  have K6 : Keep h4 h6 [] := (Keep.refl _ _).ext E6
  have E6_a0 := Exa.keep E4_a0 K6
  have F6_a0_originX := Fld.keep F4_a0_originX K6 nin0
  have F6_a0_originY := Fld.keep F4_a0_originY K6 nin0
  have F6_a0_pixelWidth := Fld.keep F4_a0_pixelWidth K6 nin0
  have F6_a0_pixelHeight := Fld.keep F4_a0_pixelHeight K6 nin0
  have Z6 : n0 ≤ h6.size := Nat.le_trans Z4 K6.1
  have KK6 : Keep h0 h6 [a0] := KK4.trans K6 all0
  refine goW st6 ?_
  show RunW _ _ _ _ _ _ _ T6 (mkF m 18 #[.val (.ref a0), .val (.double d1), .second, .val (.double d2), .second, .val (.double d3), .second, .val (.double d4), .second] [(.ref ls6)])
  refine goW (T' := T6) (f' := (mkF m 20 #[.val (.ref a0), .val (.double d1), .second, .val (.double d2), .second, .val (.double d3), .second, .val (.double d4), .second] [(.double d3), (.ref ls6)])) (by intro t k; exact XS.dload X6.here hx rfl (hb hby d1_18) rfl k) ?_
  obtain ⟨_, _, ⟨T7, Lz7, kz7, nz7⟩, -, X7, ⟨Lc7, hQ7, lz7, yz7, zz7⟩, st7⟩ := Jvm.LawKit.callS X6 hx (y := (⟨"com/example/mapwright/mapwright/image/Placement", "requireNonZero", "(Ljava/lang/String;D)V"⟩ : MethodName)) hown (mvT hZ (hw _ (List.mem_of_getElem? (i := 33) rfl))) (mvT hZ (hw _ (List.mem_of_getElem? (i := 34) rfl))) (mvT hZ (hw _ (List.mem_of_getElem? (i := 4) rfl))) (mvT hZ (hw _ (List.mem_of_getElem? (i := 35) rfl))) (by decide) (backOf (W := 0) (rm6 l Z aw hw [] ls6 d3  h6 n0 Z6 hf3 hn3) hZ (hw _ (List.mem_of_getElem? (i := 35) rfl)) (hw _ (List.mem_of_getElem? (i := 4) rfl)) (by decide) (by decide)) (g := (mkF m 20 #[.val (.ref a0), .val (.double d1), .second, .val (.double d2), .second, .val (.double d3), .second, .val (.double d4), .second] [(.double d3), (.ref ls6)])) rfl (by rw [hml]; rfl) (argsL := [(.ref ls6), (.double d3)]) (rest := []) (lenOf pd_28Ljava2flang2fString3bD29V rfl) rfl (by show 2 * 0 + _ ≤ _; exact Nat.le_of_eq rfl) (hb hby d1_20) (fun _ _ => ⟨rfl, e6, (by decide : 6 + 0 ≤ _), (by decide : 108 + 0 ≤ _)⟩)
  dsimp only [Pt.U, Pt.locs, Pt.cells, Pt.slots] at X7 lz7 yz7 zz7 st7 hQ7
  subst lz7 yz7 zz7
  obtain ⟨rfl, N7q, e7⟩ := hQ7
  have N7 := Fr.app N5 N7q
  refine goW st7 ?_
  show RunW _ _ _ _ _ _ _ T7 (mkF m 23 #[.val (.ref a0), .val (.double d1), .second, .val (.double d2), .second, .val (.double d3), .second, .val (.double d4), .second] [])
  have wS8 : ∀ d ∈ Bundle.stringAtoms, d.before aw Z = true := by
    intro d hd
    simp only [Bundle.stringAtoms, List.mem_cons, List.not_mem_nil, or_false] at hd
    rcases hd with rfl | rfl | rfl | rfl | rfl | rfl | rfl
    · exact (hw _ (List.mem_of_getElem? (i := 12) rfl))
    · exact (hw _ (List.mem_of_getElem? (i := 13) rfl))
    · exact (hw _ (List.mem_of_getElem? (i := 14) rfl))
    · exact (hw _ (List.mem_of_getElem? (i := 15) rfl))
    · exact (hw _ (List.mem_of_getElem? (i := 16) rfl))
    · exact (hw _ (List.mem_of_getElem? (i := 17) rfl))
    · exact (hw _ (List.mem_of_getElem? (i := 18) rfl))
  obtain ⟨ls8, T8, h8, kk8, X8, e8, E8, hS8, hk8, hZ8, hown8, st8⟩ := ldcS (s := s) (vm0 := T6.vm) X7 hx hZ hown (hw _ (List.mem_of_getElem? (i := 36) rfl)) wS8 e7 hS6 hk6 (g := (mkF m 23 #[.val (.ref a0), .val (.double d1), .second, .val (.double d2), .second, .val (.double d3), .second, .val (.double d4), .second] [])) rfl (hb hby d1_23) (n := 44) (by decide) (by decide) (by decide) (by decide)
  have hZ := hZ8
  have hown := hown8
  have K8 : Keep h6 h8 [] := (Keep.refl _ _).ext E8
  have E8_a0 := Exa.keep E6_a0 K8
  have F8_a0_originX := Fld.keep F6_a0_originX K8 nin0
  have F8_a0_originY := Fld.keep F6_a0_originY K8 nin0
  have F8_a0_pixelWidth := Fld.keep F6_a0_pixelWidth K8 nin0
  have F8_a0_pixelHeight := Fld.keep F6_a0_pixelHeight K8 nin0
  have Z8 : n0 ≤ h8.size := Nat.le_trans Z6 K8.1
  have KK8 : Keep h0 h8 [a0] := KK6.trans K8 all0
  refine goW st8 ?_
  show RunW _ _ _ _ _ _ _ T8 (mkF m 25 #[.val (.ref a0), .val (.double d1), .second, .val (.double d2), .second, .val (.double d3), .second, .val (.double d4), .second] [(.ref ls8)])
  refine goW (T' := T8) (f' := (mkF m 27 #[.val (.ref a0), .val (.double d1), .second, .val (.double d2), .second, .val (.double d3), .second, .val (.double d4), .second] [(.double d4), (.ref ls8)])) (by intro t k; exact XS.dload X8.here hx rfl (hb hby d1_25) rfl k) ?_
  obtain ⟨_, _, ⟨T9, Lz9, kz9, nz9⟩, -, X9, ⟨Lc9, hQ9, lz9, yz9, zz9⟩, st9⟩ := Jvm.LawKit.callS X8 hx (y := (⟨"com/example/mapwright/mapwright/image/Placement", "requireNonZero", "(Ljava/lang/String;D)V"⟩ : MethodName)) hown (mvT hZ (hw _ (List.mem_of_getElem? (i := 33) rfl))) (mvT hZ (hw _ (List.mem_of_getElem? (i := 34) rfl))) (mvT hZ (hw _ (List.mem_of_getElem? (i := 4) rfl))) (mvT hZ (hw _ (List.mem_of_getElem? (i := 35) rfl))) (by decide) (backOf (W := 0) (rm6 l Z aw hw [] ls8 d4  h8 n0 Z8 hf4 hn4) hZ (hw _ (List.mem_of_getElem? (i := 35) rfl)) (hw _ (List.mem_of_getElem? (i := 4) rfl)) (by decide) (by decide)) (g := (mkF m 27 #[.val (.ref a0), .val (.double d1), .second, .val (.double d2), .second, .val (.double d3), .second, .val (.double d4), .second] [(.double d4), (.ref ls8)])) rfl (by rw [hml]; rfl) (argsL := [(.ref ls8), (.double d4)]) (rest := []) (lenOf pd_28Ljava2flang2fString3bD29V rfl) rfl (by show 2 * 0 + _ ≤ _; exact Nat.le_of_eq rfl) (hb hby d1_27) (fun _ _ => ⟨rfl, e8, (by decide : 8 + 0 ≤ _), (by decide : 156 + 0 ≤ _)⟩)
  dsimp only [Pt.U, Pt.locs, Pt.cells, Pt.slots] at X9 lz9 yz9 zz9 st9 hQ9
  subst lz9 yz9 zz9
  obtain ⟨rfl, N9q, e9⟩ := hQ9
  have N9 := Fr.app N7 N9q
  refine goW st9 ?_
  show RunW _ _ _ _ _ _ _ T9 (mkF m 30 #[.val (.ref a0), .val (.double d1), .second, .val (.double d2), .second, .val (.double d3), .second, .val (.double d4), .second] [])
  refine goW (T' := T9) (f' := (mkF m 31 #[.val (.ref a0), .val (.double d1), .second, .val (.double d2), .second, .val (.double d3), .second, .val (.double d4), .second] [(.ref a0)])) (by intro t k; exact XS.aloadN X9.here hx rfl (hb hby d1_30) rfl rfl k) ?_
  refine goW (T' := T9) (f' := (mkF m 32 #[.val (.ref a0), .val (.double d1), .second, .val (.double d2), .second, .val (.double d3), .second, .val (.double d4), .second] [(.double d1), (.ref a0)])) (by intro t k; exact XS.dloadN X9.here hx rfl (hb hby d1_31) rfl k) ?_
  obtain ⟨T10, h10, X10, e10, W10, st10⟩ := putF X9 hx hZ hown (host := "") (Or.inl (hw _ (List.mem_of_getElem? (i := 37) rfl))) Via.refl e9 F8_a0_originX E8_a0 (Or.inr ⟨(hw _ (List.mem_of_getElem? (i := 38) rfl)), rfl, hnm⟩) (hw _ (List.mem_of_getElem? (i := 3) rfl)) (ty := .double) (by decide) rfl rfl (g := (mkF m 32 #[.val (.ref a0), .val (.double d1), .second, .val (.double d2), .second, .val (.double d3), .second, .val (.double d4), .second] [(.double d1), (.ref a0)])) rfl rfl (hb hby d1_32)
  have K10 : Keep h8 h10 [a0] := Keep.of_wr W10
  have F10_a0_originX : Fld Z h10 a0 "com/example/mapwright/mapwright/image/Placement" "originX" "D" (.double d1) := F8_a0_originX.same W10
  have F10_a0_originY := Fld.other W10 F8_a0_originY (Or.inr (slot_ne (Or.inr (hw _ (List.mem_of_getElem? (i := 40) rfl))) (Or.inr (hw _ (List.mem_of_getElem? (i := 38) rfl))) (by decide) (t := .double) (t' := .double) (by decide) (by decide)))
  have F10_a0_pixelWidth := Fld.other W10 F8_a0_pixelWidth (Or.inr (slot_ne (Or.inr (hw _ (List.mem_of_getElem? (i := 42) rfl))) (Or.inr (hw _ (List.mem_of_getElem? (i := 38) rfl))) (by decide) (t := .double) (t' := .double) (by decide) (by decide)))
  have F10_a0_pixelHeight := Fld.other W10 F8_a0_pixelHeight (Or.inr (slot_ne (Or.inr (hw _ (List.mem_of_getElem? (i := 44) rfl))) (Or.inr (hw _ (List.mem_of_getElem? (i := 38) rfl))) (by decide) (t := .double) (t' := .double) (by decide) (by decide)))
  have N10 := Fr.snoc X10 N9 g_a0
  have E10_a0 := Exa.keep E8_a0 K10
  have Z10 : n0 ≤ h10.size := Nat.le_trans Z8 K10.1
  have KK10 : Keep h0 h10 [a0] := KK8.trans K10 (allS (Or.inl (List.mem_of_getElem? (i := 0) rfl)) all0)
  have hk10 : kk8 ≤ h10.size := Nat.le_trans hk8 K10.1
  refine goW st10 ?_
  show RunW _ _ _ _ _ _ _ T10 (mkF m 35 #[.val (.ref a0), .val (.double d1), .second, .val (.double d2), .second, .val (.double d3), .second, .val (.double d4), .second] [])
  refine goW (T' := T10) (f' := (mkF m 36 #[.val (.ref a0), .val (.double d1), .second, .val (.double d2), .second, .val (.double d3), .second, .val (.double d4), .second] [(.ref a0)])) (by intro t k; exact XS.aloadN X10.here hx rfl (hb hby d1_35) rfl rfl k) ?_
  refine goW (T' := T10) (f' := (mkF m 37 #[.val (.ref a0), .val (.double d1), .second, .val (.double d2), .second, .val (.double d3), .second, .val (.double d4), .second] [(.double d2), (.ref a0)])) (by intro t k; exact XS.dloadN X10.here hx rfl (hb hby d1_36) rfl k) ?_
  obtain ⟨T11, h11, X11, e11, W11, st11⟩ := putF X10 hx hZ hown (host := "") (Or.inl (hw _ (List.mem_of_getElem? (i := 39) rfl))) Via.refl e10 F10_a0_originY E10_a0 (Or.inr ⟨(hw _ (List.mem_of_getElem? (i := 40) rfl)), rfl, hnm⟩) (hw _ (List.mem_of_getElem? (i := 3) rfl)) (ty := .double) (by decide) rfl rfl (g := (mkF m 37 #[.val (.ref a0), .val (.double d1), .second, .val (.double d2), .second, .val (.double d3), .second, .val (.double d4), .second] [(.double d2), (.ref a0)])) rfl rfl (hb hby d1_37)
  have K11 : Keep h10 h11 [a0] := Keep.of_wr W11
  have F11_a0_originX := Fld.other W11 F10_a0_originX (Or.inr (slot_ne (Or.inr (hw _ (List.mem_of_getElem? (i := 38) rfl))) (Or.inr (hw _ (List.mem_of_getElem? (i := 40) rfl))) (by decide) (t := .double) (t' := .double) (by decide) (by decide)))
  have F11_a0_originY : Fld Z h11 a0 "com/example/mapwright/mapwright/image/Placement" "originY" "D" (.double d2) := F10_a0_originY.same W11
  have F11_a0_pixelWidth := Fld.other W11 F10_a0_pixelWidth (Or.inr (slot_ne (Or.inr (hw _ (List.mem_of_getElem? (i := 42) rfl))) (Or.inr (hw _ (List.mem_of_getElem? (i := 40) rfl))) (by decide) (t := .double) (t' := .double) (by decide) (by decide)))
  have F11_a0_pixelHeight := Fld.other W11 F10_a0_pixelHeight (Or.inr (slot_ne (Or.inr (hw _ (List.mem_of_getElem? (i := 44) rfl))) (Or.inr (hw _ (List.mem_of_getElem? (i := 40) rfl))) (by decide) (t := .double) (t' := .double) (by decide) (by decide)))
  have N11 := Fr.snoc X11 N10 g_a0
  have E11_a0 := Exa.keep E10_a0 K11
  have Z11 : n0 ≤ h11.size := Nat.le_trans Z10 K11.1
  have KK11 : Keep h0 h11 [a0] := KK10.trans K11 (allS (Or.inl (List.mem_of_getElem? (i := 0) rfl)) all0)
  have hk11 : kk8 ≤ h11.size := Nat.le_trans hk10 K11.1
  refine goW st11 ?_
  show RunW _ _ _ _ _ _ _ T11 (mkF m 40 #[.val (.ref a0), .val (.double d1), .second, .val (.double d2), .second, .val (.double d3), .second, .val (.double d4), .second] [])
  refine goW (T' := T11) (f' := (mkF m 41 #[.val (.ref a0), .val (.double d1), .second, .val (.double d2), .second, .val (.double d3), .second, .val (.double d4), .second] [(.ref a0)])) (by intro t k; exact XS.aloadN X11.here hx rfl (hb hby d1_40) rfl rfl k) ?_
  refine goW (T' := T11) (f' := (mkF m 43 #[.val (.ref a0), .val (.double d1), .second, .val (.double d2), .second, .val (.double d3), .second, .val (.double d4), .second] [(.double d3), (.ref a0)])) (by intro t k; exact XS.dload X11.here hx rfl (hb hby d1_41) rfl k) ?_
  obtain ⟨T12, h12, X12, e12, W12, st12⟩ := putF X11 hx hZ hown (host := "") (Or.inl (hw _ (List.mem_of_getElem? (i := 41) rfl))) Via.refl e11 F11_a0_pixelWidth E11_a0 (Or.inr ⟨(hw _ (List.mem_of_getElem? (i := 42) rfl)), rfl, hnm⟩) (hw _ (List.mem_of_getElem? (i := 3) rfl)) (ty := .double) (by decide) rfl rfl (g := (mkF m 43 #[.val (.ref a0), .val (.double d1), .second, .val (.double d2), .second, .val (.double d3), .second, .val (.double d4), .second] [(.double d3), (.ref a0)])) rfl rfl (hb hby d1_43)
  have K12 : Keep h11 h12 [a0] := Keep.of_wr W12
  have F12_a0_originX := Fld.other W12 F11_a0_originX (Or.inr (slot_ne (Or.inr (hw _ (List.mem_of_getElem? (i := 38) rfl))) (Or.inr (hw _ (List.mem_of_getElem? (i := 42) rfl))) (by decide) (t := .double) (t' := .double) (by decide) (by decide)))
  have F12_a0_originY := Fld.other W12 F11_a0_originY (Or.inr (slot_ne (Or.inr (hw _ (List.mem_of_getElem? (i := 40) rfl))) (Or.inr (hw _ (List.mem_of_getElem? (i := 42) rfl))) (by decide) (t := .double) (t' := .double) (by decide) (by decide)))
  have F12_a0_pixelWidth : Fld Z h12 a0 "com/example/mapwright/mapwright/image/Placement" "pixelWidth" "D" (.double d3) := F11_a0_pixelWidth.same W12
  have F12_a0_pixelHeight := Fld.other W12 F11_a0_pixelHeight (Or.inr (slot_ne (Or.inr (hw _ (List.mem_of_getElem? (i := 44) rfl))) (Or.inr (hw _ (List.mem_of_getElem? (i := 42) rfl))) (by decide) (t := .double) (t' := .double) (by decide) (by decide)))
  have N12 := Fr.snoc X12 N11 g_a0
  have E12_a0 := Exa.keep E11_a0 K12
  have Z12 : n0 ≤ h12.size := Nat.le_trans Z11 K12.1
  have KK12 : Keep h0 h12 [a0] := KK11.trans K12 (allS (Or.inl (List.mem_of_getElem? (i := 0) rfl)) all0)
  have hk12 : kk8 ≤ h12.size := Nat.le_trans hk11 K12.1
  refine goW st12 ?_
  show RunW _ _ _ _ _ _ _ T12 (mkF m 46 #[.val (.ref a0), .val (.double d1), .second, .val (.double d2), .second, .val (.double d3), .second, .val (.double d4), .second] [])
  refine goW (T' := T12) (f' := (mkF m 47 #[.val (.ref a0), .val (.double d1), .second, .val (.double d2), .second, .val (.double d3), .second, .val (.double d4), .second] [(.ref a0)])) (by intro t k; exact XS.aloadN X12.here hx rfl (hb hby d1_46) rfl rfl k) ?_
  refine goW (T' := T12) (f' := (mkF m 49 #[.val (.ref a0), .val (.double d1), .second, .val (.double d2), .second, .val (.double d3), .second, .val (.double d4), .second] [(.double d4), (.ref a0)])) (by intro t k; exact XS.dload X12.here hx rfl (hb hby d1_47) rfl k) ?_
  obtain ⟨T13, h13, X13, e13, W13, st13⟩ := putF X12 hx hZ hown (host := "") (Or.inl (hw _ (List.mem_of_getElem? (i := 43) rfl))) Via.refl e12 F12_a0_pixelHeight E12_a0 (Or.inr ⟨(hw _ (List.mem_of_getElem? (i := 44) rfl)), rfl, hnm⟩) (hw _ (List.mem_of_getElem? (i := 3) rfl)) (ty := .double) (by decide) rfl rfl (g := (mkF m 49 #[.val (.ref a0), .val (.double d1), .second, .val (.double d2), .second, .val (.double d3), .second, .val (.double d4), .second] [(.double d4), (.ref a0)])) rfl rfl (hb hby d1_49)
  have K13 : Keep h12 h13 [a0] := Keep.of_wr W13
  have F13_a0_originX := Fld.other W13 F12_a0_originX (Or.inr (slot_ne (Or.inr (hw _ (List.mem_of_getElem? (i := 38) rfl))) (Or.inr (hw _ (List.mem_of_getElem? (i := 44) rfl))) (by decide) (t := .double) (t' := .double) (by decide) (by decide)))
  have F13_a0_originY := Fld.other W13 F12_a0_originY (Or.inr (slot_ne (Or.inr (hw _ (List.mem_of_getElem? (i := 40) rfl))) (Or.inr (hw _ (List.mem_of_getElem? (i := 44) rfl))) (by decide) (t := .double) (t' := .double) (by decide) (by decide)))
  have F13_a0_pixelWidth := Fld.other W13 F12_a0_pixelWidth (Or.inr (slot_ne (Or.inr (hw _ (List.mem_of_getElem? (i := 42) rfl))) (Or.inr (hw _ (List.mem_of_getElem? (i := 44) rfl))) (by decide) (t := .double) (t' := .double) (by decide) (by decide)))
  have F13_a0_pixelHeight : Fld Z h13 a0 "com/example/mapwright/mapwright/image/Placement" "pixelHeight" "D" (.double d4) := F12_a0_pixelHeight.same W13
  have N13 := Fr.snoc X13 N12 g_a0
  have E13_a0 := Exa.keep E12_a0 K13
  have Z13 : n0 ≤ h13.size := Nat.le_trans Z12 K13.1
  have KK13 : Keep h0 h13 [a0] := KK12.trans K13 (allS (Or.inl (List.mem_of_getElem? (i := 0) rfl)) all0)
  have hk13 : kk8 ≤ h13.size := Nat.le_trans hk12 K13.1
  refine goW st13 ?_
  show RunW _ _ _ _ _ _ _ T13 (mkF m 52 #[.val (.ref a0), .val (.double d1), .second, .val (.double d2), .second, .val (.double d3), .second, .val (.double d4), .second] [])
  refine retVW (vm₁ := T8.vm) X13 hS8 (by rw [e13]; exact hk13) hx Bd.returns (hb hby d1_52) hlk (by decide) (by decide) ?_
  show Q1 Z a0 d1 d2 d3 d4 h0 n0 _ T13.heap _
  rw [e13]
  exact ⟨rfl, N13, KK13, F13_a0_originX, F13_a0_originY, F13_a0_pixelWidth, F13_a0_pixelHeight⟩
theorem d7_0 : decode prog_27_method_6_code 0 = .ok (.aload_n 0, 1) := by decide +kernel
theorem d7_1 : decode prog_27_method_6_code 1 = .ok (.getfield 24, 3) := by decide +kernel
theorem d7_4 : decode prog_27_method_6_code 4 = .ok (.dload_n 1, 1) := by decide +kernel
theorem d7_5 : decode prog_27_method_6_code 5 = .ok (.aload_n 0, 1) := by decide +kernel
theorem d7_6 : decode prog_27_method_6_code 6 = .ok (.getfield 29, 3) := by decide +kernel
theorem d7_9 : decode prog_27_method_6_code 9 = .ok (.dmul, 1) := by decide +kernel
theorem d7_10 : decode prog_27_method_6_code 10 = .ok (.dadd, 1) := by decide +kernel
theorem d7_11 : decode prog_27_method_6_code 11 = .ok (.dreturn, 1) := by decide +kernel
theorem ef_7 (m : MethodId) (x0 : Addr) (x1 : UInt64) : entryFrame m #[(.ref x0), (.double x1)] 3 = mkF m 0 #[.val (.ref x0), .val (.double x1), .second] [] := by first | (simp [entryFrame, mkF, argsToLocals, Value.category]; done) | rfl
def Q7 (Z : State) (a0 : Addr) (d1 : UInt64) (x y : UInt64) (h0 : Heap) (n0 : Nat) (v : Option Value) (h : Heap) (L : List Loc) : Prop := v = some (.double (FP.dadd x (FP.dmul d1 y))) ∧ Fr n0 L ∧ h = h0
set_option maxRecDepth 65536 in
set_option maxHeartbeats 40000000 in
theorem rm7 (l : Launch) (Z : State) (aw : Array Value) (hw : ∀ d ∈ tables_1, d.before aw Z = true) (ws : List Jvm.Cond) (a0 : Addr) (d1 : UInt64) (x y : UInt64) (h0 : Heap) (n0 : Nat) (Z0 : n0 ≤ h0.size) (F_x : Fld Z h0 a0 "com/example/mapwright/mapwright/image/Placement" "originX" "D" (.double x)) (F_w : Fld Z h0 a0 "com/example/mapwright/mapwright/image/Placement" "pixelWidth" "D" (.double y)) (hm : Jvm.Free.Fl.NoNaN64 (FP.dmul d1 y)) (hs : Jvm.Free.Fl.NoNaN64 (FP.dadd x (FP.dmul d1 y))) :
    MetFree l (⟨"com/example/mapwright/mapwright/image/Placement", "columnToX", "(D)D"⟩ : MethodName) (head1 (Jvm.Cond.code (⟨"com/example/mapwright/mapwright/image/Placement", "columnToX", "(D)D"⟩ : MethodName) prog_27_method_6_code 3 (some .double) :: ws) ({ frames := 0, cells := 0, slots := 0, locals := 0 } : Room)) (fun a U => a = #[(.ref a0), (.double d1)] ∧ Z.Warmed39 U.vm ∧ U.heap = h0) (fun _ _ _ _ _ => True) (fun _ U o U' => ∃ v L, o = .returned v ∧ Q7 Z a0 d1 x y h0 n0 v U'.heap L ∧ FrameEnd U o U' L ({ frames := 0, cells := 0, slots := 0, locals := 0 } : Room).cells ({ frames := 0, cells := 0, slots := 0, locals := 0 } : Room).slots) := by
  refine MetFree.of_bodySF (plainFor_of_name pn_3) hisR ?_
  intro p e s m args below meth c s₁ Bd hml0 hP hK
  obtain ⟨rfl, hZ, hh⟩ := hP
  have hx := Bd.exec
  have hby := Bd.bytes
  have hml : c.maxLocals = 3 := hml0
  have hown : s.vm.findClass "com/example/mapwright/mapwright/image/Placement" = some m.cls := findClass_of_methodNamed Bd.named
  have hnm := (name_of_methodNamed Bd.named Bd.method).1
  have hlk : meth.locks = false := BodyLoose.notSynchronized Bd
  have X0 : Stand p l e ({ frames := 0, cells := 0, slots := 0, locals := 0 } : Room) s m #[(.ref a0), (.double d1)] below meth c s₁ [] 0 0 := Stand.of_body Bd
  have e0 : s₁.heap = h0 := by rw [← hh, Bd.state]; rfl
  have N0 := Fr.nil n0
  show Run p e s below (Q7 Z a0 d1 x y h0 n0) ({ frames := 0, cells := 0, slots := 0, locals := 0 } : Room).cells ({ frames := 0, cells := 0, slots := 0, locals := 0 } : Room).slots s₁ (entryFrame m #[(.ref a0), (.double d1)] 3)
  rw [ef_7]
  show Run _ _ _ _ _ _ _ s₁ (mkF m 0 #[.val (.ref a0), .val (.double d1), .second] [])
  refine go (T' := s₁) (f' := (mkF m 1 #[.val (.ref a0), .val (.double d1), .second] [(.ref a0)])) (by intro t k; exact XS.aloadN X0.here hx rfl (hb hby d7_0) rfl rfl k) ?_
  obtain ⟨T1, X1, e1, st1⟩ := getF X0 hx hZ hown (host := "") (Or.inl (hw _ (List.mem_of_getElem? (i := 37) rfl))) Via.refl e0 F_x (g := (mkF m 1 #[.val (.ref a0), .val (.double d1), .second] [(.ref a0)])) rfl rfl (hb hby d7_1)
  refine go st1 ?_
  show Run _ _ _ _ _ _ _ T1 (mkF m 4 #[.val (.ref a0), .val (.double d1), .second] [(.double x)])
  refine go (T' := T1) (f' := (mkF m 5 #[.val (.ref a0), .val (.double d1), .second] [(.double d1), (.double x)])) (by intro t k; exact XS.dloadN X1.here hx rfl (hb hby d7_4) rfl k) ?_
  refine go (T' := T1) (f' := (mkF m 6 #[.val (.ref a0), .val (.double d1), .second] [(.ref a0), (.double d1), (.double x)])) (by intro t k; exact XS.aloadN X1.here hx rfl (hb hby d7_5) rfl rfl k) ?_
  obtain ⟨T2, X2, e2, st2⟩ := getF X1 hx hZ hown (host := "") (Or.inl (hw _ (List.mem_of_getElem? (i := 41) rfl))) Via.refl e1 F_w (g := (mkF m 6 #[.val (.ref a0), .val (.double d1), .second] [(.ref a0), (.double d1), (.double x)])) rfl rfl (hb hby d7_6)
  refine go st2 ?_
  show Run _ _ _ _ _ _ _ T2 (mkF m 9 #[.val (.ref a0), .val (.double d1), .second] [(.double y), (.double d1), (.double x)])
  refine go (T' := T2) (f' := (mkF m 10 #[.val (.ref a0), .val (.double d1), .second] [(.double (FP.dmul d1 y)), (.double x)])) (by intro t k; exact XS.dmulS X2.here hx rfl (hb hby d7_9) rfl hm rfl k) ?_
  refine go (T' := T2) (f' := (mkF m 11 #[.val (.ref a0), .val (.double d1), .second] [(.double (FP.dadd x (FP.dmul d1 y)))])) (by intro t k; exact XS.daddS X2.here hx rfl (hb hby d7_10) rfl hs rfl k) ?_
  refine retW X2 hx (t := .double) Bd.returns rfl (Or.inr (Or.inr (Or.inl ⟨rfl, rfl, _, rfl⟩))) (hb hby d7_11) hlk (by decide) (by decide) ?_
  show Q7 Z a0 d1 x y h0 n0 _ T2.heap _
  rw [e2]
  have hv : (some (.double (FP.dadd x (FP.dmul d1 y))) : Option Value) = some (.double (FP.dadd x (FP.dmul d1 y))) := rfl
  exact ⟨hv, N0, rfl⟩
theorem pd_28DDDD29V : parseMethodDescriptor "(DDDD)V" = some ⟨[.double, .double, .double, .double], none⟩ := by decide +kernel
theorem pn_0 : plainName "com/example/mapwright/mapwright/image/PlacementColumnToXPinLaw" = true := by first | (simp [plainName, overriddenIn]; done) | decide +kernel
theorem ef_0 (m : MethodId) (x0 : Int32) (x1 : Int32) (x2 : Int32) (x3 : Int32) (x4 : Int32) : entryFrame m #[(.int x0), (.int x1), (.int x2), (.int x3), (.int x4)] maxLocals = mkF m 0 #[.val (.int x0), .val (.int x1), .val (.int x2), .val (.int x3), .val (.int x4), .unset, .unset, .unset, .unset, .unset, .unset, .unset, .unset, .unset, .unset, .unset, .unset, .unset, .unset, .unset] [] := by first | (simp [entryFrame, mkF, argsToLocals, Value.category, maxLocals]; done) | rfl
def Q0 (Z : State) (p0 : Int32) (p1 : Int32) (p2 : Int32) (p3 : Int32) (p4 : Int32) (h0 : Heap) (n0 : Nat) (v : Option Value) (h : Heap) (L : List Loc) : Prop := v = some (.int (1 : Int32)) ∧ Fr n0 L
set_option maxRecDepth 65536 in
set_option maxHeartbeats 40000000 in
theorem rm0 (l : Launch) (Z : State) (aw : Array Value) (hw : ∀ d ∈ tables_1, d.before aw Z = true) (ws : List Jvm.Cond) (p0 : Int32) (p1 : Int32) (p2 : Int32) (p3 : Int32) (p4 : Int32) (h0 : Heap) (n0 : Nat) (Z0 : n0 ≤ h0.size) :
    MetFree l x (head1 (Jvm.Cond.code x code maxLocals ret :: ws) room_1) (fun a U => a = #[(.int p0), (.int p1), (.int p2), (.int p3), (.int p4)] ∧ Z.Warmed39 U.vm ∧ U.heap = h0) (fun _ _ _ _ _ => True) (fun _ U o U' => ∃ v L, o = .returned v ∧ Q0 Z p0 p1 p2 p3 p4 h0 n0 v U'.heap L ∧ ReturnedEndW U o U' L room_1.cells room_1.slots) := by
  refine MetFree.of_bodySF (plainFor_of_name pn_0) hisR ?_
  intro p e s m args below meth c s₁ Bd hml0 hP hK
  obtain ⟨rfl, hZ, hh⟩ := hP
  have hx := Bd.exec
  have hby := Bd.bytes
  have hml : c.maxLocals = 20 := hml0
  have hown : s.vm.findClass "com/example/mapwright/mapwright/image/PlacementColumnToXPinLaw" = some m.cls := findClass_of_methodNamed Bd.named
  have hnm := (name_of_methodNamed Bd.named Bd.method).1
  have hlk : meth.locks = false := BodyLoose.notSynchronized Bd
  have X0 : Stand p l e room_1 s m #[(.int p0), (.int p1), (.int p2), (.int p3), (.int p4)] below meth c s₁ [] 0 0 := Stand.of_body Bd
  have e0 : s₁.heap = h0 := by rw [← hh, Bd.state]; rfl
  have N0 := Fr.nil n0
  show RunW p e s below (Q0 Z p0 p1 p2 p3 p4 h0 n0) room_1.cells room_1.slots s₁ (entryFrame m #[(.int p0), (.int p1), (.int p2), (.int p3), (.int p4)] maxLocals)
  rw [ef_0]
  show RunW _ _ _ _ _ _ _ s₁ (mkF m 0 #[.val (.int p0), .val (.int p1), .val (.int p2), .val (.int p3), .val (.int p4), .unset, .unset, .unset, .unset, .unset, .unset, .unset, .unset, .unset, .unset, .unset, .unset, .unset, .unset, .unset] [])
  refine goW (T' := s₁) (f' := (mkF m 1 #[.val (.int p0), .val (.int p1), .val (.int p2), .val (.int p3), .val (.int p4), .unset, .unset, .unset, .unset, .unset, .unset, .unset, .unset, .unset, .unset, .unset, .unset, .unset, .unset, .unset] [(.int p0)])) (by intro t k; exact XS.iloadN X0.here hx rfl (hb hby at_0) rfl k) ?_
  refine goW (T' := s₁) (f' := (mkF m 3 #[.val (.int p0), .val (.int p1), .val (.int p2), .val (.int p3), .val (.int p4), .unset, .unset, .unset, .unset, .unset, .unset, .unset, .unset, .unset, .unset, .unset, .unset, .unset, .unset, .unset] [(.int (16777216 : Int32)), (.int p0)])) (by intro t k; exact X0.ldcInt hx hown (mvT hZ (hw _ (List.mem_of_getElem? (i := 0) rfl))) (g := (mkF m 1 #[.val (.int p0), .val (.int p1), .val (.int p2), .val (.int p3), .val (.int p4), .unset, .unset, .unset, .unset, .unset, .unset, .unset, .unset, .unset, .unset, .unset, .unset, .unset, .unset, .unset] [(.int p0)])) rfl (hb hby at_1) _ k) ?_
  refine goW (T' := s₁) (f' := (mkF m 4 #[.val (.int p0), .val (.int p1), .val (.int p2), .val (.int p3), .val (.int p4), .unset, .unset, .unset, .unset, .unset, .unset, .unset, .unset, .unset, .unset, .unset, .unset, .unset, .unset, .unset] [(.int (p0 % (16777216 : Int32)))])) (by intro t k; exact iremM X0 hx rfl (hb hby at_3) rfl (by decide) k) ?_
  refine goW (T' := s₁) (f' := (mkF m 5 #[.val (.int p0), .val (.int p1), .val (.int p2), .val (.int p3), .val (.int p4), .unset, .unset, .unset, .unset, .unset, .unset, .unset, .unset, .unset, .unset, .unset, .unset, .unset, .unset, .unset] [(.long (((p0 % (16777216 : Int32))).toInt64))])) (by intro t k; exact XS.i2l X0.here hx rfl (hb hby at_4) rfl k) ?_
  refine goW (T' := s₁) (f' := (mkF m 7 #[.val (.int p0), .val (.int p1), .val (.int p2), .val (.int p3), .val (.int p4), .val (.long (((p0 % (16777216 : Int32))).toInt64)), .second, .unset, .unset, .unset, .unset, .unset, .unset, .unset, .unset, .unset, .unset, .unset, .unset, .unset] [])) (by intro t k; exact XS.lstore X0.here hx rfl (hb hby at_5) rfl (l' := #[.val (.int p0), .val (.int p1), .val (.int p2), .val (.int p3), .val (.int p4), .val (.long (((p0 % (16777216 : Int32))).toInt64)), .second, .unset, .unset, .unset, .unset, .unset, .unset, .unset, .unset, .unset, .unset, .unset, .unset, .unset]) rfl k) ?_
  obtain ⟨a5, ha5⟩ : ∃ z : Int64, z = (((p0 % (16777216 : Int32))).toInt64) := ⟨_, rfl⟩
  rw [← ha5]
  have hq5 := own_a ha5
  show RunW _ _ _ _ _ _ _ s₁ (mkF m 7 #[.val (.int p0), .val (.int p1), .val (.int p2), .val (.int p3), .val (.int p4), .val (.long a5), .second, .unset, .unset, .unset, .unset, .unset, .unset, .unset, .unset, .unset, .unset, .unset, .unset, .unset] [])
  refine goW (T' := s₁) (f' := (mkF m 8 #[.val (.int p0), .val (.int p1), .val (.int p2), .val (.int p3), .val (.int p4), .val (.long a5), .second, .unset, .unset, .unset, .unset, .unset, .unset, .unset, .unset, .unset, .unset, .unset, .unset, .unset] [(.int p1)])) (by intro t k; exact XS.iloadN X0.here hx rfl (hb hby at_7) rfl k) ?_
  refine goW (T' := s₁) (f' := (mkF m 10 #[.val (.int p0), .val (.int p1), .val (.int p2), .val (.int p3), .val (.int p4), .val (.long a5), .second, .unset, .unset, .unset, .unset, .unset, .unset, .unset, .unset, .unset, .unset, .unset, .unset, .unset] [(.int (16777216 : Int32)), (.int p1)])) (by intro t k; exact X0.ldcInt hx hown (mvT hZ (hw _ (List.mem_of_getElem? (i := 0) rfl))) (g := (mkF m 8 #[.val (.int p0), .val (.int p1), .val (.int p2), .val (.int p3), .val (.int p4), .val (.long a5), .second, .unset, .unset, .unset, .unset, .unset, .unset, .unset, .unset, .unset, .unset, .unset, .unset, .unset] [(.int p1)])) rfl (hb hby at_8) _ k) ?_
  refine goW (T' := s₁) (f' := (mkF m 11 #[.val (.int p0), .val (.int p1), .val (.int p2), .val (.int p3), .val (.int p4), .val (.long a5), .second, .unset, .unset, .unset, .unset, .unset, .unset, .unset, .unset, .unset, .unset, .unset, .unset, .unset] [(.int (p1 % (16777216 : Int32)))])) (by intro t k; exact iremM X0 hx rfl (hb hby at_10) rfl (by decide) k) ?_
  refine goW (T' := s₁) (f' := (mkF m 12 #[.val (.int p0), .val (.int p1), .val (.int p2), .val (.int p3), .val (.int p4), .val (.long a5), .second, .unset, .unset, .unset, .unset, .unset, .unset, .unset, .unset, .unset, .unset, .unset, .unset, .unset] [(.long (((p1 % (16777216 : Int32))).toInt64))])) (by intro t k; exact XS.i2l X0.here hx rfl (hb hby at_11) rfl k) ?_
  refine goW (T' := s₁) (f' := (mkF m 14 #[.val (.int p0), .val (.int p1), .val (.int p2), .val (.int p3), .val (.int p4), .val (.long a5), .second, .val (.long (((p1 % (16777216 : Int32))).toInt64)), .second, .unset, .unset, .unset, .unset, .unset, .unset, .unset, .unset, .unset, .unset, .unset] [])) (by intro t k; exact XS.lstore X0.here hx rfl (hb hby at_12) rfl (l' := #[.val (.int p0), .val (.int p1), .val (.int p2), .val (.int p3), .val (.int p4), .val (.long a5), .second, .val (.long (((p1 % (16777216 : Int32))).toInt64)), .second, .unset, .unset, .unset, .unset, .unset, .unset, .unset, .unset, .unset, .unset, .unset]) rfl k) ?_
  obtain ⟨a7, ha7⟩ : ∃ z : Int64, z = (((p1 % (16777216 : Int32))).toInt64) := ⟨_, rfl⟩
  rw [← ha7]
  show RunW _ _ _ _ _ _ _ s₁ (mkF m 14 #[.val (.int p0), .val (.int p1), .val (.int p2), .val (.int p3), .val (.int p4), .val (.long a5), .second, .val (.long a7), .second, .unset, .unset, .unset, .unset, .unset, .unset, .unset, .unset, .unset, .unset, .unset] [])
  refine goW (T' := s₁) (f' := (mkF m 15 #[.val (.int p0), .val (.int p1), .val (.int p2), .val (.int p3), .val (.int p4), .val (.long a5), .second, .val (.long a7), .second, .unset, .unset, .unset, .unset, .unset, .unset, .unset, .unset, .unset, .unset, .unset] [(.int p2)])) (by intro t k; exact XS.iloadN X0.here hx rfl (hb hby at_14) rfl k) ?_
  refine goW (T' := s₁) (f' := (mkF m 17 #[.val (.int p0), .val (.int p1), .val (.int p2), .val (.int p3), .val (.int p4), .val (.long a5), .second, .val (.long a7), .second, .unset, .unset, .unset, .unset, .unset, .unset, .unset, .unset, .unset, .unset, .unset] [(.int (1048576 : Int32)), (.int p2)])) (by intro t k; exact X0.ldcInt hx hown (mvT hZ (hw _ (List.mem_of_getElem? (i := 1) rfl))) (g := (mkF m 15 #[.val (.int p0), .val (.int p1), .val (.int p2), .val (.int p3), .val (.int p4), .val (.long a5), .second, .val (.long a7), .second, .unset, .unset, .unset, .unset, .unset, .unset, .unset, .unset, .unset, .unset, .unset] [(.int p2)])) rfl (hb hby at_15) _ k) ?_
  refine goW (T' := s₁) (f' := (mkF m 18 #[.val (.int p0), .val (.int p1), .val (.int p2), .val (.int p3), .val (.int p4), .val (.long a5), .second, .val (.long a7), .second, .unset, .unset, .unset, .unset, .unset, .unset, .unset, .unset, .unset, .unset, .unset] [(.int (p2 % (1048576 : Int32)))])) (by intro t k; exact iremM X0 hx rfl (hb hby at_17) rfl (by decide) k) ?_
  refine goW (T' := s₁) (f' := (mkF m 19 #[.val (.int p0), .val (.int p1), .val (.int p2), .val (.int p3), .val (.int p4), .val (.long a5), .second, .val (.long a7), .second, .unset, .unset, .unset, .unset, .unset, .unset, .unset, .unset, .unset, .unset, .unset] [(.long (((p2 % (1048576 : Int32))).toInt64))])) (by intro t k; exact XS.i2l X0.here hx rfl (hb hby at_18) rfl k) ?_
  refine goW (T' := s₁) (f' := (mkF m 21 #[.val (.int p0), .val (.int p1), .val (.int p2), .val (.int p3), .val (.int p4), .val (.long a5), .second, .val (.long a7), .second, .val (.long (((p2 % (1048576 : Int32))).toInt64)), .second, .unset, .unset, .unset, .unset, .unset, .unset, .unset, .unset, .unset] [])) (by intro t k; exact XS.lstore X0.here hx rfl (hb hby at_19) rfl (l' := #[.val (.int p0), .val (.int p1), .val (.int p2), .val (.int p3), .val (.int p4), .val (.long a5), .second, .val (.long a7), .second, .val (.long (((p2 % (1048576 : Int32))).toInt64)), .second, .unset, .unset, .unset, .unset, .unset, .unset, .unset, .unset, .unset]) rfl k) ?_
  obtain ⟨a9, ha9⟩ : ∃ z : Int64, z = (((p2 % (1048576 : Int32))).toInt64) := ⟨_, rfl⟩
  rw [← ha9]
  have hq9 := own_c ha9
  show RunW _ _ _ _ _ _ _ s₁ (mkF m 21 #[.val (.int p0), .val (.int p1), .val (.int p2), .val (.int p3), .val (.int p4), .val (.long a5), .second, .val (.long a7), .second, .val (.long a9), .second, .unset, .unset, .unset, .unset, .unset, .unset, .unset, .unset, .unset] [])
  refine goW (T' := s₁) (f' := (mkF m 23 #[.val (.int p0), .val (.int p1), .val (.int p2), .val (.int p3), .val (.int p4), .val (.long a5), .second, .val (.long a7), .second, .val (.long a9), .second, .unset, .unset, .unset, .unset, .unset, .unset, .unset, .unset, .unset] [(.long a9)])) (by intro t k; exact XS.lload X0.here hx rfl (hb hby at_21) rfl k) ?_
  refine goW (T' := s₁) (f' := (mkF m 24 #[.val (.int p0), .val (.int p1), .val (.int p2), .val (.int p3), .val (.int p4), .val (.long a5), .second, .val (.long a7), .second, .val (.long a9), .second, .unset, .unset, .unset, .unset, .unset, .unset, .unset, .unset, .unset] [(.long (0 : Int64)), (.long a9)])) (by intro t k; exact XS.lconst X0.here hx rfl (hb hby at_23) k) ?_
  refine goW (T' := s₁) (f' := (mkF m 25 #[.val (.int p0), .val (.int p1), .val (.int p2), .val (.int p3), .val (.int p4), .val (.long a5), .second, .val (.long a7), .second, .val (.long a9), .second, .unset, .unset, .unset, .unset, .unset, .unset, .unset, .unset, .unset] [(.int (lcmpW a9 (0 : Int64)))])) (by intro t k; exact XS.lcmp X0.here hx rfl (hb hby at_24) rfl k) ?_
  obtain ⟨z1, hz1⟩ : ∃ z : Int64, z = (if a9 = (0 : Int64) then (1 : Int64) else a9) := ⟨_, rfl⟩
  have J25 : RunW p e s below (Q0 Z p0 p1 p2 p3 p4 h0 n0) room_1.cells room_1.slots s₁ (mkF m 31 #[.val (.int p0), .val (.int p1), .val (.int p2), .val (.int p3), .val (.int p4), .val (.long a5), .second, .val (.long a7), .second, .val (.long z1), .second, .unset, .unset, .unset, .unset, .unset, .unset, .unset, .unset, .unset] []) := by
    have hzw := own_z hz1 hq9 (k := 1) (by decide)
    show RunW _ _ _ _ _ _ _ s₁ (mkF m 31 #[.val (.int p0), .val (.int p1), .val (.int p2), .val (.int p3), .val (.int p4), .val (.long a5), .second, .val (.long a7), .second, .val (.long z1), .second, .unset, .unset, .unset, .unset, .unset, .unset, .unset, .unset, .unset] [])
    refine goW (T' := s₁) (f' := (mkF m 32 #[.val (.int p0), .val (.int p1), .val (.int p2), .val (.int p3), .val (.int p4), .val (.long a5), .second, .val (.long a7), .second, .val (.long z1), .second, .unset, .unset, .unset, .unset, .unset, .unset, .unset, .unset, .unset] [(.int p3)])) (by intro t k; exact XS.iloadN X0.here hx rfl (hb hby at_31) rfl k) ?_
    refine goW (T' := s₁) (f' := (mkF m 34 #[.val (.int p0), .val (.int p1), .val (.int p2), .val (.int p3), .val (.int p4), .val (.long a5), .second, .val (.long a7), .second, .val (.long z1), .second, .unset, .unset, .unset, .unset, .unset, .unset, .unset, .unset, .unset] [(.int (1048576 : Int32)), (.int p3)])) (by intro t k; exact X0.ldcInt hx hown (mvT hZ (hw _ (List.mem_of_getElem? (i := 1) rfl))) (g := (mkF m 32 #[.val (.int p0), .val (.int p1), .val (.int p2), .val (.int p3), .val (.int p4), .val (.long a5), .second, .val (.long a7), .second, .val (.long z1), .second, .unset, .unset, .unset, .unset, .unset, .unset, .unset, .unset, .unset] [(.int p3)])) rfl (hb hby at_32) _ k) ?_
    refine goW (T' := s₁) (f' := (mkF m 35 #[.val (.int p0), .val (.int p1), .val (.int p2), .val (.int p3), .val (.int p4), .val (.long a5), .second, .val (.long a7), .second, .val (.long z1), .second, .unset, .unset, .unset, .unset, .unset, .unset, .unset, .unset, .unset] [(.int (p3 % (1048576 : Int32)))])) (by intro t k; exact iremM X0 hx rfl (hb hby at_34) rfl (by decide) k) ?_
    refine goW (T' := s₁) (f' := (mkF m 36 #[.val (.int p0), .val (.int p1), .val (.int p2), .val (.int p3), .val (.int p4), .val (.long a5), .second, .val (.long a7), .second, .val (.long z1), .second, .unset, .unset, .unset, .unset, .unset, .unset, .unset, .unset, .unset] [(.long (((p3 % (1048576 : Int32))).toInt64))])) (by intro t k; exact XS.i2l X0.here hx rfl (hb hby at_35) rfl k) ?_
    refine goW (T' := s₁) (f' := (mkF m 38 #[.val (.int p0), .val (.int p1), .val (.int p2), .val (.int p3), .val (.int p4), .val (.long a5), .second, .val (.long a7), .second, .val (.long z1), .second, .val (.long (((p3 % (1048576 : Int32))).toInt64)), .second, .unset, .unset, .unset, .unset, .unset, .unset, .unset] [])) (by intro t k; exact XS.lstore X0.here hx rfl (hb hby at_36) rfl (l' := #[.val (.int p0), .val (.int p1), .val (.int p2), .val (.int p3), .val (.int p4), .val (.long a5), .second, .val (.long a7), .second, .val (.long z1), .second, .val (.long (((p3 % (1048576 : Int32))).toInt64)), .second, .unset, .unset, .unset, .unset, .unset, .unset, .unset]) rfl k) ?_
    obtain ⟨a11, ha11⟩ : ∃ z : Int64, z = (((p3 % (1048576 : Int32))).toInt64) := ⟨_, rfl⟩
    rw [← ha11]
    have hq11 := own_c ha11
    show RunW _ _ _ _ _ _ _ s₁ (mkF m 38 #[.val (.int p0), .val (.int p1), .val (.int p2), .val (.int p3), .val (.int p4), .val (.long a5), .second, .val (.long a7), .second, .val (.long z1), .second, .val (.long a11), .second, .unset, .unset, .unset, .unset, .unset, .unset, .unset] [])
    refine goW (T' := s₁) (f' := (mkF m 40 #[.val (.int p0), .val (.int p1), .val (.int p2), .val (.int p3), .val (.int p4), .val (.long a5), .second, .val (.long a7), .second, .val (.long z1), .second, .val (.long a11), .second, .unset, .unset, .unset, .unset, .unset, .unset, .unset] [(.long a11)])) (by intro t k; exact XS.lload X0.here hx rfl (hb hby at_38) rfl k) ?_
    refine goW (T' := s₁) (f' := (mkF m 41 #[.val (.int p0), .val (.int p1), .val (.int p2), .val (.int p3), .val (.int p4), .val (.long a5), .second, .val (.long a7), .second, .val (.long z1), .second, .val (.long a11), .second, .unset, .unset, .unset, .unset, .unset, .unset, .unset] [(.long (0 : Int64)), (.long a11)])) (by intro t k; exact XS.lconst X0.here hx rfl (hb hby at_40) k) ?_
    refine goW (T' := s₁) (f' := (mkF m 42 #[.val (.int p0), .val (.int p1), .val (.int p2), .val (.int p3), .val (.int p4), .val (.long a5), .second, .val (.long a7), .second, .val (.long z1), .second, .val (.long a11), .second, .unset, .unset, .unset, .unset, .unset, .unset, .unset] [(.int (lcmpW a11 (0 : Int64)))])) (by intro t k; exact XS.lcmp X0.here hx rfl (hb hby at_41) rfl k) ?_
    obtain ⟨z2, hz2⟩ : ∃ z : Int64, z = (if a11 = (0 : Int64) then (-1 : Int64) else a11) := ⟨_, rfl⟩
    have J42 : RunW p e s below (Q0 Z p0 p1 p2 p3 p4 h0 n0) room_1.cells room_1.slots s₁ (mkF m 50 #[.val (.int p0), .val (.int p1), .val (.int p2), .val (.int p3), .val (.int p4), .val (.long a5), .second, .val (.long a7), .second, .val (.long z1), .second, .val (.long z2), .second, .unset, .unset, .unset, .unset, .unset, .unset, .unset] []) := by
      have hzh := own_z hz2 hq11 (k := -1) (by decide)
      show RunW _ _ _ _ _ _ _ s₁ (mkF m 50 #[.val (.int p0), .val (.int p1), .val (.int p2), .val (.int p3), .val (.int p4), .val (.long a5), .second, .val (.long a7), .second, .val (.long z1), .second, .val (.long z2), .second, .unset, .unset, .unset, .unset, .unset, .unset, .unset] [])
      refine goW (T' := s₁) (f' := (mkF m 52 #[.val (.int p0), .val (.int p1), .val (.int p2), .val (.int p3), .val (.int p4), .val (.long a5), .second, .val (.long a7), .second, .val (.long z1), .second, .val (.long z2), .second, .unset, .unset, .unset, .unset, .unset, .unset, .unset] [(.int p4)])) (by intro t k; exact XS.iload X0.here hx rfl (hb hby at_50) rfl k) ?_
      refine goW (T' := s₁) (f' := (mkF m 54 #[.val (.int p0), .val (.int p1), .val (.int p2), .val (.int p3), .val (.int p4), .val (.long a5), .second, .val (.long a7), .second, .val (.long z1), .second, .val (.long z2), .second, .unset, .unset, .unset, .unset, .unset, .unset, .unset] [(.int (1048576 : Int32)), (.int p4)])) (by intro t k; exact X0.ldcInt hx hown (mvT hZ (hw _ (List.mem_of_getElem? (i := 1) rfl))) (g := (mkF m 52 #[.val (.int p0), .val (.int p1), .val (.int p2), .val (.int p3), .val (.int p4), .val (.long a5), .second, .val (.long a7), .second, .val (.long z1), .second, .val (.long z2), .second, .unset, .unset, .unset, .unset, .unset, .unset, .unset] [(.int p4)])) rfl (hb hby at_52) _ k) ?_
      refine goW (T' := s₁) (f' := (mkF m 55 #[.val (.int p0), .val (.int p1), .val (.int p2), .val (.int p3), .val (.int p4), .val (.long a5), .second, .val (.long a7), .second, .val (.long z1), .second, .val (.long z2), .second, .unset, .unset, .unset, .unset, .unset, .unset, .unset] [(.int (p4 % (1048576 : Int32)))])) (by intro t k; exact iremM X0 hx rfl (hb hby at_54) rfl (by decide) k) ?_
      refine goW (T' := s₁) (f' := (mkF m 56 #[.val (.int p0), .val (.int p1), .val (.int p2), .val (.int p3), .val (.int p4), .val (.long a5), .second, .val (.long a7), .second, .val (.long z1), .second, .val (.long z2), .second, .unset, .unset, .unset, .unset, .unset, .unset, .unset] [(.long (((p4 % (1048576 : Int32))).toInt64))])) (by intro t k; exact XS.i2l X0.here hx rfl (hb hby at_55) rfl k) ?_
      refine goW (T' := s₁) (f' := (mkF m 58 #[.val (.int p0), .val (.int p1), .val (.int p2), .val (.int p3), .val (.int p4), .val (.long a5), .second, .val (.long a7), .second, .val (.long z1), .second, .val (.long z2), .second, .val (.long (((p4 % (1048576 : Int32))).toInt64)), .second, .unset, .unset, .unset, .unset, .unset] [])) (by intro t k; exact XS.lstore X0.here hx rfl (hb hby at_56) rfl (l' := #[.val (.int p0), .val (.int p1), .val (.int p2), .val (.int p3), .val (.int p4), .val (.long a5), .second, .val (.long a7), .second, .val (.long z1), .second, .val (.long z2), .second, .val (.long (((p4 % (1048576 : Int32))).toInt64)), .second, .unset, .unset, .unset, .unset, .unset]) rfl k) ?_
      obtain ⟨a13, ha13⟩ : ∃ z : Int64, z = (((p4 % (1048576 : Int32))).toInt64) := ⟨_, rfl⟩
      rw [← ha13]
      have hq13 := own_c ha13
      show RunW _ _ _ _ _ _ _ s₁ (mkF m 58 #[.val (.int p0), .val (.int p1), .val (.int p2), .val (.int p3), .val (.int p4), .val (.long a5), .second, .val (.long a7), .second, .val (.long z1), .second, .val (.long z2), .second, .val (.long a13), .second, .unset, .unset, .unset, .unset, .unset] [])
      obtain ⟨T3, h3, X3, e3, E3, A3, D3, -, st3⟩ := newO X0 hx hZ hown (hw _ (List.mem_of_getElem? (i := 2) rfl)) (hw _ (List.mem_of_getElem? (i := 3) rfl)) (hw _ (List.mem_of_getElem? (i := 4) rfl)) e0 (g := (mkF m 58 #[.val (.int p0), .val (.int p1), .val (.int p2), .val (.int p3), .val (.int p4), .val (.long a5), .second, .val (.long a7), .second, .val (.long z1), .second, .val (.long z2), .second, .val (.long a13), .second, .unset, .unset, .unset, .unset, .unset] [])) rfl (hb hby at_58) (by decide) (by decide)
      obtain ⟨b3, g3⟩ : ∃ z, z = h0.size := ⟨_, rfl⟩
      rw [← g3] at A3 D3 st3
      have ge_b3 : n0 ≤ b3 := Nat.le_trans Z0 (Nat.le_of_eq g3.symm)
      have K3 : Keep h0 h3 [] := (Keep.refl _ _).ext E3
      have Z3 : n0 ≤ h3.size := Nat.le_trans Z0 K3.1
      have F3_b3_originX : Fld Z h3 b3 "com/example/mapwright/mapwright/image/Placement" "originX" "D" (.double (0 : UInt64)) := D3 (Or.inr (hw _ (List.mem_of_getElem? (i := 38) rfl))) (ty := .double) (by decide)
      have F3_b3_originY : Fld Z h3 b3 "com/example/mapwright/mapwright/image/Placement" "originY" "D" (.double (0 : UInt64)) := D3 (Or.inr (hw _ (List.mem_of_getElem? (i := 40) rfl))) (ty := .double) (by decide)
      have F3_b3_pixelWidth : Fld Z h3 b3 "com/example/mapwright/mapwright/image/Placement" "pixelWidth" "D" (.double (0 : UInt64)) := D3 (Or.inr (hw _ (List.mem_of_getElem? (i := 42) rfl))) (ty := .double) (by decide)
      have F3_b3_pixelHeight : Fld Z h3 b3 "com/example/mapwright/mapwright/image/Placement" "pixelHeight" "D" (.double (0 : UInt64)) := D3 (Or.inr (hw _ (List.mem_of_getElem? (i := 44) rfl))) (ty := .double) (by decide)
      refine goW st3 ?_
      show RunW _ _ _ _ _ _ _ T3 (mkF m 61 #[.val (.int p0), .val (.int p1), .val (.int p2), .val (.int p3), .val (.int p4), .val (.long a5), .second, .val (.long a7), .second, .val (.long z1), .second, .val (.long z2), .second, .val (.long a13), .second, .unset, .unset, .unset, .unset, .unset] [(.ref b3)])
      refine goW (T' := T3) (f' := (mkF m 62 #[.val (.int p0), .val (.int p1), .val (.int p2), .val (.int p3), .val (.int p4), .val (.long a5), .second, .val (.long a7), .second, .val (.long z1), .second, .val (.long z2), .second, .val (.long a13), .second, .unset, .unset, .unset, .unset, .unset] [(.ref b3), (.ref b3)])) (by intro t k; exact XS.dup X3.here hx rfl (hb hby at_61) rfl rfl k) ?_
      refine goW (T' := T3) (f' := (mkF m 64 #[.val (.int p0), .val (.int p1), .val (.int p2), .val (.int p3), .val (.int p4), .val (.long a5), .second, .val (.long a7), .second, .val (.long z1), .second, .val (.long z2), .second, .val (.long a13), .second, .unset, .unset, .unset, .unset, .unset] [(.long a5), (.ref b3), (.ref b3)])) (by intro t k; exact XS.lload X3.here hx rfl (hb hby at_62) rfl k) ?_
      refine goW (T' := T3) (f' := (mkF m 65 #[.val (.int p0), .val (.int p1), .val (.int p2), .val (.int p3), .val (.int p4), .val (.long a5), .second, .val (.long a7), .second, .val (.long z1), .second, .val (.long z2), .second, .val (.long a13), .second, .unset, .unset, .unset, .unset, .unset] [(.double (FP.l2d a5)), (.ref b3), (.ref b3)])) (by intro t k; exact XS.l2dS X3.here hx rfl (hb hby at_64) rfl rfl k) ?_
      refine goW (T' := T3) (f' := (mkF m 67 #[.val (.int p0), .val (.int p1), .val (.int p2), .val (.int p3), .val (.int p4), .val (.long a5), .second, .val (.long a7), .second, .val (.long z1), .second, .val (.long z2), .second, .val (.long a13), .second, .unset, .unset, .unset, .unset, .unset] [(.long a7), (.double (FP.l2d a5)), (.ref b3), (.ref b3)])) (by intro t k; exact XS.lload X3.here hx rfl (hb hby at_65) rfl k) ?_
      refine goW (T' := T3) (f' := (mkF m 68 #[.val (.int p0), .val (.int p1), .val (.int p2), .val (.int p3), .val (.int p4), .val (.long a5), .second, .val (.long a7), .second, .val (.long z1), .second, .val (.long z2), .second, .val (.long a13), .second, .unset, .unset, .unset, .unset, .unset] [(.double (FP.l2d a7)), (.double (FP.l2d a5)), (.ref b3), (.ref b3)])) (by intro t k; exact XS.l2dS X3.here hx rfl (hb hby at_67) rfl rfl k) ?_
      refine goW (T' := T3) (f' := (mkF m 70 #[.val (.int p0), .val (.int p1), .val (.int p2), .val (.int p3), .val (.int p4), .val (.long a5), .second, .val (.long a7), .second, .val (.long z1), .second, .val (.long z2), .second, .val (.long a13), .second, .unset, .unset, .unset, .unset, .unset] [(.long z1), (.double (FP.l2d a7)), (.double (FP.l2d a5)), (.ref b3), (.ref b3)])) (by intro t k; exact XS.lload X3.here hx rfl (hb hby at_68) rfl k) ?_
      refine goW (T' := T3) (f' := (mkF m 71 #[.val (.int p0), .val (.int p1), .val (.int p2), .val (.int p3), .val (.int p4), .val (.long a5), .second, .val (.long a7), .second, .val (.long z1), .second, .val (.long z2), .second, .val (.long a13), .second, .unset, .unset, .unset, .unset, .unset] [(.double (FP.l2d z1)), (.double (FP.l2d a7)), (.double (FP.l2d a5)), (.ref b3), (.ref b3)])) (by intro t k; exact XS.l2dS X3.here hx rfl (hb hby at_70) rfl rfl k) ?_
      refine goW (T' := T3) (f' := (mkF m 73 #[.val (.int p0), .val (.int p1), .val (.int p2), .val (.int p3), .val (.int p4), .val (.long a5), .second, .val (.long a7), .second, .val (.long z1), .second, .val (.long z2), .second, .val (.long a13), .second, .unset, .unset, .unset, .unset, .unset] [(.long z2), (.double (FP.l2d z1)), (.double (FP.l2d a7)), (.double (FP.l2d a5)), (.ref b3), (.ref b3)])) (by intro t k; exact XS.lload X3.here hx rfl (hb hby at_71) rfl k) ?_
      refine goW (T' := T3) (f' := (mkF m 74 #[.val (.int p0), .val (.int p1), .val (.int p2), .val (.int p3), .val (.int p4), .val (.long a5), .second, .val (.long a7), .second, .val (.long z1), .second, .val (.long z2), .second, .val (.long a13), .second, .unset, .unset, .unset, .unset, .unset] [(.double (FP.l2d z2)), (.double (FP.l2d z1)), (.double (FP.l2d a7)), (.double (FP.l2d a5)), (.ref b3), (.ref b3)])) (by intro t k; exact XS.l2dS X3.here hx rfl (hb hby at_73) rfl rfl k) ?_
      obtain ⟨_, _, ⟨T4, Lz4, kz4, nz4⟩, -, X4', hT4, hg4, ⟨Lc4, hQ4, lz4, yz4, zz4⟩, st4⟩ := Stand.specialBackS (s := s.setVm s.vm) X3 hx (y := (⟨"com/example/mapwright/mapwright/image/Placement", "<init>", "(DDDD)V"⟩ : MethodName)) rfl hown (mvT hZ (hw _ (List.mem_of_getElem? (i := 5) rfl))) (mvT hZ (hw _ (List.mem_of_getElem? (i := 6) rfl))) (mvT hZ (hw _ (List.mem_of_getElem? (i := 7) rfl))) (by decide) (backOfS (s := s.setVm s.vm) (W := 1) (rm1 l Z aw hw [] b3 (FP.l2d a5) (FP.l2d a7) (FP.l2d z1) (FP.l2d z2)  h3 n0 Z3 A3 F3_b3_originX F3_b3_originY F3_b3_pixelWidth F3_b3_pixelHeight ge_b3 (Jvm.Free.Fl.l2d_fin _) (Jvm.Free.Fl.l2d_fin _) (Jvm.Free.Fl.l2d_fin _) (Jvm.Free.Fl.l2d_fin _) (own_nz0 hzw) (own_nz0 hzh)) hZ (hw _ (List.mem_of_getElem? (i := 7) rfl)) (hw _ (List.mem_of_getElem? (i := 4) rfl)) (by decide) (by decide)) (g := (mkF m 74 #[.val (.int p0), .val (.int p1), .val (.int p2), .val (.int p3), .val (.int p4), .val (.long a5), .second, .val (.long a7), .second, .val (.long z1), .second, .val (.long z2), .second, .val (.long a13), .second, .unset, .unset, .unset, .unset, .unset] [(.double (FP.l2d z2)), (.double (FP.l2d z1)), (.double (FP.l2d a7)), (.double (FP.l2d a5)), (.ref b3), (.ref b3)])) rfl (by rw [hml]; rfl) (Steps.refl _) (a := b3) (argsL := [(.double (FP.l2d a5)), (.double (FP.l2d a7)), (.double (FP.l2d z1)), (.double (FP.l2d z2))]) (rest := [(.ref b3)]) (lenOf pd_28DDDD29V rfl) rfl (by show 2 * 0 + _ ≤ _; exact Nat.le_of_eq rfl) (hb hby at_74) (fun _ _ => ⟨rfl, e3, (by decide : 1 + 8 ≤ _), (by decide : 4 + 156 ≤ _)⟩)
      dsimp only [Pt.U, Pt.locs, Pt.cells, Pt.slots] at X4' lz4 yz4 zz4 st4 hQ4 hT4 hg4
      subst lz4 yz4 zz4
      obtain ⟨X4, hS4, hZ4, hown4⟩ := rebS ((State.WarmedH.refl s).since 0) (Nat.zero_le _) X4' hT4 hg4 hZ hown
      have hZ := hZ4
      have hown := hown4
      obtain ⟨rfl, N4q, K4, Fa4, Fb4, Fc4, Fd4⟩ := hQ4
      have E4_b3 := Exa.keep A3 K4
      have Z4 : n0 ≤ T4.heap.size := Nat.le_trans Z3 K4.1
      have N4 := Fr.app N0 N4q
      refine goW (fun _ k => st4.trans k) ?_
      show RunW _ _ _ _ _ _ _ T4 (mkF m 77 #[.val (.int p0), .val (.int p1), .val (.int p2), .val (.int p3), .val (.int p4), .val (.long a5), .second, .val (.long a7), .second, .val (.long z1), .second, .val (.long z2), .second, .val (.long a13), .second, .unset, .unset, .unset, .unset, .unset] [(.ref b3)])
      refine goW (T' := T4) (f' := (mkF m 79 #[.val (.int p0), .val (.int p1), .val (.int p2), .val (.int p3), .val (.int p4), .val (.long a5), .second, .val (.long a7), .second, .val (.long z1), .second, .val (.long z2), .second, .val (.long a13), .second, .val (.ref b3), .unset, .unset, .unset, .unset] [])) (by intro t k; exact XS.astore X4.here hx rfl (hb hby at_77) rfl rfl (l' := #[.val (.int p0), .val (.int p1), .val (.int p2), .val (.int p3), .val (.int p4), .val (.long a5), .second, .val (.long a7), .second, .val (.long z1), .second, .val (.long z2), .second, .val (.long a13), .second, .val (.ref b3), .unset, .unset, .unset, .unset]) rfl k) ?_
      refine goW (T' := T4) (f' := (mkF m 81 #[.val (.int p0), .val (.int p1), .val (.int p2), .val (.int p3), .val (.int p4), .val (.long a5), .second, .val (.long a7), .second, .val (.long z1), .second, .val (.long z2), .second, .val (.long a13), .second, .val (.ref b3), .unset, .unset, .unset, .unset] [(.ref b3)])) (by intro t k; exact XS.aload X4.here hx rfl (hb hby at_79) rfl rfl k) ?_
      refine goW (T' := T4) (f' := (mkF m 83 #[.val (.int p0), .val (.int p1), .val (.int p2), .val (.int p3), .val (.int p4), .val (.long a5), .second, .val (.long a7), .second, .val (.long z1), .second, .val (.long z2), .second, .val (.long a13), .second, .val (.ref b3), .unset, .unset, .unset, .unset] [(.long a13), (.ref b3)])) (by intro t k; exact XS.lload X4.here hx rfl (hb hby at_81) rfl k) ?_
      refine goW (T' := T4) (f' := (mkF m 84 #[.val (.int p0), .val (.int p1), .val (.int p2), .val (.int p3), .val (.int p4), .val (.long a5), .second, .val (.long a7), .second, .val (.long z1), .second, .val (.long z2), .second, .val (.long a13), .second, .val (.ref b3), .unset, .unset, .unset, .unset] [(.double (FP.l2d a13)), (.ref b3)])) (by intro t k; exact XS.l2dS X4.here hx rfl (hb hby at_83) rfl rfl k) ?_
      refine goW (T' := T4) (f' := (mkF m 87 #[.val (.int p0), .val (.int p1), .val (.int p2), .val (.int p3), .val (.int p4), .val (.long a5), .second, .val (.long a7), .second, .val (.long z1), .second, .val (.long z2), .second, .val (.long a13), .second, .val (.ref b3), .unset, .unset, .unset, .unset] [(.double (4616189618054758400 : UInt64)), (.double (FP.l2d a13)), (.ref b3)])) (by intro t k; exact X4.ldc2DoubleC hx hown (mvT hZ (hw _ (List.mem_of_getElem? (i := 45) rfl))) (g := (mkF m 84 #[.val (.int p0), .val (.int p1), .val (.int p2), .val (.int p3), .val (.int p4), .val (.long a5), .second, .val (.long a7), .second, .val (.long z1), .second, .val (.long z2), .second, .val (.long a13), .second, .val (.ref b3), .unset, .unset, .unset, .unset] [(.double (FP.l2d a13)), (.ref b3)])) rfl (hb hby at_84) _ k) ?_
      refine goW (T' := T4) (f' := (mkF m 88 #[.val (.int p0), .val (.int p1), .val (.int p2), .val (.int p3), .val (.int p4), .val (.long a5), .second, .val (.long a7), .second, .val (.long z1), .second, .val (.long z2), .second, .val (.long a13), .second, .val (.ref b3), .unset, .unset, .unset, .unset] [(.double (FP.ddiv (FP.l2d a13) (4616189618054758400 : UInt64))), (.ref b3)])) (by intro t k; exact XS.ddivS X4.here hx rfl (hb hby at_87) rfl (own_q (own_x1 hq13)) rfl k) ?_
      obtain ⟨cq5, kq5, q5a, q5b, q5c⟩ := isOf hZ rfl E4_b3
      obtain ⟨_, _, ⟨T5, Lz5, kz5, nz5⟩, -, X5, ⟨Lc5, hQ5, lz5, yz5, zz5⟩, st5⟩ := X4.virtualBack hx (y := (⟨"com/example/mapwright/mapwright/image/Placement", "columnToX", "(D)D"⟩ : MethodName)) (z := (⟨"com/example/mapwright/mapwright/image/Placement", "columnToX", "(D)D"⟩ : MethodName)) hown (mvT hZ (hw _ (List.mem_of_getElem? (i := 46) rfl))) (mvT hZ (hw _ (List.mem_of_getElem? (i := 47) rfl))) (notFace_of_selects (args := #[]) (mvT hZ (hw _ (List.mem_of_getElem? (i := 49) rfl)))) (mvT hZ (hw _ (List.mem_of_getElem? (i := 49) rfl))) (mvT hZ (hw _ (List.mem_of_getElem? (i := 48) rfl))) (by decide) (backOf (W := 0) (rm7 l Z aw hw [] b3 (FP.ddiv (FP.l2d a13) (4616189618054758400 : UInt64)) (FP.l2d a5) (FP.l2d z1) T4.heap n0 Z4 Fa4 Fc4 (own_q (own_x2 hq13 hzw)) (own_q (own_x3 hq5 hq13 hzw))) hZ (hw _ (List.mem_of_getElem? (i := 50) rfl)) (hw _ (List.mem_of_getElem? (i := 4) rfl)) (by decide) (by decide)) q5a q5c (g := (mkF m 88 #[.val (.int p0), .val (.int p1), .val (.int p2), .val (.int p3), .val (.int p4), .val (.long a5), .second, .val (.long a7), .second, .val (.long z1), .second, .val (.long z2), .second, .val (.long a13), .second, .val (.ref b3), .unset, .unset, .unset, .unset] [(.double (FP.ddiv (FP.l2d a13) (4616189618054758400 : UInt64))), (.ref b3)])) rfl (by rw [hml]; rfl) (Steps.refl _) (argsL := [(.double (FP.ddiv (FP.l2d a13) (4616189618054758400 : UInt64)))]) (rest := []) (lenOf pd_28D29D rfl) rfl (by show 2 * 0 + _ ≤ _; exact Nat.le_of_eq rfl) (hb hby at_88) (fun _ _ => ⟨rfl, rfl, (by decide : 9 + 0 ≤ _), (by decide : 160 + 0 ≤ _)⟩)
      dsimp only [Pt.U, Pt.locs, Pt.cells, Pt.slots] at X5 lz5 yz5 zz5 st5 hQ5
      subst lz5 yz5 zz5
      obtain ⟨rfl, N5q, e5⟩ := hQ5
      have N5 := Fr.app N4 N5q
      refine goW (fun _ k => st5.trans k) ?_
      show RunW _ _ _ _ _ _ _ T5 (mkF m 91 #[.val (.int p0), .val (.int p1), .val (.int p2), .val (.int p3), .val (.int p4), .val (.long a5), .second, .val (.long a7), .second, .val (.long z1), .second, .val (.long z2), .second, .val (.long a13), .second, .val (.ref b3), .unset, .unset, .unset, .unset] [(.double (FP.dadd (FP.l2d a5) (FP.dmul (FP.ddiv (FP.l2d a13) (4616189618054758400 : UInt64)) (FP.l2d z1))))])
      refine goW (T' := T5) (f' := (mkF m 93 #[.val (.int p0), .val (.int p1), .val (.int p2), .val (.int p3), .val (.int p4), .val (.long a5), .second, .val (.long a7), .second, .val (.long z1), .second, .val (.long z2), .second, .val (.long a13), .second, .val (.ref b3), .val (.double (FP.dadd (FP.l2d a5) (FP.dmul (FP.ddiv (FP.l2d a13) (4616189618054758400 : UInt64)) (FP.l2d z1)))), .second, .unset, .unset] [])) (by intro t k; exact XS.dstore X5.here hx rfl (hb hby at_91) rfl (l' := #[.val (.int p0), .val (.int p1), .val (.int p2), .val (.int p3), .val (.int p4), .val (.long a5), .second, .val (.long a7), .second, .val (.long z1), .second, .val (.long z2), .second, .val (.long a13), .second, .val (.ref b3), .val (.double (FP.dadd (FP.l2d a5) (FP.dmul (FP.ddiv (FP.l2d a13) (4616189618054758400 : UInt64)) (FP.l2d z1)))), .second, .unset, .unset]) rfl k) ?_
      refine goW (T' := T5) (f' := (mkF m 96 #[.val (.int p0), .val (.int p1), .val (.int p2), .val (.int p3), .val (.int p4), .val (.long a5), .second, .val (.long a7), .second, .val (.long z1), .second, .val (.long z2), .second, .val (.long a13), .second, .val (.ref b3), .val (.double (FP.dadd (FP.l2d a5) (FP.dmul (FP.ddiv (FP.l2d a13) (4616189618054758400 : UInt64)) (FP.l2d z1)))), .second, .unset, .unset] [(.long (4 : Int64))])) (by intro t k; exact X5.ldc2Long hx hown (mvT hZ (hw _ (List.mem_of_getElem? (i := 51) rfl))) (g := (mkF m 93 #[.val (.int p0), .val (.int p1), .val (.int p2), .val (.int p3), .val (.int p4), .val (.long a5), .second, .val (.long a7), .second, .val (.long z1), .second, .val (.long z2), .second, .val (.long a13), .second, .val (.ref b3), .val (.double (FP.dadd (FP.l2d a5) (FP.dmul (FP.ddiv (FP.l2d a13) (4616189618054758400 : UInt64)) (FP.l2d z1)))), .second, .unset, .unset] [])) rfl (hb hby at_93) _ k) ?_
      refine goW (T' := T5) (f' := (mkF m 98 #[.val (.int p0), .val (.int p1), .val (.int p2), .val (.int p3), .val (.int p4), .val (.long a5), .second, .val (.long a7), .second, .val (.long z1), .second, .val (.long z2), .second, .val (.long a13), .second, .val (.ref b3), .val (.double (FP.dadd (FP.l2d a5) (FP.dmul (FP.ddiv (FP.l2d a13) (4616189618054758400 : UInt64)) (FP.l2d z1)))), .second, .unset, .unset] [(.long a5), (.long (4 : Int64))])) (by intro t k; exact XS.lload X5.here hx rfl (hb hby at_96) rfl k) ?_
      refine goW (T' := T5) (f' := (mkF m 99 #[.val (.int p0), .val (.int p1), .val (.int p2), .val (.int p3), .val (.int p4), .val (.long a5), .second, .val (.long a7), .second, .val (.long z1), .second, .val (.long z2), .second, .val (.long a13), .second, .val (.ref b3), .val (.double (FP.dadd (FP.l2d a5) (FP.dmul (FP.ddiv (FP.l2d a13) (4616189618054758400 : UInt64)) (FP.l2d z1)))), .second, .unset, .unset] [(.long ((4 : Int64) * a5))])) (by intro t k; exact XS.lmul X5.here hx rfl (hb hby at_98) rfl k) ?_
      refine goW (T' := T5) (f' := (mkF m 101 #[.val (.int p0), .val (.int p1), .val (.int p2), .val (.int p3), .val (.int p4), .val (.long a5), .second, .val (.long a7), .second, .val (.long z1), .second, .val (.long z2), .second, .val (.long a13), .second, .val (.ref b3), .val (.double (FP.dadd (FP.l2d a5) (FP.dmul (FP.ddiv (FP.l2d a13) (4616189618054758400 : UInt64)) (FP.l2d z1)))), .second, .unset, .unset] [(.long a13), (.long ((4 : Int64) * a5))])) (by intro t k; exact XS.lload X5.here hx rfl (hb hby at_99) rfl k) ?_
      refine goW (T' := T5) (f' := (mkF m 103 #[.val (.int p0), .val (.int p1), .val (.int p2), .val (.int p3), .val (.int p4), .val (.long a5), .second, .val (.long a7), .second, .val (.long z1), .second, .val (.long z2), .second, .val (.long a13), .second, .val (.ref b3), .val (.double (FP.dadd (FP.l2d a5) (FP.dmul (FP.ddiv (FP.l2d a13) (4616189618054758400 : UInt64)) (FP.l2d z1)))), .second, .unset, .unset] [(.long z1), (.long a13), (.long ((4 : Int64) * a5))])) (by intro t k; exact XS.lload X5.here hx rfl (hb hby at_101) rfl k) ?_
      refine goW (T' := T5) (f' := (mkF m 104 #[.val (.int p0), .val (.int p1), .val (.int p2), .val (.int p3), .val (.int p4), .val (.long a5), .second, .val (.long a7), .second, .val (.long z1), .second, .val (.long z2), .second, .val (.long a13), .second, .val (.ref b3), .val (.double (FP.dadd (FP.l2d a5) (FP.dmul (FP.ddiv (FP.l2d a13) (4616189618054758400 : UInt64)) (FP.l2d z1)))), .second, .unset, .unset] [(.long (a13 * z1)), (.long ((4 : Int64) * a5))])) (by intro t k; exact XS.lmul X5.here hx rfl (hb hby at_103) rfl k) ?_
      refine goW (T' := T5) (f' := (mkF m 105 #[.val (.int p0), .val (.int p1), .val (.int p2), .val (.int p3), .val (.int p4), .val (.long a5), .second, .val (.long a7), .second, .val (.long z1), .second, .val (.long z2), .second, .val (.long a13), .second, .val (.ref b3), .val (.double (FP.dadd (FP.l2d a5) (FP.dmul (FP.ddiv (FP.l2d a13) (4616189618054758400 : UInt64)) (FP.l2d z1)))), .second, .unset, .unset] [(.long (((4 : Int64) * a5) + (a13 * z1)))])) (by intro t k; exact XS.ladd X5.here hx rfl (hb hby at_104) rfl k) ?_
      refine goW (T' := T5) (f' := (mkF m 106 #[.val (.int p0), .val (.int p1), .val (.int p2), .val (.int p3), .val (.int p4), .val (.long a5), .second, .val (.long a7), .second, .val (.long z1), .second, .val (.long z2), .second, .val (.long a13), .second, .val (.ref b3), .val (.double (FP.dadd (FP.l2d a5) (FP.dmul (FP.ddiv (FP.l2d a13) (4616189618054758400 : UInt64)) (FP.l2d z1)))), .second, .unset, .unset] [(.double (FP.l2d (((4 : Int64) * a5) + (a13 * z1))))])) (by intro t k; exact XS.l2dS X5.here hx rfl (hb hby at_105) rfl rfl k) ?_
      refine goW (T' := T5) (f' := (mkF m 109 #[.val (.int p0), .val (.int p1), .val (.int p2), .val (.int p3), .val (.int p4), .val (.long a5), .second, .val (.long a7), .second, .val (.long z1), .second, .val (.long z2), .second, .val (.long a13), .second, .val (.ref b3), .val (.double (FP.dadd (FP.l2d a5) (FP.dmul (FP.ddiv (FP.l2d a13) (4616189618054758400 : UInt64)) (FP.l2d z1)))), .second, .unset, .unset] [(.double (4616189618054758400 : UInt64)), (.double (FP.l2d (((4 : Int64) * a5) + (a13 * z1))))])) (by intro t k; exact X5.ldc2DoubleC hx hown (mvT hZ (hw _ (List.mem_of_getElem? (i := 45) rfl))) (g := (mkF m 106 #[.val (.int p0), .val (.int p1), .val (.int p2), .val (.int p3), .val (.int p4), .val (.long a5), .second, .val (.long a7), .second, .val (.long z1), .second, .val (.long z2), .second, .val (.long a13), .second, .val (.ref b3), .val (.double (FP.dadd (FP.l2d a5) (FP.dmul (FP.ddiv (FP.l2d a13) (4616189618054758400 : UInt64)) (FP.l2d z1)))), .second, .unset, .unset] [(.double (FP.l2d (((4 : Int64) * a5) + (a13 * z1))))])) rfl (hb hby at_106) _ k) ?_
      refine goW (T' := T5) (f' := (mkF m 110 #[.val (.int p0), .val (.int p1), .val (.int p2), .val (.int p3), .val (.int p4), .val (.long a5), .second, .val (.long a7), .second, .val (.long z1), .second, .val (.long z2), .second, .val (.long a13), .second, .val (.ref b3), .val (.double (FP.dadd (FP.l2d a5) (FP.dmul (FP.ddiv (FP.l2d a13) (4616189618054758400 : UInt64)) (FP.l2d z1)))), .second, .unset, .unset] [(.double (FP.ddiv (FP.l2d (((4 : Int64) * a5) + (a13 * z1))) (4616189618054758400 : UInt64)))])) (by intro t k; exact XS.ddivS X5.here hx rfl (hb hby at_109) rfl (own_q (own_x4 hq5 hq13 hzw)) rfl k) ?_
      refine goW (T' := T5) (f' := (mkF m 112 #[.val (.int p0), .val (.int p1), .val (.int p2), .val (.int p3), .val (.int p4), .val (.long a5), .second, .val (.long a7), .second, .val (.long z1), .second, .val (.long z2), .second, .val (.long a13), .second, .val (.ref b3), .val (.double (FP.dadd (FP.l2d a5) (FP.dmul (FP.ddiv (FP.l2d a13) (4616189618054758400 : UInt64)) (FP.l2d z1)))), .second, .val (.double (FP.ddiv (FP.l2d (((4 : Int64) * a5) + (a13 * z1))) (4616189618054758400 : UInt64))), .second] [])) (by intro t k; exact XS.dstore X5.here hx rfl (hb hby at_110) rfl (l' := #[.val (.int p0), .val (.int p1), .val (.int p2), .val (.int p3), .val (.int p4), .val (.long a5), .second, .val (.long a7), .second, .val (.long z1), .second, .val (.long z2), .second, .val (.long a13), .second, .val (.ref b3), .val (.double (FP.dadd (FP.l2d a5) (FP.dmul (FP.ddiv (FP.l2d a13) (4616189618054758400 : UInt64)) (FP.l2d z1)))), .second, .val (.double (FP.ddiv (FP.l2d (((4 : Int64) * a5) + (a13 * z1))) (4616189618054758400 : UInt64))), .second]) rfl k) ?_
      refine goW (T' := T5) (f' := (mkF m 114 #[.val (.int p0), .val (.int p1), .val (.int p2), .val (.int p3), .val (.int p4), .val (.long a5), .second, .val (.long a7), .second, .val (.long z1), .second, .val (.long z2), .second, .val (.long a13), .second, .val (.ref b3), .val (.double (FP.dadd (FP.l2d a5) (FP.dmul (FP.ddiv (FP.l2d a13) (4616189618054758400 : UInt64)) (FP.l2d z1)))), .second, .val (.double (FP.ddiv (FP.l2d (((4 : Int64) * a5) + (a13 * z1))) (4616189618054758400 : UInt64))), .second] [(.double (FP.dadd (FP.l2d a5) (FP.dmul (FP.ddiv (FP.l2d a13) (4616189618054758400 : UInt64)) (FP.l2d z1))))])) (by intro t k; exact XS.dload X5.here hx rfl (hb hby at_112) rfl k) ?_
      refine goW (T' := T5) (f' := (mkF m 116 #[.val (.int p0), .val (.int p1), .val (.int p2), .val (.int p3), .val (.int p4), .val (.long a5), .second, .val (.long a7), .second, .val (.long z1), .second, .val (.long z2), .second, .val (.long a13), .second, .val (.ref b3), .val (.double (FP.dadd (FP.l2d a5) (FP.dmul (FP.ddiv (FP.l2d a13) (4616189618054758400 : UInt64)) (FP.l2d z1)))), .second, .val (.double (FP.ddiv (FP.l2d (((4 : Int64) * a5) + (a13 * z1))) (4616189618054758400 : UInt64))), .second] [(.double (FP.ddiv (FP.l2d (((4 : Int64) * a5) + (a13 * z1))) (4616189618054758400 : UInt64))), (.double (FP.dadd (FP.l2d a5) (FP.dmul (FP.ddiv (FP.l2d a13) (4616189618054758400 : UInt64)) (FP.l2d z1))))])) (by intro t k; exact XS.dload X5.here hx rfl (hb hby at_114) rfl k) ?_
      refine goW (T' := T5) (f' := (mkF m 117 #[.val (.int p0), .val (.int p1), .val (.int p2), .val (.int p3), .val (.int p4), .val (.long a5), .second, .val (.long a7), .second, .val (.long z1), .second, .val (.long z2), .second, .val (.long a13), .second, .val (.ref b3), .val (.double (FP.dadd (FP.l2d a5) (FP.dmul (FP.ddiv (FP.l2d a13) (4616189618054758400 : UInt64)) (FP.l2d z1)))), .second, .val (.double (FP.ddiv (FP.l2d (((4 : Int64) * a5) + (a13 * z1))) (4616189618054758400 : UInt64))), .second] [(.int (cmpValue (FP.dcmp (FP.dadd (FP.l2d a5) (FP.dmul (FP.ddiv (FP.l2d a13) (4616189618054758400 : UInt64)) (FP.l2d z1))) (FP.ddiv (FP.l2d (((4 : Int64) * a5) + (a13 * z1))) (4616189618054758400 : UInt64))) .l))])) (by intro t k; exact XS.dcmpS X5.here hx rfl (hb hby at_116) rfl rfl k) ?_
      refine goW (T' := T5) (f' := (mkF m 120 #[.val (.int p0), .val (.int p1), .val (.int p2), .val (.int p3), .val (.int p4), .val (.long a5), .second, .val (.long a7), .second, .val (.long z1), .second, .val (.long z2), .second, .val (.long a13), .second, .val (.ref b3), .val (.double (FP.dadd (FP.l2d a5) (FP.dmul (FP.ddiv (FP.l2d a13) (4616189618054758400 : UInt64)) (FP.l2d z1)))), .second, .val (.double (FP.ddiv (FP.l2d (((4 : Int64) * a5) + (a13 * z1))) (4616189618054758400 : UInt64))), .second] [])) (by intro t k; exact XS.ifNo X5.here hx rfl (hb hby at_117) rfl ((if0 _ _).trans (teq (own_eq (own_x3 hq5 hq13 hzw) (own_x4 hq5 hq13 hzw) : (cmpValue (FP.dcmp (FP.dadd (FP.l2d a5) (FP.dmul (FP.ddiv (FP.l2d a13) (4616189618054758400 : UInt64)) (FP.l2d z1))) (FP.ddiv (FP.l2d (((4 : Int64) * a5) + (a13 * z1))) (4616189618054758400 : UInt64))) .l) = (0 : Int32))).2) k) ?_
      refine goW (T' := T5) (f' := (mkF m 121 #[.val (.int p0), .val (.int p1), .val (.int p2), .val (.int p3), .val (.int p4), .val (.long a5), .second, .val (.long a7), .second, .val (.long z1), .second, .val (.long z2), .second, .val (.long a13), .second, .val (.ref b3), .val (.double (FP.dadd (FP.l2d a5) (FP.dmul (FP.ddiv (FP.l2d a13) (4616189618054758400 : UInt64)) (FP.l2d z1)))), .second, .val (.double (FP.ddiv (FP.l2d (((4 : Int64) * a5) + (a13 * z1))) (4616189618054758400 : UInt64))), .second] [(.int (1 : Int32))])) (by intro t k; exact XS.iconst X5.here hx rfl (hb hby at_120) k) ?_
      refine goW (T' := T5) (f' := (mkF m 125 #[.val (.int p0), .val (.int p1), .val (.int p2), .val (.int p3), .val (.int p4), .val (.long a5), .second, .val (.long a7), .second, .val (.long z1), .second, .val (.long z2), .second, .val (.long a13), .second, .val (.ref b3), .val (.double (FP.dadd (FP.l2d a5) (FP.dmul (FP.ddiv (FP.l2d a13) (4616189618054758400 : UInt64)) (FP.l2d z1)))), .second, .val (.double (FP.ddiv (FP.l2d (((4 : Int64) * a5) + (a13 * z1))) (4616189618054758400 : UInt64))), .second] [(.int (1 : Int32))])) (by intro t k; exact XS.goto X5.here hx rfl (pc0 := 121) (pc' := 125) rfl (hb hby at_121) (by decide) (by decide) k) ?_
      refine retZW (vm₁ := T4.vm) X5 hS4 (by rw [e5]; exact (Nat.le_refl _)) hx (t := .boolean) Bd.returns (by simp) (hb hby at_125) hlk (by decide) (by decide) ?_
      show Q0 Z p0 p1 p2 p3 p4 h0 n0 _ T5.heap _
      rw [e5]
      have hv' : (nar .boolean (1 : Int32)) = (1 : Int32) := by
        rfl
      have hv : (some (.int (nar .boolean (1 : Int32))) : Option Value) = some (.int (1 : Int32)) := congrArg (fun z => (some (.int z) : Option Value)) hv'
      exact ⟨hv, N5⟩
    show RunW _ _ _ _ _ _ _ s₁ (mkF m 42 #[.val (.int p0), .val (.int p1), .val (.int p2), .val (.int p3), .val (.int p4), .val (.long a5), .second, .val (.long a7), .second, .val (.long z1), .second, .val (.long a11), .second, .unset, .unset, .unset, .unset, .unset, .unset, .unset] [(.int (lcmpW a11 (0 : Int64)))])
    by_cases hc42 : a11 = (0 : Int64)
    · refine goW (T' := s₁) (f' := (mkF m 45 #[.val (.int p0), .val (.int p1), .val (.int p2), .val (.int p3), .val (.int p4), .val (.long a5), .second, .val (.long a7), .second, .val (.long z1), .second, .val (.long a11), .second, .unset, .unset, .unset, .unset, .unset, .unset, .unset] [])) (by intro t k; exact XS.ifNo X0.here hx rfl (hb hby at_42) rfl ((if0 _ _).trans (teq ((lw_eq _ _).mpr hc42)).2) k) ?_
      refine goW (T' := s₁) (f' := (mkF m 48 #[.val (.int p0), .val (.int p1), .val (.int p2), .val (.int p3), .val (.int p4), .val (.long a5), .second, .val (.long a7), .second, .val (.long z1), .second, .val (.long a11), .second, .unset, .unset, .unset, .unset, .unset, .unset, .unset] [(.long (-1 : Int64))])) (by intro t k; exact X0.ldc2Long hx hown (mvT hZ (hw _ (List.mem_of_getElem? (i := 52) rfl))) (g := (mkF m 45 #[.val (.int p0), .val (.int p1), .val (.int p2), .val (.int p3), .val (.int p4), .val (.long a5), .second, .val (.long a7), .second, .val (.long z1), .second, .val (.long a11), .second, .unset, .unset, .unset, .unset, .unset, .unset, .unset] [])) rfl (hb hby at_45) _ k) ?_
      refine goW (T' := s₁) (f' := (mkF m 50 #[.val (.int p0), .val (.int p1), .val (.int p2), .val (.int p3), .val (.int p4), .val (.long a5), .second, .val (.long a7), .second, .val (.long z1), .second, .val (.long (-1 : Int64)), .second, .unset, .unset, .unset, .unset, .unset, .unset, .unset] [])) (by intro t k; exact XS.lstore X0.here hx rfl (hb hby at_48) rfl (l' := #[.val (.int p0), .val (.int p1), .val (.int p2), .val (.int p3), .val (.int p4), .val (.long a5), .second, .val (.long a7), .second, .val (.long z1), .second, .val (.long (-1 : Int64)), .second, .unset, .unset, .unset, .unset, .unset, .unset, .unset]) rfl k) ?_
      have ez2 : z2 = (-1 : Int64) := (hz2).trans (if_pos hc42)
      subst ez2
      exact J42
    · refine goW (T' := s₁) (f' := (mkF m 50 #[.val (.int p0), .val (.int p1), .val (.int p2), .val (.int p3), .val (.int p4), .val (.long a5), .second, .val (.long a7), .second, .val (.long z1), .second, .val (.long a11), .second, .unset, .unset, .unset, .unset, .unset, .unset, .unset] [])) (by intro t k; exact XS.ifYes X0.here hx rfl (pc0 := 42) (pc' := 50) rfl (hb hby at_42) rfl ((if0 _ _).trans (feq (fun q => hc42 ((lw_eq _ _).mp q))).2) (by decide) (by decide) k) ?_
      have ez2 : z2 = a11 := (hz2).trans (if_neg hc42)
      subst ez2
      exact J42
  show RunW _ _ _ _ _ _ _ s₁ (mkF m 25 #[.val (.int p0), .val (.int p1), .val (.int p2), .val (.int p3), .val (.int p4), .val (.long a5), .second, .val (.long a7), .second, .val (.long a9), .second, .unset, .unset, .unset, .unset, .unset, .unset, .unset, .unset, .unset] [(.int (lcmpW a9 (0 : Int64)))])
  by_cases hc25 : a9 = (0 : Int64)
  · refine goW (T' := s₁) (f' := (mkF m 28 #[.val (.int p0), .val (.int p1), .val (.int p2), .val (.int p3), .val (.int p4), .val (.long a5), .second, .val (.long a7), .second, .val (.long a9), .second, .unset, .unset, .unset, .unset, .unset, .unset, .unset, .unset, .unset] [])) (by intro t k; exact XS.ifNo X0.here hx rfl (hb hby at_25) rfl ((if0 _ _).trans (teq ((lw_eq _ _).mpr hc25)).2) k) ?_
    refine goW (T' := s₁) (f' := (mkF m 29 #[.val (.int p0), .val (.int p1), .val (.int p2), .val (.int p3), .val (.int p4), .val (.long a5), .second, .val (.long a7), .second, .val (.long a9), .second, .unset, .unset, .unset, .unset, .unset, .unset, .unset, .unset, .unset] [(.long (1 : Int64))])) (by intro t k; exact XS.lconst X0.here hx rfl (hb hby at_28) k) ?_
    refine goW (T' := s₁) (f' := (mkF m 31 #[.val (.int p0), .val (.int p1), .val (.int p2), .val (.int p3), .val (.int p4), .val (.long a5), .second, .val (.long a7), .second, .val (.long (1 : Int64)), .second, .unset, .unset, .unset, .unset, .unset, .unset, .unset, .unset, .unset] [])) (by intro t k; exact XS.lstore X0.here hx rfl (hb hby at_29) rfl (l' := #[.val (.int p0), .val (.int p1), .val (.int p2), .val (.int p3), .val (.int p4), .val (.long a5), .second, .val (.long a7), .second, .val (.long (1 : Int64)), .second, .unset, .unset, .unset, .unset, .unset, .unset, .unset, .unset, .unset]) rfl k) ?_
    have ez1 : z1 = (1 : Int64) := (hz1).trans (if_pos hc25)
    subst ez1
    exact J25
  · refine goW (T' := s₁) (f' := (mkF m 31 #[.val (.int p0), .val (.int p1), .val (.int p2), .val (.int p3), .val (.int p4), .val (.long a5), .second, .val (.long a7), .second, .val (.long a9), .second, .unset, .unset, .unset, .unset, .unset, .unset, .unset, .unset, .unset] [])) (by intro t k; exact XS.ifYes X0.here hx rfl (pc0 := 25) (pc' := 31) rfl (hb hby at_25) rfl ((if0 _ _).trans (feq (fun q => hc25 ((lw_eq _ _).mp q))).2) (by decide) (by decide) k) ?_
    have ez1 : z1 = a9 := (hz1).trans (if_neg hc25)
    subst ez1
    exact J25
set_option maxRecDepth 65536 in
set_option maxHeartbeats 40000000 in
theorem comes_1 {Post : Tables → Env → Array Value → State → Outcome → State → Prop} (hpost : ∀ tb e args s v u, (limb_1_1.after args s (.returned v) u = true ∧ limb_1_2.after args s (.returned v) u = true ∧ True) → ReturnedEndW s (.returned v) u (Jvm.fieldLocs frame_1_writes args s ++ Jvm.arrayLocs frame_1_arrays args s ++ Jvm.staticLocs frame_1_statics s) 24 4224 → Post tb e args s (.returned v) u) :
    ArmFor flags0 classFile x code maxLocals ret World_1 tables_1 room_1 Calls_1 rest_1 Pre_1 Post := by
  intro l hfl _ _ p e ha hc hk s m args below hf hA hF happ hP
  obtain ⟨hcalls, hrest, hpre⟩ := hP
  obtain ⟨-, -, -, hnamed, -, -, -, hat⟩ := (Spec.applies_iff hf).mp happ
  obtain ⟨hg, hn⟩ := and_e (Cond.before_iff.mp (show (Jvm.Cond.and given_1 narrow_1).before args s = true from hpre))
  obtain ⟨g1, g2⟩ := and_e hg
  obtain ⟨g3, g4⟩ := and_e g2
  obtain ⟨g5, g6⟩ := and_e g4
  obtain ⟨g7, g8⟩ := and_e g6
  obtain ⟨g9, g10⟩ := and_e g8
  obtain ⟨w0, w1, w2, w3, w4, rfl⟩ : ∃ w0 w1 w2 w3 w4 : Value, args = #[w0, w1, w2, w3, w4] := by
    have hs : args.size = 5 := by simpa [Cond.value, given_1] using g1
    obtain ⟨L⟩ := args
    match L, hs with
    | [w0, w1, w2, w3, w4], _ => exact ⟨w0, w1, w2, w3, w4, rfl⟩
  have hw := fun d (hd : d ∈ tables_1) => atoms_spec (ws := Jvm.Cond.code x code maxLocals ret :: tables_1) hat d (List.mem_cons_of_mem _ hd)
  have hfit : Fit s := fun {y c} hc i hi => by
    obtain ⟨ha, rfl⟩ := Array.getElem?_eq_some_iff.mp hc
    have q := List.all_eq_true.mp ((Array.all_eq_true_iff_forall_mem.mp hF) _ (Array.getElem_mem ha)) i (List.mem_range.mpr hi)
    simpa [Array.getElem?_eq_getElem hi] using q
  obtain ⟨i0, ei0⟩ := is_v g3
  obtain rfl : w0 = (.int i0) := Option.some.inj ei0
  obtain ⟨i1, ei1⟩ := is_v g5
  obtain rfl : w1 = (.int i1) := Option.some.inj ei1
  obtain ⟨i2, ei2⟩ := is_v g7
  obtain rfl : w2 = (.int i2) := Option.some.inj ei2
  obtain ⟨i3, ei3⟩ := is_v g9
  obtain rfl : w3 = (.int i3) := Option.some.inj ei3
  obtain ⟨i4, ei4⟩ := is_v g10
  obtain rfl : w4 = (.int i4) := Option.some.inj ei4
  obtain ⟨n, o, h1, h2, h3, _, L, rfl, ⟨rfl, N⟩, hq⟩ := rm0 l s _ hw tables_1 i0 i1 i2 i3 i4 s.heap s.heap.size (Nat.le_refl _) p e ha hc hk s m _ below hf ((Spec.applies_iff_loose hf).mp happ).1 ⟨rfl, State.Warmed39.refl s, rfl⟩ trivial
  refine ⟨n, _, h1, h2, h3, hpost _ _ _ _ _ _ ⟨Cond.after_iff.mpr rfl, Cond.after_iff.mpr (eq_i res_at (Term.int_eval (1)) rfl), trivial⟩ ⟨hq.1, hq.2.1, hq.2.2.1, (hq.2.2.2.sift fun y hy => Or.inr (N y hy)).mono (by decide) (by decide)⟩⟩
theorem main_1_1 : Claimed_1_1 := comes_1 fun _ _ _ _ _ _ h hF => ⟨h.1, hF⟩
theorem main_1_2 : Claimed_1_2 := comes_1 fun _ _ _ _ _ _ h hF => ⟨h.2.1, hF⟩
end Jvm.Pilot.@@N@@
namespace Jvm.Pilot.@@N@@
open Jvm Jvm.ClassFile Sem Op Lib Jvm.Free Jvm.Stand Jvm.Pilot.@@N@@.Jvm.D
/-! MADE BY PROGRAM (witnessworld.py) out of the Statement's table words and the real class files: 17 classes; the members and pool entries that the words name. The judged class is class 1, her method 1. -/
namespace start1
open Jvm.ClassFile
def u (s : String) : CpInfo := .utf8 (stringToUtf16 s)
/-- a pool by its gaps: so many unusable entries, then the entry; so many at the end -/
def gap : Nat → List CpInfo → List CpInfo
  | 0, r => r
  | n + 1, r => .unusable :: gap n r
def poolList (es : List (Nat × CpInfo)) (last : Nat) : List CpInfo := es.foldr (fun e r => gap e.1 (e.2 :: r)) (gap last [])
def pool (es : List (Nat × CpInfo)) (last : Nat) : Array CpInfo := ⟨poolList es last⟩
def fileOf (pool : Array CpInfo) (this : Nat) (attrs : Array Attribute := #[]) (ms : Array MethodInfo := #[]) (fl : Nat := 33) (sup : Nat := 0) (ifs : Array Nat := #[]) (fds : Array FieldInfo := #[]) : ClassFile where
  minorVersion := 0
  majorVersion := 65
  constantPool := pool
  accessFlags := fl
  thisClass := this
  superClass := sup
  interfaces := ifs
  fields := fds
  methods := ms
  attributes := attrs
def plain (name : String) (sup : Option ClassId) : Class where
  name := name
  kind := .ordinary
  loader := none
  accessFlags := 33
  super := sup
  interfaces := #[]
  cf := none
  fields := #[]
  methods := #[]
  instanceTypes := #[]
  staticTypes := #[]
  resolved := #[]
  callSites := []
  init := .initialized
  statics := none
  mirror := none

def pool0 : Array CpInfo := pool [(5, u "<init>"), (0, u "()V"), (1, .class_ 10), (1, u "java/lang/Object")] 113

def k0c0 : Code := { maxStack := 0, maxLocals := 1, code := object_method_1_code, exceptionTable := #[], attributes := #[] }
def k0m0 : Method := { name := "<init>", desc := "()V", sig := { parameters := [], returnType := none }, accessFlags := 1, code := some k0c0 }
/-- java/lang/Object -/
def k0 : Class := { plain "java/lang/Object" none with
  accessFlags := 33
  interfaces := #[]
  cf := some (fileOf pool0 8 #[] #[{ accessFlags := 1, nameIndex := 5, descriptorIndex := 6, attributes := #[] }] 33 0 #[] #[])
  fields := #[]
  methods := #[k0m0]
  instanceTypes := #[]
  staticTypes := #[]
  resolved := Array.replicate 124 none
  statics := none }

def pool1 : Array CpInfo := pool [(2, .class_ 4), (1, u "java/lang/Object"), (0, u "<init>"), (0, u "()V"), (0, .integer 16777216), (0, .integer 1048576), (0, .long 18446744073709551615), (1, .class_ 12), (0, u "com/example/mapwright/mapwright/image/Placement"), (0, .methodref 11 14), (0, .nameAndType 5 15), (0, u "(DDDD)V"), (0, .double 4616189618054758400), (1, .methodref 11 19), (0, .nameAndType 20 21), (0, u "columnToX"), (0, u "(D)D"), (0, .long 4), (1, .class_ 25), (0, u "com/example/mapwright/mapwright/image/PlacementColumnToXPinLaw"), (2, u "law"), (0, u "(IIIII)Z")] 3

def k1m0 : Method := { name := "<init>", desc := "()V", sig := { parameters := [], returnType := none }, accessFlags := 1, code := none }
def k1c1 : Code := { maxStack := 10, maxLocals := 20, code := code, exceptionTable := #[], attributes := #[] }
def k1m1 : Method := { name := "law", desc := "(IIIII)Z", sig := { parameters := [.int, .int, .int, .int, .int], returnType := some .boolean }, accessFlags := 9, code := some k1c1 }
/-- com/example/mapwright/mapwright/image/PlacementColumnToXPinLaw -/
def k1 : Class := { plain "com/example/mapwright/mapwright/image/PlacementColumnToXPinLaw" (some 0) with
  accessFlags := 49
  interfaces := #[]
  cf := some (fileOf pool1 24 #[] #[{ accessFlags := 1, nameIndex := 5, descriptorIndex := 6, attributes := #[] }, { accessFlags := 9, nameIndex := 28, descriptorIndex := 29, attributes := #[] }] 49 2 #[] #[])
  fields := #[]
  methods := #[k1m0, k1m1]
  instanceTypes := #[]
  staticTypes := #[]
  resolved := Array.replicate 33 none
  statics := none }

def pool2 : Array CpInfo := pool [(1, .methodref 2 3), (0, .class_ 4), (0, .nameAndType 5 6), (0, u "java/lang/Object"), (0, u "<init>"), (0, u "()V"), (0, .string 8), (0, u "originX"), (0, .methodref 10 11), (0, .class_ 12), (0, .nameAndType 13 14), (0, u "com/example/mapwright/mapwright/image/Placement"), (0, u "requireFinite"), (0, u "(Ljava/lang/String;D)V"), (0, .string 16), (0, u "originY"), (0, .string 18), (0, u "pixelWidth"), (0, .methodref 10 20), (0, .nameAndType 21 14), (0, u "requireNonZero"), (0, .string 23), (0, u "pixelHeight"), (0, .fieldref 10 25), (0, .nameAndType 8 26), (0, u "D"), (0, .fieldref 10 28), (0, .nameAndType 16 26), (0, .fieldref 10 30), (0, .nameAndType 18 26), (0, .fieldref 10 32), (0, .nameAndType 23 26), (0, .methodref 34 35), (0, .class_ 36), (0, .nameAndType 37 38), (0, u "java/lang/Double"), (0, u "isFinite"), (0, u "(D)Z"), (12, u "(DDDD)V"), (7, u "columnToX"), (0, u "(D)D")] 23

def k2c0 : Code := { maxStack := 3, maxLocals := 9, code := prog_27_method_1_code, exceptionTable := #[], attributes := #[] }
def k2m0 : Method := { name := "<init>", desc := "(DDDD)V", sig := { parameters := [.double, .double, .double, .double], returnType := none }, accessFlags := 1, code := some k2c0 }
def k2c1 : Code := { maxStack := 6, maxLocals := 3, code := prog_27_method_6_code, exceptionTable := #[], attributes := #[] }
def k2m1 : Method := { name := "columnToX", desc := "(D)D", sig := { parameters := [.double], returnType := some .double }, accessFlags := 1, code := some k2c1 }
def k2c2 : Code := { maxStack := 5, maxLocals := 3, code := prog_27_method_10_code, exceptionTable := #[], attributes := #[] }
def k2m2 : Method := { name := "requireFinite", desc := "(Ljava/lang/String;D)V", sig := { parameters := [(.object "java/lang/String"), .double], returnType := none }, accessFlags := 10, code := some k2c2 }
def k2c3 : Code := { maxStack := 4, maxLocals := 3, code := prog_27_method_11_code, exceptionTable := #[], attributes := #[] }
def k2m3 : Method := { name := "requireNonZero", desc := "(Ljava/lang/String;D)V", sig := { parameters := [(.object "java/lang/String"), .double], returnType := none }, accessFlags := 10, code := some k2c3 }
/-- com/example/mapwright/mapwright/image/Placement -/
def k2 : Class := { plain "com/example/mapwright/mapwright/image/Placement" (some 0) with
  accessFlags := 49
  interfaces := #[]
  cf := some (fileOf pool2 10 #[] #[{ accessFlags := 1, nameIndex := 5, descriptorIndex := 51, attributes := #[] }, { accessFlags := 1, nameIndex := 59, descriptorIndex := 60, attributes := #[] }, { accessFlags := 10, nameIndex := 13, descriptorIndex := 14, attributes := #[] }, { accessFlags := 10, nameIndex := 21, descriptorIndex := 14, attributes := #[] }] 49 2 #[] #[{ accessFlags := 18, nameIndex := 8, descriptorIndex := 26, attributes := #[] }, { accessFlags := 18, nameIndex := 16, descriptorIndex := 26, attributes := #[] }, { accessFlags := 18, nameIndex := 18, descriptorIndex := 26, attributes := #[] }, { accessFlags := 18, nameIndex := 23, descriptorIndex := 26, attributes := #[] }])
  fields := #[{ name := "originX", type := .double, accessFlags := 18, slot := 0, constantValue := 0 }, { name := "originY", type := .double, accessFlags := 18, slot := 1, constantValue := 0 }, { name := "pixelWidth", type := .double, accessFlags := 18, slot := 2, constantValue := 0 }, { name := "pixelHeight", type := .double, accessFlags := 18, slot := 3, constantValue := 0 }]
  methods := #[k2m0, k2m1, k2m2, k2m3]
  instanceTypes := #[.double, .double, .double, .double]
  staticTypes := #[]
  resolved := Array.replicate 84 none
  statics := none }

def pool3 : Array CpInfo := pool [(1, .class_ 2), (0, u "java/io/Serializable"), (0, .class_ 4), (0, u "java/lang/Object")] 2

/-- java/io/Serializable -/
def k3 : Class := { plain "java/io/Serializable" (some 0) with
  accessFlags := 1537
  interfaces := #[]
  cf := some (fileOf pool3 1 #[] #[] 1537 3 #[] #[])
  fields := #[]
  methods := #[]
  instanceTypes := #[]
  staticTypes := #[]
  resolved := Array.replicate 7 none
  statics := none }

def pool4 : Array CpInfo := pool [(1, .class_ 2), (0, u "java/lang/Comparable"), (0, .class_ 4), (0, u "java/lang/Object")] 7

/-- java/lang/Comparable -/
def k4 : Class := { plain "java/lang/Comparable" (some 0) with
  accessFlags := 1537
  interfaces := #[]
  cf := some (fileOf pool4 1 #[] #[] 1537 3 #[] #[])
  fields := #[]
  methods := #[]
  instanceTypes := #[]
  staticTypes := #[]
  resolved := Array.replicate 12 none
  statics := none }

def pool5 : Array CpInfo := pool [(2, .class_ 4), (1, u "java/lang/CharSequence"), (42, .class_ 48), (0, u "java/lang/CharSequence$1CodePointIterator"), (10, .class_ 60), (0, u "java/lang/CharSequence$1CharIterator"), (5, .class_ 67), (0, u "java/lang/Object")] 63

/-- java/lang/CharSequence -/
def k5 : Class := { plain "java/lang/CharSequence" (some 0) with
  accessFlags := 1537
  interfaces := #[]
  cf := some (fileOf pool5 2 #[.nestMembers #[47, 59]] #[] 1537 66 #[] #[])
  fields := #[]
  methods := #[]
  instanceTypes := #[]
  staticTypes := #[]
  resolved := Array.replicate 131 none
  statics := none }

def pool6 : Array CpInfo := pool [(1, .class_ 2), (0, u "java/lang/constant/Constable"), (0, .class_ 4), (0, u "java/lang/Object")] 6

/-- java/lang/constant/Constable -/
def k6 : Class := { plain "java/lang/constant/Constable" (some 0) with
  accessFlags := 1537
  interfaces := #[]
  cf := some (fileOf pool6 1 #[] #[] 1537 3 #[] #[])
  fields := #[]
  methods := #[]
  instanceTypes := #[]
  staticTypes := #[]
  resolved := Array.replicate 11 none
  statics := none }

def pool7 : Array CpInfo := pool [(1, .class_ 2), (0, u "java/lang/constant/ConstantDesc"), (0, .class_ 4), (0, u "java/lang/Object")] 32

/-- java/lang/constant/ConstantDesc -/
def k7 : Class := { plain "java/lang/constant/ConstantDesc" (some 0) with
  accessFlags := 1537
  interfaces := #[]
  cf := some (fileOf pool7 1 #[] #[] 1537 3 #[] #[])
  fields := #[]
  methods := #[]
  instanceTypes := #[]
  staticTypes := #[]
  resolved := Array.replicate 37 none
  statics := none }

def pool8 : Array CpInfo := pool [(2, .class_ 4), (1, u "java/lang/Object"), (0, u "<init>"), (0, u "()V"), (3, .class_ 12), (1, u "java/lang/String"), (0, u "value"), (0, u "[B"), (2, u "coder"), (0, u "B"), (2, u "hash"), (0, u "I"), (2, u "hashIsZero"), (0, u "Z"), (13, u "COMPACT_STRINGS"), (534, .class_ 576), (0, u "java/lang/CharSequence"), (22, u "CASE_INSENSITIVE_ORDER"), (0, u "Ljava/util/Comparator;"), (500, u "serialPersistentFields"), (0, u "[Ljava/io/ObjectStreamField;"), (0, .class_ 1104), (0, u "java/lang/String$CaseInsensitiveComparator"), (1, .class_ 1107), (0, u "java/io/Serializable"), (0, .class_ 1109), (0, u "java/lang/Comparable"), (0, .class_ 1111), (0, u "java/lang/constant/Constable"), (0, .class_ 1113), (0, u "java/lang/constant/ConstantDesc"), (2, u "serialVersionUID"), (0, u "J"), (3, u "REPL"), (0, u "C"), (2, u "LATIN1"), (1, u "UTF16")] 323

def k8m0 : Method := { name := "<init>", desc := "()V", sig := { parameters := [], returnType := none }, accessFlags := 1, code := none }
/-- java/lang/String -/
def k8 : Class := { plain "java/lang/String" (some 0) with
  accessFlags := 49
  interfaces := #[3, 4, 5, 6, 7]
  cf := some (fileOf pool8 10 #[.nestMembers #[1103]] #[{ accessFlags := 1, nameIndex := 5, descriptorIndex := 6, attributes := #[] }] 49 2 #[1106, 1108, 575, 1110, 1112] #[{ accessFlags := 18, nameIndex := 13, descriptorIndex := 14, attributes := #[] }, { accessFlags := 18, nameIndex := 17, descriptorIndex := 18, attributes := #[] }, { accessFlags := 2, nameIndex := 21, descriptorIndex := 22, attributes := #[] }, { accessFlags := 2, nameIndex := 25, descriptorIndex := 26, attributes := #[] }, { accessFlags := 26, nameIndex := 1116, descriptorIndex := 1117, attributes := #[] }, { accessFlags := 24, nameIndex := 40, descriptorIndex := 26, attributes := #[] }, { accessFlags := 26, nameIndex := 1101, descriptorIndex := 1102, attributes := #[] }, { accessFlags := 26, nameIndex := 1121, descriptorIndex := 1122, attributes := #[] }, { accessFlags := 25, nameIndex := 599, descriptorIndex := 600, attributes := #[] }, { accessFlags := 24, nameIndex := 1125, descriptorIndex := 18, attributes := #[] }, { accessFlags := 24, nameIndex := 1127, descriptorIndex := 18, attributes := #[] }])
  fields := #[{ name := "value", type := (.array .byte), accessFlags := 18, slot := 0, constantValue := 0 }, { name := "coder", type := .byte, accessFlags := 18, slot := 1, constantValue := 0 }, { name := "hash", type := .int, accessFlags := 2, slot := 2, constantValue := 0 }, { name := "hashIsZero", type := .boolean, accessFlags := 2, slot := 3, constantValue := 0 }, { name := "serialVersionUID", type := .long, accessFlags := 26, slot := 0, constantValue := 0 }, { name := "COMPACT_STRINGS", type := .boolean, accessFlags := 24, slot := 1, constantValue := 0 }, { name := "serialPersistentFields", type := (.array (.object "java/io/ObjectStreamField")), accessFlags := 26, slot := 2, constantValue := 0 }, { name := "REPL", type := .char, accessFlags := 26, slot := 3, constantValue := 0 }, { name := "CASE_INSENSITIVE_ORDER", type := (.object "java/util/Comparator"), accessFlags := 25, slot := 4, constantValue := 0 }, { name := "LATIN1", type := .byte, accessFlags := 24, slot := 5, constantValue := 0 }, { name := "UTF16", type := .byte, accessFlags := 24, slot := 6, constantValue := 0 }]
  methods := #[k8m0]
  instanceTypes := #[(.array .byte), .byte, .int, .boolean]
  staticTypes := #[.long, .boolean, (.array (.object "java/io/ObjectStreamField")), .char, (.object "java/util/Comparator"), .byte, .byte]
  resolved := Array.replicate 1451 none
  statics := none }

def pool9 : Array CpInfo := pool [(2, .class_ 4), (1, u "java/lang/Object"), (0, u "<init>"), (0, u "()V"), (1, .class_ 10), (1, u "java/lang/Number"), (2, .class_ 14), (0, u "java/io/Serializable"), (0, u "serialVersionUID"), (0, u "J")] 20

def k9m0 : Method := { name := "<init>", desc := "()V", sig := { parameters := [], returnType := none }, accessFlags := 1, code := none }
/-- java/lang/Number -/
def k9 : Class := { plain "java/lang/Number" (some 0) with
  accessFlags := 1057
  interfaces := #[3]
  cf := some (fileOf pool9 8 #[] #[{ accessFlags := 1, nameIndex := 5, descriptorIndex := 6, attributes := #[] }] 1057 2 #[13] #[{ accessFlags := 26, nameIndex := 15, descriptorIndex := 16, attributes := #[] }])
  fields := #[{ name := "serialVersionUID", type := .long, accessFlags := 26, slot := 0, constantValue := 0 }]
  methods := #[k9m0]
  instanceTypes := #[]
  staticTypes := #[.long]
  resolved := Array.replicate 37 none
  statics := none }

def pool10 : Array CpInfo := pool [(1, .class_ 2), (0, u "java/lang/Double"), (10, u "isFinite"), (0, u "(D)Z"), (8, .class_ 25), (1, u "java/lang/Math"), (12, .methodref 23 39), (0, .nameAndType 40 41), (0, u "abs"), (0, u "(D)D"), (69, .double 9218868437227405311), (2, .class_ 116), (1, u "java/lang/Number"), (3, u "value"), (0, u "D"), (51, u "TYPE"), (0, u "Ljava/lang/Class;"), (0, .class_ 176), (0, u "java/lang/Comparable"), (0, .class_ 178), (0, u "java/lang/constant/Constable"), (0, .class_ 180), (0, u "java/lang/constant/ConstantDesc"), (0, u "POSITIVE_INFINITY"), (3, u "NEGATIVE_INFINITY"), (2, u "NaN"), (2, u "MAX_VALUE"), (0, u "MIN_NORMAL"), (0, u "MIN_VALUE"), (2, u "SIZE"), (0, u "I"), (1, u "PRECISION"), (1, u "MAX_EXPONENT"), (1, u "MIN_EXPONENT"), (1, u "BYTES"), (3, u "serialVersionUID"), (0, u "J")] 79

def k10c0 : Code := { maxStack := 4, maxLocals := 2, code := jdk_117_method_8_code, exceptionTable := #[], attributes := #[] }
def k10m0 : Method := { name := "isFinite", desc := "(D)Z", sig := { parameters := [.double], returnType := some .boolean }, accessFlags := 9, code := some k10c0 }
/-- java/lang/Double -/
def k10 : Class := { plain "java/lang/Double" (some 9) with
  accessFlags := 49
  interfaces := #[4, 6, 7]
  cf := some (fileOf pool10 1 #[] #[{ accessFlags := 9, nameIndex := 13, descriptorIndex := 14, attributes := #[] }] 49 114 #[175, 177, 179] #[{ accessFlags := 25, nameIndex := 181, descriptorIndex := 121, attributes := #[] }, { accessFlags := 25, nameIndex := 185, descriptorIndex := 121, attributes := #[] }, { accessFlags := 25, nameIndex := 188, descriptorIndex := 121, attributes := #[] }, { accessFlags := 25, nameIndex := 191, descriptorIndex := 121, attributes := #[] }, { accessFlags := 25, nameIndex := 192, descriptorIndex := 121, attributes := #[] }, { accessFlags := 25, nameIndex := 193, descriptorIndex := 121, attributes := #[] }, { accessFlags := 25, nameIndex := 196, descriptorIndex := 197, attributes := #[] }, { accessFlags := 25, nameIndex := 199, descriptorIndex := 197, attributes := #[] }, { accessFlags := 25, nameIndex := 201, descriptorIndex := 197, attributes := #[] }, { accessFlags := 25, nameIndex := 203, descriptorIndex := 197, attributes := #[] }, { accessFlags := 25, nameIndex := 205, descriptorIndex := 197, attributes := #[] }, { accessFlags := 25, nameIndex := 173, descriptorIndex := 174, attributes := #[] }, { accessFlags := 18, nameIndex := 120, descriptorIndex := 121, attributes := #[] }, { accessFlags := 26, nameIndex := 209, descriptorIndex := 210, attributes := #[] }])
  fields := #[{ name := "POSITIVE_INFINITY", type := .double, accessFlags := 25, slot := 0, constantValue := 0 }, { name := "NEGATIVE_INFINITY", type := .double, accessFlags := 25, slot := 1, constantValue := 0 }, { name := "NaN", type := .double, accessFlags := 25, slot := 2, constantValue := 0 }, { name := "MAX_VALUE", type := .double, accessFlags := 25, slot := 3, constantValue := 0 }, { name := "MIN_NORMAL", type := .double, accessFlags := 25, slot := 4, constantValue := 0 }, { name := "MIN_VALUE", type := .double, accessFlags := 25, slot := 5, constantValue := 0 }, { name := "SIZE", type := .int, accessFlags := 25, slot := 6, constantValue := 0 }, { name := "PRECISION", type := .int, accessFlags := 25, slot := 7, constantValue := 0 }, { name := "MAX_EXPONENT", type := .int, accessFlags := 25, slot := 8, constantValue := 0 }, { name := "MIN_EXPONENT", type := .int, accessFlags := 25, slot := 9, constantValue := 0 }, { name := "BYTES", type := .int, accessFlags := 25, slot := 10, constantValue := 0 }, { name := "TYPE", type := (.object "java/lang/Class"), accessFlags := 25, slot := 11, constantValue := 0 }, { name := "value", type := .double, accessFlags := 18, slot := 0, constantValue := 0 }, { name := "serialVersionUID", type := .long, accessFlags := 26, slot := 12, constantValue := 0 }]
  methods := #[k10m0]
  instanceTypes := #[.double]
  staticTypes := #[.double, .double, .double, .double, .double, .double, .int, .int, .int, .int, .int, (.object "java/lang/Class"), .long]
  resolved := Array.replicate 290 none
  statics := none }

def pool11 : Array CpInfo := pool [(1, .class_ 2), (0, u "java/lang/Math"), (1, .class_ 6), (1, u "java/lang/Object"), (0, u "<init>"), (0, u "()V"), (5, u "(D)D"), (83, .class_ 100), (1, u "java/lang/Math$RandomNumberGeneratorHolder"), (23, u "abs"), (47, u "negativeZeroFloatBits"), (0, u "J"), (2, u "negativeZeroDoubleBits"), (68, u "$assertionsDisabled"), (0, u "Z"), (91, u "twoToTheDoubleScaleDown"), (0, u "D"), (4, u "twoToTheDoubleScaleUp"), (9, u "E"), (3, u "PI"), (2, u "TAU"), (2, u "DEGREES_TO_RADIANS"), (0, u "RADIANS_TO_DEGREES")] 94

def k11m0 : Method := { name := "<init>", desc := "()V", sig := { parameters := [], returnType := none }, accessFlags := 2, code := none }
def k11c1 : Code := { maxStack := 4, maxLocals := 2, code := jdk_29_method_64_code, exceptionTable := #[], attributes := #[] }
def k11m1 : Method := { name := "abs", desc := "(D)D", sig := { parameters := [.double], returnType := some .double }, accessFlags := 9, code := some k11c1 }
/-- java/lang/Math -/
def k11 : Class := { plain "java/lang/Math" (some 0) with
  accessFlags := 49
  interfaces := #[]
  cf := some (fileOf pool11 1 #[.nestMembers #[98]] #[{ accessFlags := 2, nameIndex := 7, descriptorIndex := 8, attributes := #[] }, { accessFlags := 9, nameIndex := 124, descriptorIndex := 14, attributes := #[] }] 49 4 #[] #[{ accessFlags := 25, nameIndex := 354, descriptorIndex := 339, attributes := #[] }, { accessFlags := 25, nameIndex := 358, descriptorIndex := 339, attributes := #[] }, { accessFlags := 25, nameIndex := 361, descriptorIndex := 339, attributes := #[] }, { accessFlags := 26, nameIndex := 364, descriptorIndex := 339, attributes := #[] }, { accessFlags := 26, nameIndex := 365, descriptorIndex := 339, attributes := #[] }, { accessFlags := 26, nameIndex := 172, descriptorIndex := 173, attributes := #[] }, { accessFlags := 26, nameIndex := 176, descriptorIndex := 173, attributes := #[] }, { accessFlags := 8, nameIndex := 344, descriptorIndex := 339, attributes := #[] }, { accessFlags := 8, nameIndex := 338, descriptorIndex := 339, attributes := #[] }, { accessFlags := 4120, nameIndex := 245, descriptorIndex := 246, attributes := #[] }])
  fields := #[{ name := "E", type := .double, accessFlags := 25, slot := 0, constantValue := 0 }, { name := "PI", type := .double, accessFlags := 25, slot := 1, constantValue := 0 }, { name := "TAU", type := .double, accessFlags := 25, slot := 2, constantValue := 0 }, { name := "DEGREES_TO_RADIANS", type := .double, accessFlags := 26, slot := 3, constantValue := 0 }, { name := "RADIANS_TO_DEGREES", type := .double, accessFlags := 26, slot := 4, constantValue := 0 }, { name := "negativeZeroFloatBits", type := .long, accessFlags := 26, slot := 5, constantValue := 0 }, { name := "negativeZeroDoubleBits", type := .long, accessFlags := 26, slot := 6, constantValue := 0 }, { name := "twoToTheDoubleScaleUp", type := .double, accessFlags := 8, slot := 7, constantValue := 0 }, { name := "twoToTheDoubleScaleDown", type := .double, accessFlags := 8, slot := 8, constantValue := 0 }, { name := "$assertionsDisabled", type := .boolean, accessFlags := 4120, slot := 9, constantValue := 0 }]
  methods := #[k11m0, k11m1]
  instanceTypes := #[]
  staticTypes := #[.double, .double, .double, .double, .double, .long, .long, .double, .double, .boolean]
  resolved := Array.replicate 460 none
  statics := none }

def pool12 : Array CpInfo := pool [(1, u "java/lang/Cloneable"), (0, .class_ 1), (0, u "java/lang/Object"), (0, .class_ 3)] 3

/-- java/lang/Cloneable -/
def k12 : Class := { plain "java/lang/Cloneable" (some 0) with
  accessFlags := 1537
  interfaces := #[]
  cf := some (fileOf pool12 2 #[] #[] 1537 4 #[] #[])
  fields := #[]
  methods := #[]
  instanceTypes := #[]
  staticTypes := #[]
  resolved := Array.replicate 8 none
  statics := none }

/-- the primitive byte -/
def k13 : Class := { plain "byte" none with kind := .primitive 'B', accessFlags := 0x411 }
/-- [B -/
def k14 : Class := { plain "[B" (some 0) with kind := .array 13 .byte, interfaces := #[12, 3], accessFlags := 1041 }

/-- the primitive int -/
def k15 : Class := { plain "int" none with kind := .primitive 'I', accessFlags := 0x411 }
/-- [I -/
def k16 : Class := { plain "[I" (some 0) with kind := .array 15 .int, interfaces := #[12, 3], accessFlags := 1041 }

def heap : Heap := #[]
def classes : Array Class := #[k0, k1, k2, k3, k4, k5, k6, k7, k8, k9, k10, k11, k12, k13, k14, k15, k16]
def interned : List (Array UInt16 × Addr) := []
def slotsUsed : Nat := 0
def theMethod : MethodId := ⟨1, 1⟩
def args0 : Array Value := #[.int 5, .int 3, .int 1, .int 2, .int 7]
def aboutOver (below : List Frame) : State where
  vm := { classes := classes, interned := interned.toArray }
  heap := heap
  slotsUsed := slotsUsed
  threads := #[{ frames := .invoking theMethod args0 :: below }]
def below0 : List Frame := [.native { method := ⟨0, 0⟩, args := #[] }]
def about1 : State := aboutOver below0
def p0 : Program := .bare "" "" ""
def e0 : Env := launch0.env 0 0 0
theorem w_frames : about1.frames = Frame.invoking theMethod args0 :: below0 := rfl
set_option maxRecDepth 65536 in
theorem w_args : argsFit about1.vm theMethod args0 = true := by decide +kernel
set_option maxRecDepth 65536 in
theorem w_heap : heapFits about1 = true := by decide +kernel
set_option maxRecDepth 65536 in
theorem w_runnable : about1.curStatus? = some .runnable := by decide +kernel
set_option maxRecDepth 65536 in
theorem w_alone : about1.alone = true := by decide +kernel
set_option maxRecDepth 65536 in
theorem w_named : about1.methodNamed? x = some theMethod := by decide +kernel
set_option maxRecDepth 65536 in
theorem w_hears : about1.hears theMethod below0 = true := by decide +kernel
set_option maxRecDepth 65536 in
theorem w_ripe : about1.ripe theMethod args0 below0 = true := by decide +kernel
theorem w_running : about1.status = .running := rfl
set_option maxRecDepth 65536 in
theorem w_room : about1.hasRoom e0.platform room_1 = true :=
  launch0.hasRoom_least _ room_1 (by decide +kernel) (by decide +kernel) (by decide +kernel) (by decide +kernel) (by decide +kernel) (by decide +kernel)
theorem allAtoms_all (ts : List Jvm.Cond) (a : Array Jvm.Value) (st : Jvm.State) : (allAtoms ts).before a st = ts.all (fun c => c.before a st) := by
  induction ts with
  | nil => rfl
  | cons c t ih =>
    show (Jvm.Cond.and c (allAtoms t)).before a st = _
    rw [Jvm.Cond.before_and, ih, List.all_cons]
def words1 : List Jvm.Cond := Jvm.Cond.code x code maxLocals ret :: tables_1
/-- a 'code' word, met by the world's own term for the bytes: nothing is compared byte by byte -/
theorem code_word {y : MethodName} {bytes : ByteArray} {mx : Nat} {rt : Option FieldType} {a : Array Value} {s : State} {m : MethodId} {meth : Method} {c : Code} (h1 : s.methodNamed? y = some m) (h2 : s.vm.method? m = some meth) (h3 : meth.code = some c) (h4 : c.code = bytes)
    (h5 : (c.maxLocals == mx && c.exceptionTable.isEmpty && decide (c.maxStack ≤ mostOperands) && decide (meth.sig.returnType = rt) && !meth.locks && decide (parseMethodDescriptor y.desc = some meth.sig)) = true) : (Jvm.Cond.code y bytes mx rt).before a s = true := by
  simp only [Bool.and_eq_true, beq_iff_eq, Bool.not_eq_true', decide_eq_true_eq] at h5
  obtain ⟨⟨⟨⟨⟨g1, g2⟩, g3⟩, g4⟩, g5⟩, g6⟩ := h5
  simp [Cond.before, Cond.holds, Cond.value, h1, h2, h3, h4, g1, g2, g3, g4, g5, g6]
def isCode : Jvm.Cond → Bool
  | .code _ _ _ _ => true
  | _ => false
theorem all_split {L : List Jvm.Cond} {P : Jvm.Cond → Bool} (h1 : L.all (fun c => isCode c || P c) = true) (h2 : ∀ c ∈ L.filter isCode, P c = true) : L.all P = true := by
  refine List.all_eq_true.mpr fun c hc => ?_
  have h := List.all_eq_true.mp h1 c hc
  rcases Bool.eq_false_or_eq_true (isCode c) with hi | hi
  · exact h2 c (List.mem_filter.mpr ⟨hc, hi⟩)
  · simpa [hi] using h
set_option maxRecDepth 65536 in
theorem w_c0 : (Jvm.Cond.code x code maxLocals ret).before args0 about1 = true := code_word (m := ⟨1, 1⟩) (meth := k1m1) (c := k1c1) (by decide +kernel) rfl rfl rfl (by decide +kernel)
set_option maxRecDepth 65536 in
theorem w_c1 : (Jvm.Cond.code ({ cls := "com/example/mapwright/mapwright/image/Placement", name := "<init>", desc := "(DDDD)V" } : Jvm.MethodName) prog_27_method_1_code (9 : Nat) (Option.none : Option Jvm.ClassFile.FieldType)).before args0 about1 = true := code_word (m := ⟨2, 0⟩) (meth := k2m0) (c := k2c0) (by decide +kernel) rfl rfl rfl (by decide +kernel)
set_option maxRecDepth 65536 in
theorem w_c2 : (Jvm.Cond.code ({ cls := "java/lang/Object", name := "<init>", desc := "()V" } : Jvm.MethodName) object_method_1_code (1 : Nat) (Option.none : Option Jvm.ClassFile.FieldType)).before args0 about1 = true := code_word (m := ⟨0, 0⟩) (meth := k0m0) (c := k0c0) (by decide +kernel) rfl rfl rfl (by decide +kernel)
set_option maxRecDepth 65536 in
theorem w_c3 : (Jvm.Cond.code ({ cls := "com/example/mapwright/mapwright/image/Placement", name := "requireFinite", desc := "(Ljava/lang/String;D)V" } : Jvm.MethodName) prog_27_method_10_code (3 : Nat) (Option.none : Option Jvm.ClassFile.FieldType)).before args0 about1 = true := code_word (m := ⟨2, 2⟩) (meth := k2m2) (c := k2c2) (by decide +kernel) rfl rfl rfl (by decide +kernel)
set_option maxRecDepth 65536 in
theorem w_c4 : (Jvm.Cond.code ({ cls := "java/lang/Double", name := "isFinite", desc := "(D)Z" } : Jvm.MethodName) jdk_117_method_8_code (2 : Nat) (Option.some Jvm.ClassFile.FieldType.boolean)).before args0 about1 = true := code_word (m := ⟨10, 0⟩) (meth := k10m0) (c := k10c0) (by decide +kernel) rfl rfl rfl (by decide +kernel)
set_option maxRecDepth 65536 in
theorem w_c5 : (Jvm.Cond.code ({ cls := "java/lang/Math", name := "abs", desc := "(D)D" } : Jvm.MethodName) jdk_29_method_64_code (2 : Nat) (Option.some Jvm.ClassFile.FieldType.double)).before args0 about1 = true := code_word (m := ⟨11, 1⟩) (meth := k11m1) (c := k11c1) (by decide +kernel) rfl rfl rfl (by decide +kernel)
set_option maxRecDepth 65536 in
theorem w_c6 : (Jvm.Cond.code ({ cls := "com/example/mapwright/mapwright/image/Placement", name := "requireNonZero", desc := "(Ljava/lang/String;D)V" } : Jvm.MethodName) prog_27_method_11_code (3 : Nat) (Option.none : Option Jvm.ClassFile.FieldType)).before args0 about1 = true := code_word (m := ⟨2, 3⟩) (meth := k2m3) (c := k2c3) (by decide +kernel) rfl rfl rfl (by decide +kernel)
set_option maxRecDepth 65536 in
theorem w_c7 : (Jvm.Cond.code ({ cls := "com/example/mapwright/mapwright/image/Placement", name := "columnToX", desc := "(D)D" } : Jvm.MethodName) prog_27_method_6_code (3 : Nat) (Option.some Jvm.ClassFile.FieldType.double)).before args0 about1 = true := code_word (m := ⟨2, 1⟩) (meth := k2m1) (c := k2c1) (by decide +kernel) rfl rfl rfl (by decide +kernel)
def codes1 : List Jvm.Cond := [Jvm.Cond.code x code maxLocals ret, Jvm.Cond.code ({ cls := "com/example/mapwright/mapwright/image/Placement", name := "<init>", desc := "(DDDD)V" } : Jvm.MethodName) prog_27_method_1_code (9 : Nat) (Option.none : Option Jvm.ClassFile.FieldType), Jvm.Cond.code ({ cls := "java/lang/Object", name := "<init>", desc := "()V" } : Jvm.MethodName) object_method_1_code (1 : Nat) (Option.none : Option Jvm.ClassFile.FieldType), Jvm.Cond.code ({ cls := "com/example/mapwright/mapwright/image/Placement", name := "requireFinite", desc := "(Ljava/lang/String;D)V" } : Jvm.MethodName) prog_27_method_10_code (3 : Nat) (Option.none : Option Jvm.ClassFile.FieldType), Jvm.Cond.code ({ cls := "java/lang/Double", name := "isFinite", desc := "(D)Z" } : Jvm.MethodName) jdk_117_method_8_code (2 : Nat) (Option.some Jvm.ClassFile.FieldType.boolean), Jvm.Cond.code ({ cls := "java/lang/Math", name := "abs", desc := "(D)D" } : Jvm.MethodName) jdk_29_method_64_code (2 : Nat) (Option.some Jvm.ClassFile.FieldType.double), Jvm.Cond.code ({ cls := "com/example/mapwright/mapwright/image/Placement", name := "requireNonZero", desc := "(Ljava/lang/String;D)V" } : Jvm.MethodName) prog_27_method_11_code (3 : Nat) (Option.none : Option Jvm.ClassFile.FieldType), Jvm.Cond.code ({ cls := "com/example/mapwright/mapwright/image/Placement", name := "columnToX", desc := "(D)D" } : Jvm.MethodName) prog_27_method_6_code (3 : Nat) (Option.some Jvm.ClassFile.FieldType.double)]
set_option maxRecDepth 65536 in
theorem codes_eq : words1.filter isCode = codes1 := rfl
theorem w_codes : ∀ c ∈ words1.filter isCode, c.before args0 about1 = true := by
  rw [codes_eq]
  intro c hc
  simp only [codes1, List.mem_cons, List.not_mem_nil, or_false] at hc
  rcases hc with rfl | rfl | rfl | rfl | rfl | rfl | rfl | rfl
  · exact w_c0
  · exact w_c1
  · exact w_c2
  · exact w_c3
  · exact w_c4
  · exact w_c5
  · exact w_c6
  · exact w_c7
set_option maxRecDepth 65536 in
theorem w_t1 : (words1.take 24).all (fun c => isCode c || c.before args0 about1) = true := by decide +kernel
set_option maxRecDepth 65536 in
theorem w_t2 : ((words1.drop 24).take 24).all (fun c => isCode c || c.before args0 about1) = true := by decide +kernel
set_option maxRecDepth 65536 in
theorem w_t3 : ((words1.drop 24).drop 24).all (fun c => isCode c || c.before args0 about1) = true := by decide +kernel
theorem w_tables : (allAtoms (Jvm.Cond.code x code maxLocals ret :: tables_1)).before args0 about1 = true := by
  rw [allAtoms_all]
  show words1.all (fun c => c.before args0 about1) = true
  refine all_split ?_ w_codes
  rw [← List.take_append_drop 24 words1, List.all_append, w_t1, ← List.take_append_drop 24 (words1.drop 24), List.all_append, w_t2, w_t3]
  rfl
set_option maxRecDepth 65536 in
theorem w_case : (Jvm.Cond.and given_1 narrow_1).before args0 about1 = true := by decide +kernel
theorem w_applies : (headSpec (Jvm.Cond.code x code maxLocals ret :: tables_1) room_1).applies x e0.platform about1 = true :=
  (Spec.applies_iff w_frames).mpr ⟨w_running, w_runnable, w_alone, w_named, w_hears, w_ripe, w_room, w_tables⟩
theorem atStart : AtStart classFile x code maxLocals ret World_1 tables_1 room_1 Calls_1 rest_1 Pre_1 launch0 p0 e0 about1 theMethod args0 below0 :=
  ⟨lists_1, trivial, launch0.admits_env _ _ _, launch0.least_env, fairChoices_fair.cas, fairChoices_fair.clock, w_frames, w_args, w_heap, w_applies, trivial, trivial, w_case⟩
end start1
theorem witness_1 : WitnessClaimed_1 := ⟨start1.p0, start1.e0, start1.about1, start1.theMethod, start1.args0, start1.below0, start1.atStart⟩
end Jvm.Pilot.@@N@@
