import JvmDerived
import JvmDerived.Pilot.@@N@@Statement
import JvmDerived.Pilot.@@N@@Code
set_option linter.unusedVariables false
set_option linter.unusedSimpArgs false
namespace Jvm.Own
open Sem ClassFile Op Lib Jvm.Stand Jvm.Free Jvm.LawKit Jvm.RoadKit
/-- from the frame f over T the run ends in a return that Q speaks of -/
def Run (p : Program) (e : Env) (s : State) (below : List Frame) (Q : Option Value → Heap → List Loc → Prop) (cm sm : Nat) (T : State) (f : JFrame) : Prop :=
  ∃ s₂ o, Steps p.tables e below (T.setTop f) s₂ ∧ s₂.status = .running ∧ Ended s₂ below o ∧ ∃ v L, o = .returned v ∧ Q v s₂.heap L ∧ FrameEnd s o s₂ L cm sm
section Own
variable {p : Program} {l : Launch} {e : Env} {R : Room} {s : State} {m : MethodId} {args : Array Value} {below : List Frame} {meth : Method} {c : Code} {T : State} {locs : List Loc} {cells slots : Nat} {Q : Option Value → Heap → List Loc → Prop} {cm sm : Nat}
theorem go {T' : State} {f f' : JFrame} (st : ∀ target, Steps p.tables e below (T'.setTop f') target → Steps p.tables e below (T.setTop f) target) (k : Run p e s below Q cm sm T' f') : Run p e s below Q cm sm T f := by
  obtain ⟨s₂, o, h, r⟩ := k
  exact ⟨s₂, o, st _ h, r⟩
theorem retZ (X : Stand p l e R s m args below meth c T locs cells slots) (hx : p.tables.exec = Jvm.exec) {pc : Nat} {Ls : Array Slot} {z : Int32} {t : FieldType} {rest : List Value} (hret : meth.sig.returnType = some t) (ht : t = .boolean ∨ t = .byte ∨ t = .char ∨ t = .short)
    (hd : decode c.code pc = .ok (.ireturn, 1)) (hlk : meth.locks = false) (hc : cells ≤ cm) (hs : slots ≤ sm) (hq : Q (some (.int (nar t z))) T.heap locs) : Run p e s below Q cm sm T (mkF m pc Ls (.int z :: rest)) := by
  obtain ⟨fs, hr, hrun, hended, hW, hsame⟩ := X.leave (v := some (.int (nar t z))) (fun h => by rw [hret] at h; cases h) hlk
  exact ⟨_, _, retN X hx hret ht hd hr, hrun, hended, _, _, rfl, hq, ⟨_, rfl⟩, hW, hsame.mono hc hs⟩
theorem retW (X : Stand p l e R s m args below meth c T locs cells slots) (hx : p.tables.exec = Jvm.exec) {pc : Nat} {Ls : Array Slot} {w : Value} {t : FieldType} {i : Instr} {rest : List Value} (hret : meth.sig.returnType = some t) (hn : narrow t w = w)
    (hi : (i = .ireturn ∧ (t = .int ∨ t = .boolean ∨ t = .byte ∨ t = .char ∨ t = .short) ∧ ∃ z, w = .int z) ∨ (i = .lreturn ∧ t = .long ∧ ∃ z, w = .long z) ∨ (i = .dreturn ∧ t = .double ∧ ∃ z, w = .double z) ∨ (i = .freturn ∧ t = .float ∧ ∃ z, w = .float z) ∨ (i = .areturn ∧ t.isReference = true ∧ w.isRef = true))
    (hd : decode c.code pc = .ok (i, 1)) (hlk : meth.locks = false) (hc : cells ≤ cm) (hs : slots ≤ sm) (hq : Q (some w) T.heap locs) : Run p e s below Q cm sm T (mkF m pc Ls (w :: rest)) := by
  obtain ⟨fs, hr, hrun, hended, hW, hsame⟩ := X.leave (v := some w) (fun h => by rw [hret] at h; cases h) hlk
  exact ⟨_, _, retOut X hx hret hn hi hd hr, hrun, hended, _, _, rfl, hq, ⟨_, rfl⟩, hW, hsame.mono hc hs⟩
theorem retV (X : Stand p l e R s m args below meth c T locs cells slots) (hx : p.tables.exec = Jvm.exec) {pc : Nat} {Ls : Array Slot} (hret : meth.sig.returnType = none)
    (hd : decode c.code pc = .ok (.return_, 1)) (hlk : meth.locks = false) (hc : cells ≤ cm) (hs : slots ≤ sm) (hq : Q none T.heap locs) : Run p e s below Q cm sm T (mkF m pc Ls []) := by
  obtain ⟨fs, hr, hrun, hended, hW, hsame⟩ := X.leave (v := none) (fun _ => rfl) hlk
  exact ⟨_, _, X.returnOut hx hret hd hr, hrun, hended, _, _, rfl, hq, ⟨_, rfl⟩, hW, hsame.mono hc hs⟩
/-- the same, where Strings may have been interned -/
def RunW (p : Program) (e : Env) (s : State) (below : List Frame) (Q : Option Value → Heap → List Loc → Prop) (cm sm : Nat) (T : State) (f : JFrame) : Prop :=
  ∃ s₂ o, Steps p.tables e below (T.setTop f) s₂ ∧ s₂.status = .running ∧ Ended s₂ below o ∧ ∃ v L, o = .returned v ∧ Q v s₂.heap L ∧ ReturnedEndW s o s₂ L cm sm
theorem goW {T' : State} {f f' : JFrame} (st : ∀ target, Steps p.tables e below (T'.setTop f') target → Steps p.tables e below (T.setTop f) target) (k : RunW p e s below Q cm sm T' f') : RunW p e s below Q cm sm T f := by
  obtain ⟨s₂, o, h, r⟩ := k
  exact ⟨s₂, o, st _ h, r⟩
theorem retZW {vm₁ : Vm} (X : Stand p l e R (s.setVm vm₁) m args below meth c T locs cells slots) {n : Nat} (hS : s.Since vm₁ n) (hn : n ≤ T.heap.size) (hx : p.tables.exec = Jvm.exec) {pc : Nat} {Ls : Array Slot} {z : Int32} {t : FieldType} {rest : List Value} (hret : meth.sig.returnType = some t) (ht : t = .boolean ∨ t = .byte ∨ t = .char ∨ t = .short)
    (hd : decode c.code pc = .ok (.ireturn, 1)) (hlk : meth.locks = false) (hc : cells ≤ cm) (hs : slots ≤ sm) (hq : Q (some (.int (nar t z))) T.heap locs) : RunW p e s below Q cm sm T (mkF m pc Ls (.int z :: rest)) := by
  obtain ⟨fs, hr, hrun, hended, h1, h2, h3, h4⟩ := X.leaveW hS hn (v := some (.int (nar t z))) (fun h => by rw [hret] at h; cases h) hlk
  exact ⟨_, _, retN X hx hret ht hd hr, hrun, hended, _, _, rfl, hq, h1, h2, h3, h4.mono hc hs⟩
theorem retWW {vm₁ : Vm} (X : Stand p l e R (s.setVm vm₁) m args below meth c T locs cells slots) {n : Nat} (hS : s.Since vm₁ n) (hn : n ≤ T.heap.size) (hx : p.tables.exec = Jvm.exec) {pc : Nat} {Ls : Array Slot} {w : Value} {t : FieldType} {i : Instr} {rest : List Value} (hret : meth.sig.returnType = some t) (hn' : narrow t w = w)
    (hi : (i = .ireturn ∧ (t = .int ∨ t = .boolean ∨ t = .byte ∨ t = .char ∨ t = .short) ∧ ∃ z, w = .int z) ∨ (i = .lreturn ∧ t = .long ∧ ∃ z, w = .long z) ∨ (i = .dreturn ∧ t = .double ∧ ∃ z, w = .double z) ∨ (i = .freturn ∧ t = .float ∧ ∃ z, w = .float z) ∨ (i = .areturn ∧ t.isReference = true ∧ w.isRef = true))
    (hd : decode c.code pc = .ok (i, 1)) (hlk : meth.locks = false) (hc : cells ≤ cm) (hs : slots ≤ sm) (hq : Q (some w) T.heap locs) : RunW p e s below Q cm sm T (mkF m pc Ls (w :: rest)) := by
  obtain ⟨fs, hr, hrun, hended, h1, h2, h3, h4⟩ := X.leaveW hS hn (v := some w) (fun h => by rw [hret] at h; cases h) hlk
  exact ⟨_, _, retOut X hx hret hn' hi hd hr, hrun, hended, _, _, rfl, hq, h1, h2, h3, h4.mono hc hs⟩
end Own
section Heap
variable {Z : State} {h h' h0 : Heap} {a b : Addr} {ty : FieldType} {vs : List Value} {ws ws' : List Addr} {v : Value} {k : ClassId} {z j : Int32}
/-- an array and all that it holds -/
def Ary (Z : State) (h : Heap) (a : Addr) (ty : FieldType) (vs : List Value) : Prop := ∃ c : Cell, Arr Z h a c ty ∧ c.slots.toList = vs ∧ vs.length < 2147483648 ∧ ∀ v ∈ vs, fits ty v = true
theorem Ary.lt (A : Ary Z h a ty vs) : a < h.size := by obtain ⟨c, A, -⟩ := A; exact A.lt
theorem Ary.ext (A : Ary Z h a ty vs) (E : Ext h h') : Ary Z h' a ty vs := by obtain ⟨c, A, r⟩ := A; exact ⟨c, A.ext E, r⟩
theorem Ary.keep (A : Ary Z h a ty vs) (K : Keep h h' ws) (q : a ∉ ws) : Ary Z h' a ty vs := by obtain ⟨c, A, r⟩ := A; exact ⟨c, ⟨K.2.1 a c A.1 q, A.2⟩, r⟩
theorem Ary.set (A : Ary Z h a ty vs) {i : Nat} (W : Wr h h' a i v) (hv : fits ty v = true) : Ary Z h' a ty (vs.set i v) := by
  obtain ⟨c, A, e, l, f⟩ := A
  refine ⟨_, A.same W, by simp [Cell.setSlot, e], by simpa using l, fun w hw => ?_⟩
  rcases List.mem_or_eq_of_mem_set hw with q | rfl
  · exact f w q
  · exact hv
theorem Ary.ld (A : Ary Z h a ty vs) (hj : ¬ j < 0) (hv : vs[j.toNatClampNeg]? = some v) : ∃ c : Cell, Arr Z h a c ty ∧ ¬ (j < 0 ∨ c.slots.size ≤ j.toNatClampNeg) ∧ c.slots[j.toNatClampNeg]? = some v := by
  obtain ⟨c, A, e, l, f⟩ := A
  have q : c.slots[j.toNatClampNeg]? = some v := by rw [← Array.getElem?_toList, e]; exact hv
  exact ⟨c, A, fun r => r.elim hj fun y => absurd (Array.getElem?_eq_some_iff.mp q).1 (Nat.not_lt.mpr y), q⟩
theorem Ary.st (A : Ary Z h a ty vs) (hj : ¬ j < 0) (hl : j.toNatClampNeg < vs.length) : ∃ c : Cell, Arr Z h a c ty ∧ ¬ (j < 0 ∨ c.slots.size ≤ j.toNatClampNeg) := by
  obtain ⟨c, A, e, l, f⟩ := A
  refine ⟨c, A, fun r => r.elim hj fun y => ?_⟩
  rw [← e, Array.length_toList] at hl
  omega
theorem Ary.len (A : Ary Z h a ty vs) : ∃ c : Cell, Arr Z h a c ty ∧ c.slots.size.toInt32 = vs.length.toInt32 := by
  obtain ⟨c, A, e, l, f⟩ := A
  exact ⟨c, A, by rw [← e, Array.length_toList]⟩
theorem Ary.new (A : Arr Z h a (newA k ty z) ty) : Ary Z h a ty (List.replicate z.toNatClampNeg (defaultValue ty)) := by
  refine ⟨_, A, by simp [newA], ?_, fun v hv => ?_⟩
  · rw [List.length_replicate]
    have := Int32.toInt_lt z
    simp only [Int32.toNatClampNeg]
    omega
  · rw [List.eq_of_mem_replicate hv]
    cases ty <;> rfl
theorem Ary.fit (A : Ary Z h a ty vs) : ∃ c : Cell, Arr Z h a c ty ∧ FitC Z c ∧ c.slots.toList = vs ∧ c.slots.size = vs.length ∧ ∀ (h' : Heap) (b : Addr), Arr Z h' b (cloneOf c) ty → Ary Z h' b ty vs := by
  obtain ⟨c, A, e, l, f⟩ := A
  refine ⟨c, A, fitC_of A fun i hi v hv => ?_, e, by rw [← e, Array.length_toList], fun _ _ B => ⟨_, B, e, l, f⟩⟩
  refine f v ?_
  rw [← e]
  exact List.mem_of_getElem? (by rw [Array.getElem?_toList]; exact hv)
theorem ldI {p : Program} {l : Launch} {e : Env} {R : Room} {s : State} {m : MethodId} {args : Array Value} {below : List Frame} {meth : Method} {c : Code} {T : State} {locs : List Loc} {cells slots : Nat} (X : Stand p l e R s m args below meth c T locs cells slots) (hx : p.tables.exec = Jvm.exec) (hZ : Z.Warmed39 s.vm) (eT : T.heap = h) (A : Ary Z h a .int vs) (hj : ¬ j < 0) (hv : vs[j.toNatClampNeg]? = some v) {g : JFrame} (hg : g.method = m) {rest : List Value} (hs : g.stack = .int j :: .ref a :: rest) (hd : decode c.code g.pc = .ok (.iaload, 1)) (target : State)
    (hr : Steps p.tables e below (T.setTop { g with pc := g.pc + 1, stack := v :: rest }) target) : Steps p.tables e below (T.setTop g) target := by
  obtain ⟨cl, Ar, hin, hat⟩ := A.ld hj hv
  exact X.iaload hx (by rw [eT]; exact Ar.1) (State.isArrayOf_alike hZ.alike Ar.2.1) Ar.2.2 hin hat hg hs hd target hr
theorem ldJ {p : Program} {l : Launch} {e : Env} {R : Room} {s : State} {m : MethodId} {args : Array Value} {below : List Frame} {meth : Method} {c : Code} {T : State} {locs : List Loc} {cells slots : Nat} (X : Stand p l e R s m args below meth c T locs cells slots) (hx : p.tables.exec = Jvm.exec) (hZ : Z.Warmed39 s.vm) (eT : T.heap = h) (A : Ary Z h a .long vs) (hj : ¬ j < 0) (hv : vs[j.toNatClampNeg]? = some v) {g : JFrame} (hg : g.method = m) {rest : List Value} (hs : g.stack = .int j :: .ref a :: rest) (hd : decode c.code g.pc = .ok (.laload, 1)) (target : State)
    (hr : Steps p.tables e below (T.setTop { g with pc := g.pc + 1, stack := v :: rest }) target) : Steps p.tables e below (T.setTop g) target := by
  obtain ⟨cl, Ar, hin, hat⟩ := A.ld hj hv
  exact X.laload hx (by rw [eT]; exact Ar.1) (State.isArrayOf_alike hZ.alike Ar.2.1) Ar.2.2 hin hat hg hs hd target hr
theorem ldC {p : Program} {l : Launch} {e : Env} {R : Room} {s : State} {m : MethodId} {args : Array Value} {below : List Frame} {meth : Method} {c : Code} {T : State} {locs : List Loc} {cells slots : Nat} (X : Stand p l e R s m args below meth c T locs cells slots) (hx : p.tables.exec = Jvm.exec) (hZ : Z.Warmed39 s.vm) (eT : T.heap = h) (A : Ary Z h a .char vs) (hj : ¬ j < 0) (hv : vs[j.toNatClampNeg]? = some v) {g : JFrame} (hg : g.method = m) {rest : List Value} (hs : g.stack = .int j :: .ref a :: rest) (hd : decode c.code g.pc = .ok (.caload, 1)) (target : State)
    (hr : Steps p.tables e below (T.setTop { g with pc := g.pc + 1, stack := v :: rest }) target) : Steps p.tables e below (T.setTop g) target := by
  obtain ⟨cl, Ar, hin, hat⟩ := A.ld hj hv
  exact X.caload hx (by rw [eT]; exact Ar.1) (State.isArrayOf_alike hZ.alike Ar.2.1) Ar.2.2 hin hat hg hs hd target hr
theorem ldB {p : Program} {l : Launch} {e : Env} {R : Room} {s : State} {m : MethodId} {args : Array Value} {below : List Frame} {meth : Method} {c : Code} {T : State} {locs : List Loc} {cells slots : Nat} (X : Stand p l e R s m args below meth c T locs cells slots) (hx : p.tables.exec = Jvm.exec) (hZ : Z.Warmed39 s.vm) (eT : T.heap = h) (A : Ary Z h a .byte vs) (hj : ¬ j < 0) (hv : vs[j.toNatClampNeg]? = some v) {g : JFrame} (hg : g.method = m) {rest : List Value} (hs : g.stack = .int j :: .ref a :: rest) (hd : decode c.code g.pc = .ok (.baload, 1)) (target : State)
    (hr : Steps p.tables e below (T.setTop { g with pc := g.pc + 1, stack := v :: rest }) target) : Steps p.tables e below (T.setTop g) target := by
  obtain ⟨cl, Ar, hin, hat⟩ := A.ld hj hv
  exact X.baloadBytes hx (by rw [eT]; exact Ar.1) (State.isArrayOf_alike hZ.alike Ar.2.1) Ar.2.2 hin hat hg hs hd target hr
theorem ldZ {p : Program} {l : Launch} {e : Env} {R : Room} {s : State} {m : MethodId} {args : Array Value} {below : List Frame} {meth : Method} {c : Code} {T : State} {locs : List Loc} {cells slots : Nat} (X : Stand p l e R s m args below meth c T locs cells slots) (hx : p.tables.exec = Jvm.exec) (hZ : Z.Warmed39 s.vm) (eT : T.heap = h) (A : Ary Z h a .boolean vs) (hj : ¬ j < 0) (hv : vs[j.toNatClampNeg]? = some v) {g : JFrame} (hg : g.method = m) {rest : List Value} (hs : g.stack = .int j :: .ref a :: rest) (hd : decode c.code g.pc = .ok (.baload, 1)) (target : State)
    (hr : Steps p.tables e below (T.setTop { g with pc := g.pc + 1, stack := v :: rest }) target) : Steps p.tables e below (T.setTop g) target := by
  obtain ⟨cl, Ar, hin, hat⟩ := A.ld hj hv
  exact X.baloadBooleans hx (by rw [eT]; exact Ar.1) (State.isArrayOf_alike hZ.alike Ar.2.1) Ar.2.2 hin hat hg hs hd target hr
theorem ldR {p : Program} {l : Launch} {e : Env} {R : Room} {s : State} {m : MethodId} {args : Array Value} {below : List Frame} {meth : Method} {c : Code} {T : State} {locs : List Loc} {cells slots : Nat} (X : Stand p l e R s m args below meth c T locs cells slots) (hx : p.tables.exec = Jvm.exec) (hZ : Z.Warmed39 s.vm) (eT : T.heap = h) (A : Ary Z h a ty vs) (ht : ty.isReference = true) (hj : ¬ j < 0) (hv : vs[j.toNatClampNeg]? = some v) {g : JFrame} (hg : g.method = m) {rest : List Value} (hs : g.stack = .int j :: .ref a :: rest) (hd : decode c.code g.pc = .ok (.aaload, 1)) (target : State)
    (hr : Steps p.tables e below (T.setTop { g with pc := g.pc + 1, stack := v :: rest }) target) : Steps p.tables e below (T.setTop g) target := by
  obtain ⟨cl, Ar, hin, hat⟩ := A.ld hj hv
  exact X.aaload hx (by rw [eT]; exact Ar.1) (State.isArrayOf_alike hZ.alike Ar.2.1) ht Ar.2.2 hin hat hg hs hd target hr
theorem alen {p : Program} {l : Launch} {e : Env} {R : Room} {s : State} {m : MethodId} {args : Array Value} {below : List Frame} {meth : Method} {c : Code} {T : State} {locs : List Loc} {cells slots : Nat} (X : Stand p l e R s m args below meth c T locs cells slots) (hx : p.tables.exec = Jvm.exec) (hZ : Z.Warmed39 s.vm) (eT : T.heap = h) (A : Ary Z h a ty vs) (hn : vs.length.toInt32 = z) {g : JFrame} (hg : g.method = m) {rest : List Value} (hs : g.stack = .ref a :: rest) (hd : decode c.code g.pc = .ok (.arraylength, 1)) (target : State)
    (hr : Steps p.tables e below (T.setTop { g with pc := g.pc + 1, stack := .int z :: rest }) target) : Steps p.tables e below (T.setTop g) target := by
  obtain ⟨cl, Ar, ln⟩ := A.len
  exact X.arraylength hx (by rw [eT]; exact Ar.1) (State.isArrayOf_alike hZ.alike Ar.2.1) hg hs hd target (by rw [ln.trans hn]; exact hr)
theorem getI {xs : List Int32} {i : Nat} (q : i < xs.length) : (xs.map Value.int)[i]? = some (.int (xs.getD i 0)) := by
  simp [List.getElem?_map, List.getD_eq_getElem?_getD, List.getElem?_eq_getElem q]
theorem setI {xs : List Int32} {i : Nat} {x : Int32} : (xs.map Value.int).set i (.int x) = (xs.set i x).map Value.int := List.map_set.symm
/-- an array made over the class C -/
def OvA (Z : State) (h : Heap) (a : Addr) (C : String) : Prop := ∃ c : Cell, h[a]? = some c ∧ Ovr Z c.cls C
theorem OvA.keep {C : String} (O : OvA Z h a C) (K : Keep h h' ws) : OvA Z h' a C := by
  obtain ⟨c, e, o⟩ := O
  obtain ⟨c', q, r1, -, -⟩ := K.2.2 a c e
  exact ⟨c', q, r1 ▸ o⟩
theorem stA {C : String} {y : Addr} (O : OvA Z h a C) (A : Ary Z h a ty vs) (I : Ins Z h y C true) : Sto Z h a (.ref y) := by
  obtain ⟨c, A, -⟩ := A
  obtain ⟨c', e, o⟩ := O
  cases A.1.symm.trans e
  exact Sto.of A o I
theorem eqi_v {args : Array Value} {first s : State} {o : Option Outcome} {idx : List Nat} {t : Term} {k : Int32} (q : (Cond.eq t (.int k)).value args first o s idx = some true) : t.eval args first o idx s = some (.int k) := by
  simp only [Cond.value, Term.eval] at q
  cases ht : t.eval args first o idx s with
  | none => simp [ht] at q
  | some x => cases x <;> simp [ht] at q ⊢; exact q
theorem ary_start {args : Array Value} {s : State} {t : Term} {ty : FieldType} {a : Addr} {n : Int32} {vs : List Value} (hf : Fit s) (ev : t.eval args s none [] s = some (.ref a)) (ha : (Cond.arrayOf t ty).value args s none s [] = some true) (hl : (Cond.eq (.length t) (.int n)).value args s none s [] = some true) (hn : n = vs.length.toInt32) (hs : vs.length < 2147483648)
    (he : ∀ i, i < vs.length → (Term.elem t (.int i.toInt32)).eval args s none [] s = vs[i]?) : Ary s s.heap a ty vs := by
  obtain ⟨cl, A⟩ := Arr.start ev ha
  have hA := A.fin (Vm.Alike.refl _)
  have e1 := eqi_v hl
  have hsz : cl.slots.size < 2147483648 := by
    refine Nat.lt_of_not_le fun q => ?_
    have : ¬ cl.slots.size < 2 ^ 31 := by omega
    simp [Term.eval, ev, hA, this] at e1
  have e2 := len_f (idx := []) ev hA (by omega)
  rw [e1] at e2
  have e3 : n = cl.slots.size.toInt32 := by simpa using e2
  have e4 : cl.slots.size = vs.length := by
    have q := hn.symm.trans e3
    have q1 : vs.length.toInt32.toInt = vs.length := len_toInt (by omega)
    have q2 : cl.slots.size.toInt32.toInt = cl.slots.size := len_toInt (by omega)
    rw [q, q2] at q1
    omega
  have e5 : ∀ i, i < vs.length → cl.slots[i]? = vs[i]? := fun i hi => by
    have q := he i hi
    rw [List.getElem?_eq_getElem hi] at q
    have r := (elem_in q ev (Term.int_eval _) A.1).2
    have e : i.toInt32.toNatClampNeg = i := by simp only [Int32.toNatClampNeg, len_toInt (show i < 2 ^ 31 by omega)]; rfl
    rw [e] at r
    rw [r, List.getElem?_eq_getElem hi]
  refine ⟨cl, A, ?_, hs, fun v hv => ?_⟩
  · refine List.ext_getElem? fun i => ?_
    rw [Array.getElem?_toList]
    by_cases hi : i < vs.length
    · exact e5 i hi
    · rw [Array.getElem?_eq_none (by omega), List.getElem?_eq_none (by omega)]
  · obtain ⟨i, hi, rfl⟩ := List.getElem_of_mem hv
    have r := e5 i hi
    rw [List.getElem?_eq_getElem hi] at r
    have e : i.toInt32.toNatClampNeg = i := by simp only [Int32.toNatClampNeg, len_toInt (show i < 2 ^ 31 by omega)]; rfl
    exact elem_fits (j := i.toInt32) hf A (idx_in (by omega) (by omega)) (by rw [e]; exact r)
theorem nin1 {x y : Addr} (q : x ≠ y) : x ∉ [y] := ninS q nin0
theorem Arv.ary {dv : Value} (F : Arv Z h a k ty z vs dv) (hl : z.toNatClampNeg = vs.length) : Ary Z h a ty vs := by
  obtain ⟨c, A, -, S, hz, H, G⟩ := F
  have hs : c.slots.size = vs.length := S.trans hl
  have hb := (back32 hz).2
  refine ⟨c, A, List.ext_getElem? fun i => ?_, by omega, fun v hv => ?_⟩
  · rw [Array.getElem?_toList]
    by_cases hi : i < vs.length
    · rw [H i (by omega), List.getD_eq_getElem?_getD, List.getElem?_eq_getElem hi]
      rfl
    · rw [Array.getElem?_eq_none (by omega), List.getElem?_eq_none (by omega)]
  · obtain ⟨i, hi, rfl⟩ := List.getElem_of_mem hv
    have := G i (by omega)
    rw [List.getD_eq_getElem?_getD, List.getElem?_eq_getElem hi] at this
    exact this
end Heap
section Held
variable {p : Program} {l : Launch} {e : Env} {R : Room} {s : State} {m : MethodId} {args : Array Value} {below : List Frame} {meth : Method} {c : Code} {T : State} {locs : List Loc} {cells slots : Nat} {Q : Option Value → Heap → List Loc → Prop} {cm sm : Nat} {Z : State} {EL : List (String × Nat)} {h h0 : Heap} {aw : Array Value}
/-- a run that may intern, and keeps what is held of the constants EL -/
def RunH (Z : State) (EL : List (String × Nat)) (p : Program) (e : Env) (s : State) (below : List Frame) (Q : Option Value → Heap → List Loc → Prop) (cm sm : Nat) (T : State) (f : JFrame) : Prop :=
  ∃ s₂ o, Steps p.tables e below (T.setTop f) s₂ ∧ s₂.status = .running ∧ Ended s₂ below o ∧ ∃ v L, o = .returned v ∧ Q v s₂.heap L ∧ CHr Z EL s.vm s.heap s₂.vm s₂.heap ∧ ReturnedEndW s o s₂ L cm sm
theorem goH {T' : State} {f f' : JFrame} (st : ∀ target, Steps p.tables e below (T'.setTop f') target → Steps p.tables e below (T.setTop f) target) (k : RunH Z EL p e s below Q cm sm T' f') : RunH Z EL p e s below Q cm sm T f := by
  obtain ⟨s₂, o, h, r⟩ := k
  exact ⟨s₂, o, st _ h, r⟩
theorem retZH {vm₁ : Vm} (X : Stand p l e R (s.setVm vm₁) m args below meth c T locs cells slots) {n : Nat} (hS : s.Since vm₁ n) (hn : n ≤ T.heap.size) (hh : s.heap = h0) (eT : T.heap = h) (C : CHr Z EL s.vm h0 vm₁ h) (hEL : EW Z aw EL) (hZ : Z.Warmed39 vm₁) (hx : p.tables.exec = Jvm.exec) {pc : Nat} {Ls : Array Slot} {z : Int32} {t : FieldType} {rest : List Value} (hret : meth.sig.returnType = some t) (ht : t = .boolean ∨ t = .byte ∨ t = .char ∨ t = .short)
    (hd : decode c.code pc = .ok (.ireturn, 1)) (hlk : meth.locks = false) (hc : cells ≤ cm) (hs : slots ≤ sm) (hq : Q (some (.int (nar t z))) T.heap locs) : RunH Z EL p e s below Q cm sm T (mkF m pc Ls (.int z :: rest)) := by
  obtain ⟨fs, hr, hrun, hended, h1, h2, h3, h4⟩ := X.leaveW hS hn (v := some (.int (nar t z))) (fun h => by rw [hret] at h; cases h) hlk
  have C' := C.trans (CHv.at X hZ hEL C.1)
  subst hh eT
  exact ⟨_, _, retN X hx hret ht hd hr, hrun, hended, _, _, rfl, hq, C', h1, h2, h3, h4.mono hc hs⟩
theorem retWH {vm₁ : Vm} (X : Stand p l e R (s.setVm vm₁) m args below meth c T locs cells slots) {n : Nat} (hS : s.Since vm₁ n) (hn : n ≤ T.heap.size) (hh : s.heap = h0) (eT : T.heap = h) (C : CHr Z EL s.vm h0 vm₁ h) (hEL : EW Z aw EL) (hZ : Z.Warmed39 vm₁) (hx : p.tables.exec = Jvm.exec) {pc : Nat} {Ls : Array Slot} {w : Value} {t : FieldType} {i : Instr} {rest : List Value} (hret : meth.sig.returnType = some t) (hn' : narrow t w = w)
    (hi : (i = .ireturn ∧ (t = .int ∨ t = .boolean ∨ t = .byte ∨ t = .char ∨ t = .short) ∧ ∃ z, w = .int z) ∨ (i = .lreturn ∧ t = .long ∧ ∃ z, w = .long z) ∨ (i = .dreturn ∧ t = .double ∧ ∃ z, w = .double z) ∨ (i = .freturn ∧ t = .float ∧ ∃ z, w = .float z) ∨ (i = .areturn ∧ t.isReference = true ∧ w.isRef = true))
    (hd : decode c.code pc = .ok (i, 1)) (hlk : meth.locks = false) (hc : cells ≤ cm) (hs : slots ≤ sm) (hq : Q (some w) T.heap locs) : RunH Z EL p e s below Q cm sm T (mkF m pc Ls (w :: rest)) := by
  obtain ⟨fs, hr, hrun, hended, h1, h2, h3, h4⟩ := X.leaveW hS hn (v := some w) (fun h => by rw [hret] at h; cases h) hlk
  have C' := C.trans (CHv.at X hZ hEL C.1)
  subst hh eT
  exact ⟨_, _, retOut X hx hret hn' hi hd hr, hrun, hended, _, _, rfl, hq, C', h1, h2, h3, h4.mono hc hs⟩
end Held
end Jvm.Own
namespace Jvm.Pilot.@@N@@
open Jvm Jvm.ClassFile Sem Op Lib Jvm.Free Jvm.Stand Jvm.LawKit Jvm.RoadKit Jvm.Own Bundle Jvm.Pilot.@@N@@.Jvm.D
theorem own_shr0 (n : Int32) : (n >>> ((0 : Int32) &&& 31)) = n := by
  apply Int32.toBitVec_inj.mp
  rw [Int32.toBitVec_shiftRight]
  show n.toBitVec.sshiftRight' (((0 : Int32) &&& 31).toBitVec.smod 32) = _
  rw [BitVec.sshiftRight_eq', show ((((0 : Int32) &&& 31).toBitVec.smod 32)).toNat = 0 by decide, BitVec.sshiftRight_zero]
theorem d7_0 : decode jdk_42_method_152_code 0 = .ok (.getstatic 38, 3) := by decide +kernel
theorem d7_3 : decode jdk_42_method_152_code 3 = .ok (.ifCond .eq 10, 3) := by decide +kernel
theorem d7_6 : decode jdk_42_method_152_code 6 = .ok (.aload_n 0, 1) := by decide +kernel
theorem d7_7 : decode jdk_42_method_152_code 7 = .ok (.getfield 15, 3) := by decide +kernel
theorem d7_10 : decode jdk_42_method_152_code 10 = .ok (.goto 4, 3) := by decide +kernel
theorem d7_14 : decode jdk_42_method_152_code 14 = .ok (.ireturn, 1) := by decide +kernel
theorem pn_7 : plainName "java/lang/String" = true := by first | (simp [plainName, overriddenIn]; done) | decide +kernel
theorem ef_7 (m : MethodId) (x0 : Addr) : entryFrame m #[(.ref x0)] 1 = mkF m 0 #[.val (.ref x0)] [] := by first | (simp [entryFrame, mkF, argsToLocals, Value.category]; done) | rfl
def Q7 (Z : State) (a0 : Addr) (cs : Int32) (h0 : Heap) (n0 : Nat) (v : Option Value) (h : Heap) (L : List Loc) : Prop := v = some (.int (0 : Int32)) ∧ Fr n0 L ∧ h = h0
set_option maxRecDepth 65536 in
set_option maxHeartbeats 40000000 in
theorem rm7 (l : Launch) (Z : State) (aw : Array Value) (hw : ∀ d ∈ tables_1, d.before aw Z = true) (ws : List Jvm.Cond) (a0 : Addr) (cs : Int32) (h0 : Heap) (n0 : Nat) (Z0 : n0 ≤ h0.size) (O0 : Old Z n0 h0) (S_cs : Sta Z Z.heap "java/lang/String" "COMPACT_STRINGS" "Z" (.int cs)) (hcs : ¬ (cs = (0 : Int32))) (E_a0 : Exa Z h0 a0 "java/lang/String") (F_c : Fld Z h0 a0 "java/lang/String" "coder" "B" (.int (0 : Int32))) :
    MetFree l (⟨"java/lang/String", "coder", "()B"⟩ : MethodName) (head1 (Jvm.Cond.code (⟨"java/lang/String", "coder", "()B"⟩ : MethodName) jdk_42_method_152_code 1 (some .byte) :: ws) ({ frames := 0, cells := 0, slots := 0, locals := 0 } : Room)) (fun a U => a = #[(.ref a0)] ∧ Z.Warmed39 U.vm ∧ U.heap = h0) (fun _ _ _ _ _ => True) (fun _ U o U' => ∃ v L, o = .returned v ∧ Q7 Z a0 cs h0 n0 v U'.heap L ∧ FrameEnd U o U' L ({ frames := 0, cells := 0, slots := 0, locals := 0 } : Room).cells ({ frames := 0, cells := 0, slots := 0, locals := 0 } : Room).slots) := by
  refine MetFree.of_bodySF (plainFor_of_name pn_7) hisR ?_
  intro p e s m args below meth c s₁ Bd hml0 hP hK
  obtain ⟨rfl, hZ, hh⟩ := hP
  have hx := Bd.exec
  have hby := Bd.bytes
  have hml : c.maxLocals = 1 := hml0
  have hown : s.vm.findClass "java/lang/String" = some m.cls := findClass_of_methodNamed Bd.named
  have hnm := (name_of_methodNamed Bd.named Bd.method).1
  have hlk : meth.locks = false := BodyLoose.notSynchronized Bd
  have X0 : Stand p l e ({ frames := 0, cells := 0, slots := 0, locals := 0 } : Room) s m #[(.ref a0)] below meth c s₁ [] 0 0 := Stand.of_body Bd
  have e0 : s₁.heap = h0 := by rw [← hh, Bd.state]; rfl
  have N0 := Fr.nil n0
  show Run p e s below (Q7 Z a0 cs h0 n0) ({ frames := 0, cells := 0, slots := 0, locals := 0 } : Room).cells ({ frames := 0, cells := 0, slots := 0, locals := 0 } : Room).slots s₁ (entryFrame m #[(.ref a0)] 1)
  rw [ef_7]
  show Run _ _ _ _ _ _ _ s₁ (mkF m 0 #[.val (.ref a0)] [])
  obtain ⟨T1, X1, e1, st1⟩ := getS2 X0 hx hZ hown (host := "") (Or.inl (hw _ (List.mem_of_getElem? (i := 31) rfl))) Via.refl e0 (S_cs.ext O0.2) (g := (mkF m 0 #[.val (.ref a0)] [])) rfl (hb hby d7_0)
  refine go st1 ?_
  show Run _ _ _ _ _ _ _ T1 (mkF m 3 #[.val (.ref a0)] [(.int cs)])
  refine go (T' := T1) (f' := (mkF m 6 #[.val (.ref a0)] [])) (by intro t k; exact XS.ifNo X1.here hx rfl (hb hby d7_3) rfl ((if0 _ _).trans (feq (hcs : ¬ (cs = (0 : Int32)))).1) k) ?_
  show Run _ _ _ _ _ _ _ T1 (mkF m 6 #[.val (.ref a0)] [])
  refine go (T' := T1) (f' := (mkF m 7 #[.val (.ref a0)] [(.ref a0)])) (by intro t k; exact XS.aloadN X1.here hx rfl (hb hby d7_6) rfl rfl k) ?_
  show Run _ _ _ _ _ _ _ T1 (mkF m 7 #[.val (.ref a0)] [(.ref a0)])
  obtain ⟨T2, X2, e2, st2⟩ := getF X1 hx hZ hown (host := "") (Or.inl (hw _ (List.mem_of_getElem? (i := 32) rfl))) Via.refl e1 F_c (g := (mkF m 7 #[.val (.ref a0)] [(.ref a0)])) rfl rfl (hb hby d7_7)
  refine go st2 ?_
  show Run _ _ _ _ _ _ _ T2 (mkF m 10 #[.val (.ref a0)] [(.int (0 : Int32))])
  refine go (T' := T2) (f' := (mkF m 14 #[.val (.ref a0)] [(.int (0 : Int32))])) (by intro t k; exact XS.goto X2.here hx rfl (pc0 := 10) (pc' := 14) rfl (hb hby d7_10) (by decide) (by decide) k) ?_
  show Run _ _ _ _ _ _ _ T2 (mkF m 14 #[.val (.ref a0)] [(.int (0 : Int32))])
  refine retZ X2 hx (t := .byte) Bd.returns (by simp) (hb hby d7_14) hlk (by decide) (by decide) ?_
  show Q7 Z a0 cs h0 n0 _ T2.heap _
  rw [e2]
  have hv' : (nar .byte (0 : Int32)) = (0 : Int32) := by
    rfl
  have hv : (some (.int (nar .byte (0 : Int32))) : Option Value) = some (.int (0 : Int32)) := congrArg (fun z => (some (.int z) : Option Value)) hv'
  exact ⟨hv, N0, rfl⟩
theorem d5_0 : decode jdk_42_method_154_code 0 = .ok (.getstatic 38, 3) := by decide +kernel
theorem d5_3 : decode jdk_42_method_154_code 3 = .ok (.ifCond .eq 14, 3) := by decide +kernel
theorem d5_6 : decode jdk_42_method_154_code 6 = .ok (.aload_n 0, 1) := by decide +kernel
theorem d5_7 : decode jdk_42_method_154_code 7 = .ok (.getfield 15, 3) := by decide +kernel
theorem d5_10 : decode jdk_42_method_154_code 10 = .ok (.ifCond .ne 7, 3) := by decide +kernel
theorem d5_13 : decode jdk_42_method_154_code 13 = .ok (.iconst 1, 1) := by decide +kernel
theorem d5_14 : decode jdk_42_method_154_code 14 = .ok (.goto 4, 3) := by decide +kernel
theorem d5_18 : decode jdk_42_method_154_code 18 = .ok (.ireturn, 1) := by decide +kernel
theorem ef_5 (m : MethodId) (x0 : Addr) : entryFrame m #[(.ref x0)] 1 = mkF m 0 #[.val (.ref x0)] [] := by first | (simp [entryFrame, mkF, argsToLocals, Value.category]; done) | rfl
def Q5 (Z : State) (a0 : Addr) (cs : Int32) (h0 : Heap) (n0 : Nat) (v : Option Value) (h : Heap) (L : List Loc) : Prop := v = some (.int (1 : Int32)) ∧ Fr n0 L ∧ h = h0
set_option maxRecDepth 65536 in
set_option maxHeartbeats 40000000 in
theorem rm5 (l : Launch) (Z : State) (aw : Array Value) (hw : ∀ d ∈ tables_1, d.before aw Z = true) (ws : List Jvm.Cond) (a0 : Addr) (cs : Int32) (h0 : Heap) (n0 : Nat) (Z0 : n0 ≤ h0.size) (O0 : Old Z n0 h0) (S_cs : Sta Z Z.heap "java/lang/String" "COMPACT_STRINGS" "Z" (.int cs)) (hcs : ¬ (cs = (0 : Int32))) (F_c : Fld Z h0 a0 "java/lang/String" "coder" "B" (.int (0 : Int32))) :
    MetFree l (⟨"java/lang/String", "isLatin1", "()Z"⟩ : MethodName) (head1 (Jvm.Cond.code (⟨"java/lang/String", "isLatin1", "()Z"⟩ : MethodName) jdk_42_method_154_code 1 (some .boolean) :: ws) ({ frames := 0, cells := 0, slots := 0, locals := 0 } : Room)) (fun a U => a = #[(.ref a0)] ∧ Z.Warmed39 U.vm ∧ U.heap = h0) (fun _ _ _ _ _ => True) (fun _ U o U' => ∃ v L, o = .returned v ∧ Q5 Z a0 cs h0 n0 v U'.heap L ∧ FrameEnd U o U' L ({ frames := 0, cells := 0, slots := 0, locals := 0 } : Room).cells ({ frames := 0, cells := 0, slots := 0, locals := 0 } : Room).slots) := by
  refine MetFree.of_bodySF (plainFor_of_name pn_7) hisR ?_
  intro p e s m args below meth c s₁ Bd hml0 hP hK
  obtain ⟨rfl, hZ, hh⟩ := hP
  have hx := Bd.exec
  have hby := Bd.bytes
  have hml : c.maxLocals = 1 := hml0
  have hown : s.vm.findClass "java/lang/String" = some m.cls := findClass_of_methodNamed Bd.named
  have hnm := (name_of_methodNamed Bd.named Bd.method).1
  have hlk : meth.locks = false := BodyLoose.notSynchronized Bd
  have X0 : Stand p l e ({ frames := 0, cells := 0, slots := 0, locals := 0 } : Room) s m #[(.ref a0)] below meth c s₁ [] 0 0 := Stand.of_body Bd
  have e0 : s₁.heap = h0 := by rw [← hh, Bd.state]; rfl
  have N0 := Fr.nil n0
  show Run p e s below (Q5 Z a0 cs h0 n0) ({ frames := 0, cells := 0, slots := 0, locals := 0 } : Room).cells ({ frames := 0, cells := 0, slots := 0, locals := 0 } : Room).slots s₁ (entryFrame m #[(.ref a0)] 1)
  rw [ef_5]
  show Run _ _ _ _ _ _ _ s₁ (mkF m 0 #[.val (.ref a0)] [])
  obtain ⟨T1, X1, e1, st1⟩ := getS2 X0 hx hZ hown (host := "") (Or.inl (hw _ (List.mem_of_getElem? (i := 31) rfl))) Via.refl e0 (S_cs.ext O0.2) (g := (mkF m 0 #[.val (.ref a0)] [])) rfl (hb hby d5_0)
  refine go st1 ?_
  show Run _ _ _ _ _ _ _ T1 (mkF m 3 #[.val (.ref a0)] [(.int cs)])
  refine go (T' := T1) (f' := (mkF m 6 #[.val (.ref a0)] [])) (by intro t k; exact XS.ifNo X1.here hx rfl (hb hby d5_3) rfl ((if0 _ _).trans (feq (hcs : ¬ (cs = (0 : Int32)))).1) k) ?_
  show Run _ _ _ _ _ _ _ T1 (mkF m 6 #[.val (.ref a0)] [])
  refine go (T' := T1) (f' := (mkF m 7 #[.val (.ref a0)] [(.ref a0)])) (by intro t k; exact XS.aloadN X1.here hx rfl (hb hby d5_6) rfl rfl k) ?_
  show Run _ _ _ _ _ _ _ T1 (mkF m 7 #[.val (.ref a0)] [(.ref a0)])
  obtain ⟨T2, X2, e2, st2⟩ := getF X1 hx hZ hown (host := "") (Or.inl (hw _ (List.mem_of_getElem? (i := 32) rfl))) Via.refl e1 F_c (g := (mkF m 7 #[.val (.ref a0)] [(.ref a0)])) rfl rfl (hb hby d5_7)
  refine go st2 ?_
  show Run _ _ _ _ _ _ _ T2 (mkF m 10 #[.val (.ref a0)] [(.int (0 : Int32))])
  refine go (T' := T2) (f' := (mkF m 13 #[.val (.ref a0)] [])) (by intro t k; exact XS.ifNo X2.here hx rfl (hb hby d5_10) rfl ((if0 _ _).trans (teq (rfl : (0 : Int32) = (0 : Int32))).2) k) ?_
  show Run _ _ _ _ _ _ _ T2 (mkF m 13 #[.val (.ref a0)] [])
  refine go (T' := T2) (f' := (mkF m 14 #[.val (.ref a0)] [(.int (1 : Int32))])) (by intro t k; exact XS.iconst X2.here hx rfl (hb hby d5_13) k) ?_
  show Run _ _ _ _ _ _ _ T2 (mkF m 14 #[.val (.ref a0)] [(.int (1 : Int32))])
  refine go (T' := T2) (f' := (mkF m 18 #[.val (.ref a0)] [(.int (1 : Int32))])) (by intro t k; exact XS.goto X2.here hx rfl (pc0 := 14) (pc' := 18) rfl (hb hby d5_14) (by decide) (by decide) k) ?_
  show Run _ _ _ _ _ _ _ T2 (mkF m 18 #[.val (.ref a0)] [(.int (1 : Int32))])
  refine retZ X2 hx (t := .boolean) Bd.returns (by simp) (hb hby d5_18) hlk (by decide) (by decide) ?_
  show Q5 Z a0 cs h0 n0 _ T2.heap _
  rw [e2]
  have hv' : (nar .boolean (1 : Int32)) = (1 : Int32) := by
    rfl
  have hv : (some (.int (nar .boolean (1 : Int32))) : Option Value) = some (.int (1 : Int32)) := congrArg (fun z => (some (.int z) : Option Value)) hv'
  exact ⟨hv, N0, rfl⟩
theorem d6_0 : decode jdk_42_method_54_code 0 = .ok (.aload_n 0, 1) := by decide +kernel
theorem d6_1 : decode jdk_42_method_54_code 1 = .ok (.getfield 9, 3) := by decide +kernel
theorem d6_4 : decode jdk_42_method_54_code 4 = .ok (.arraylength, 1) := by decide +kernel
theorem d6_5 : decode jdk_42_method_54_code 5 = .ok (.aload_n 0, 1) := by decide +kernel
theorem d6_6 : decode jdk_42_method_54_code 6 = .ok (.invokevirtual 335, 3) := by decide +kernel
theorem d6_9 : decode jdk_42_method_54_code 9 = .ok (.ishr, 1) := by decide +kernel
theorem d6_10 : decode jdk_42_method_54_code 10 = .ok (.ireturn, 1) := by decide +kernel
theorem pd_2829B : parseMethodDescriptor "()B" = some ⟨[], some .byte⟩ := by decide +kernel
theorem ef_6 (m : MethodId) (x0 : Addr) : entryFrame m #[(.ref x0)] 1 = mkF m 0 #[.val (.ref x0)] [] := by first | (simp [entryFrame, mkF, argsToLocals, Value.category]; done) | rfl
def Q6 (Z : State) (a0 : Addr) (cs : Int32) (b : Addr) (vs : List Value) (n : Int32) (h0 : Heap) (n0 : Nat) (v : Option Value) (h : Heap) (L : List Loc) : Prop := v = some (.int n) ∧ Fr n0 L ∧ h = h0
set_option maxRecDepth 65536 in
set_option maxHeartbeats 40000000 in
theorem rm6 (l : Launch) (Z : State) (aw : Array Value) (hw : ∀ d ∈ tables_1, d.before aw Z = true) (ws : List Jvm.Cond) (a0 : Addr) (cs : Int32) (b : Addr) (vs : List Value) (n : Int32) (h0 : Heap) (n0 : Nat) (Z0 : n0 ≤ h0.size) (O0 : Old Z n0 h0) (S_cs : Sta Z Z.heap "java/lang/String" "COMPACT_STRINGS" "Z" (.int cs)) (hcs : ¬ (cs = (0 : Int32))) (E_a0 : Exa Z h0 a0 "java/lang/String") (F_c : Fld Z h0 a0 "java/lang/String" "coder" "B" (.int (0 : Int32))) (F_v : Fld Z h0 a0 "java/lang/String" "value" "[B" (.ref b)) (A_b : Ary Z h0 b .byte vs) (hlen : vs.length.toInt32 = n) :
    MetFree l (⟨"java/lang/String", "length", "()I"⟩ : MethodName) (head1 (Jvm.Cond.code (⟨"java/lang/String", "length", "()I"⟩ : MethodName) jdk_42_method_54_code 1 (some .int) :: ws) ({ frames := 1, cells := 0, slots := 0, locals := 13 } : Room)) (fun a U => a = #[(.ref a0)] ∧ Z.Warmed39 U.vm ∧ U.heap = h0) (fun _ _ _ _ _ => True) (fun _ U o U' => ∃ v L, o = .returned v ∧ Q6 Z a0 cs b vs n h0 n0 v U'.heap L ∧ FrameEnd U o U' L ({ frames := 1, cells := 0, slots := 0, locals := 13 } : Room).cells ({ frames := 1, cells := 0, slots := 0, locals := 13 } : Room).slots) := by
  refine MetFree.of_bodySF (plainFor_of_name pn_7) hisR ?_
  intro p e s m args below meth c s₁ Bd hml0 hP hK
  obtain ⟨rfl, hZ, hh⟩ := hP
  have hx := Bd.exec
  have hby := Bd.bytes
  have hml : c.maxLocals = 1 := hml0
  have hown : s.vm.findClass "java/lang/String" = some m.cls := findClass_of_methodNamed Bd.named
  have hnm := (name_of_methodNamed Bd.named Bd.method).1
  have hlk : meth.locks = false := BodyLoose.notSynchronized Bd
  have X0 : Stand p l e ({ frames := 1, cells := 0, slots := 0, locals := 13 } : Room) s m #[(.ref a0)] below meth c s₁ [] 0 0 := Stand.of_body Bd
  have e0 : s₁.heap = h0 := by rw [← hh, Bd.state]; rfl
  have N0 := Fr.nil n0
  show Run p e s below (Q6 Z a0 cs b vs n h0 n0) ({ frames := 1, cells := 0, slots := 0, locals := 13 } : Room).cells ({ frames := 1, cells := 0, slots := 0, locals := 13 } : Room).slots s₁ (entryFrame m #[(.ref a0)] 1)
  rw [ef_6]
  show Run _ _ _ _ _ _ _ s₁ (mkF m 0 #[.val (.ref a0)] [])
  refine go (T' := s₁) (f' := (mkF m 1 #[.val (.ref a0)] [(.ref a0)])) (by intro t k; exact XS.aloadN X0.here hx rfl (hb hby d6_0) rfl rfl k) ?_
  show Run _ _ _ _ _ _ _ s₁ (mkF m 1 #[.val (.ref a0)] [(.ref a0)])
  obtain ⟨T1, X1, e1, st1⟩ := getF X0 hx hZ hown (host := "") (Or.inl (hw _ (List.mem_of_getElem? (i := 33) rfl))) Via.refl e0 F_v (g := (mkF m 1 #[.val (.ref a0)] [(.ref a0)])) rfl rfl (hb hby d6_1)
  refine go st1 ?_
  show Run _ _ _ _ _ _ _ T1 (mkF m 4 #[.val (.ref a0)] [(.ref b)])
  refine go (T' := T1) (f' := (mkF m 5 #[.val (.ref a0)] [(.int n)])) (by intro t k; exact alen X1 hx hZ e1 A_b (z := n) hlen (g := (mkF m 4 #[.val (.ref a0)] [(.ref b)])) rfl rfl (hb hby d6_4) _ k) ?_
  show Run _ _ _ _ _ _ _ T1 (mkF m 5 #[.val (.ref a0)] [(.int n)])
  refine go (T' := T1) (f' := (mkF m 6 #[.val (.ref a0)] [(.ref a0), (.int n)])) (by intro t k; exact XS.aloadN X1.here hx rfl (hb hby d6_5) rfl rfl k) ?_
  show Run _ _ _ _ _ _ _ T1 (mkF m 6 #[.val (.ref a0)] [(.ref a0), (.int n)])
  obtain ⟨cq2, kq2, q2a, q2b, q2c⟩ := isOf hZ e1 E_a0
  obtain ⟨_, _, ⟨T2, Lz2, kz2, nz2⟩, -, X2, ⟨Lc2, hQ2, lz2, yz2, zz2⟩, st2⟩ := X1.virtualBack hx (y := (⟨"java/lang/String", "coder", "()B"⟩ : MethodName)) (z := (⟨"java/lang/String", "coder", "()B"⟩ : MethodName)) hown (mvT hZ (hw _ (List.mem_of_getElem? (i := 39) rfl))) (mvT hZ (hw _ (List.mem_of_getElem? (i := 40) rfl))) (notFace_of_selects (args := #[]) (mvT hZ (hw _ (List.mem_of_getElem? (i := 42) rfl)))) (mvT hZ (hw _ (List.mem_of_getElem? (i := 42) rfl))) (mvT hZ (hw _ (List.mem_of_getElem? (i := 41) rfl))) (by decide) (backOf (W := 1) (rm7 l Z aw hw [] a0 cs h0 n0 Z0 O0 S_cs hcs E_a0 F_c) hZ (hw _ (List.mem_of_getElem? (i := 43) rfl)) (hw _ (List.mem_of_getElem? (i := 9) rfl)) (by decide) (by decide)) q2a q2c (g := (mkF m 6 #[.val (.ref a0)] [(.ref a0), (.int n)])) rfl (by rw [hml]; rfl) (Steps.refl _) (argsL := []) (rest := [(.int n)]) (lenOf pd_2829B rfl) rfl (by show 2 * 0 + _ ≤ _; exact Nat.le_of_eq rfl) (hb hby d6_6) (fun _ _ => ⟨rfl, e1, (by decide : 0 + 0 ≤ _), (by decide : 0 + 0 ≤ _)⟩)
  dsimp only [Pt.U, Pt.locs, Pt.cells, Pt.slots] at X2 lz2 yz2 zz2 st2 hQ2
  subst lz2 yz2 zz2
  obtain ⟨rfl, N2q, e2⟩ := hQ2
  have N2 := Fr.app N0 N2q
  refine go (fun _ k => st2.trans k) ?_
  show Run _ _ _ _ _ _ _ T2 (mkF m 9 #[.val (.ref a0)] [(.int (0 : Int32)), (.int n)])
  refine go (T' := T2) (f' := (mkF m 10 #[.val (.ref a0)] [(.int ((n >>> ((0 : Int32) &&& 31))))])) (by intro t k; exact XS.ishr X2.here hx rfl (hb hby d6_9) rfl k) ?_
  show Run _ _ _ _ _ _ _ T2 (mkF m 10 #[.val (.ref a0)] [(.int ((n >>> ((0 : Int32) &&& 31))))])
  refine retW X2 hx (t := .int) Bd.returns rfl (Or.inl ⟨rfl, Or.inl rfl, _, rfl⟩) (hb hby d6_10) hlk (by decide) (by decide) ?_
  show Q6 Z a0 cs b vs n h0 n0 _ T2.heap _
  rw [e2]
  have hv' : ((n >>> ((0 : Int32) &&& 31))) = n := by
    exact own_shr0 n
  have hv : (some (.int ((n >>> ((0 : Int32) &&& 31)))) : Option Value) = some (.int n) := congrArg (fun z => (some (.int z) : Option Value)) hv'
  exact ⟨hv, N2, rfl⟩
def own_max (p0 : Int32) (p1 : Int32) : Int32 := (if p0 < p1 then p1 else p0)
theorem d10_0 : decode jdk_29_method_65_code 0 = .ok (.iload_n 0, 1) := by decide +kernel
theorem d10_1 : decode jdk_29_method_65_code 1 = .ok (.iload_n 1, 1) := by decide +kernel
theorem d10_2 : decode jdk_29_method_65_code 2 = .ok (.if_icmp .lt 7, 3) := by decide +kernel
theorem d10_9 : decode jdk_29_method_65_code 9 = .ok (.iload_n 1, 1) := by decide +kernel
theorem d10_5 : decode jdk_29_method_65_code 5 = .ok (.iload_n 0, 1) := by decide +kernel
theorem d10_6 : decode jdk_29_method_65_code 6 = .ok (.goto 4, 3) := by decide +kernel
theorem d10_10 : decode jdk_29_method_65_code 10 = .ok (.ireturn, 1) := by decide +kernel
theorem ef_10 (m : MethodId) (x0 : Int32) (x1 : Int32) : entryFrame m #[(.int x0), (.int x1)] 2 = mkF m 0 #[.val (.int x0), .val (.int x1)] [] := by first | (simp [entryFrame, mkF, argsToLocals, Value.category]; done) | rfl
def Q10 (Z : State) (p0 : Int32) (p1 : Int32) (h0 : Heap) (n0 : Nat) (v : Option Value) (h : Heap) (L : List Loc) : Prop := v = some (.int (own_max p0 p1)) ∧ Fr n0 L ∧ h = h0
set_option maxRecDepth 65536 in
set_option maxHeartbeats 40000000 in
theorem rm10 (l : Launch) (Z : State) (aw : Array Value) (hw : ∀ d ∈ tables_1, d.before aw Z = true) (ws : List Jvm.Cond) (p0 : Int32) (p1 : Int32) (h0 : Heap) (n0 : Nat) (Z0 : n0 ≤ h0.size) :
    MetFree l (⟨"java/lang/Math", "max", "(II)I"⟩ : MethodName) (head1 (Jvm.Cond.code (⟨"java/lang/Math", "max", "(II)I"⟩ : MethodName) jdk_29_method_65_code 2 (some .int) :: ws) ({ frames := 0, cells := 0, slots := 0, locals := 0 } : Room)) (fun a U => a = #[(.int p0), (.int p1)] ∧ Z.Warmed39 U.vm ∧ U.heap = h0) (fun _ _ _ _ _ => True) (fun _ U o U' => ∃ v L, o = .returned v ∧ Q10 Z p0 p1 h0 n0 v U'.heap L ∧ FrameEnd U o U' L ({ frames := 0, cells := 0, slots := 0, locals := 0 } : Room).cells ({ frames := 0, cells := 0, slots := 0, locals := 0 } : Room).slots) := by
  refine MetFree.of_bodySF (Jvm.Free.JP.mathPlain rfl (by decide +kernel)) hisR ?_
  intro p e s m args below meth c s₁ Bd hml0 hP hK
  obtain ⟨rfl, hZ, hh⟩ := hP
  have hx := Bd.exec
  have hby := Bd.bytes
  have hml : c.maxLocals = 2 := hml0
  have hown : s.vm.findClass "java/lang/Math" = some m.cls := findClass_of_methodNamed Bd.named
  have hnm := (name_of_methodNamed Bd.named Bd.method).1
  have hlk : meth.locks = false := BodyLoose.notSynchronized Bd
  have X0 : Stand p l e ({ frames := 0, cells := 0, slots := 0, locals := 0 } : Room) s m #[(.int p0), (.int p1)] below meth c s₁ [] 0 0 := Stand.of_body Bd
  have e0 : s₁.heap = h0 := by rw [← hh, Bd.state]; rfl
  have N0 := Fr.nil n0
  show Run p e s below (Q10 Z p0 p1 h0 n0) ({ frames := 0, cells := 0, slots := 0, locals := 0 } : Room).cells ({ frames := 0, cells := 0, slots := 0, locals := 0 } : Room).slots s₁ (entryFrame m #[(.int p0), (.int p1)] 2)
  rw [ef_10]
  show Run _ _ _ _ _ _ _ s₁ (mkF m 0 #[.val (.int p0), .val (.int p1)] [])
  refine go (T' := s₁) (f' := (mkF m 1 #[.val (.int p0), .val (.int p1)] [(.int p0)])) (by intro t k; exact XS.iloadN X0.here hx rfl (hb hby d10_0) rfl k) ?_
  show Run _ _ _ _ _ _ _ s₁ (mkF m 1 #[.val (.int p0), .val (.int p1)] [(.int p0)])
  refine go (T' := s₁) (f' := (mkF m 2 #[.val (.int p0), .val (.int p1)] [(.int p1), (.int p0)])) (by intro t k; exact XS.iloadN X0.here hx rfl (hb hby d10_1) rfl k) ?_
  show Run _ _ _ _ _ _ _ s₁ (mkF m 2 #[.val (.int p0), .val (.int p1)] [(.int p1), (.int p0)])
  obtain ⟨z1, hz1⟩ : ∃ z : Int32, z = (if p0 < p1 then p1 else p0) := ⟨_, rfl⟩
  have J2 : Run p e s below (Q10 Z p0 p1 h0 n0) ({ frames := 0, cells := 0, slots := 0, locals := 0 } : Room).cells ({ frames := 0, cells := 0, slots := 0, locals := 0 } : Room).slots s₁ (mkF m 10 #[.val (.int p0), .val (.int p1)] [(.int z1)]) := by
    show Run _ _ _ _ _ _ _ s₁ (mkF m 10 #[.val (.int p0), .val (.int p1)] [(.int z1)])
    refine retW X0 hx (t := .int) Bd.returns rfl (Or.inl ⟨rfl, Or.inl rfl, _, rfl⟩) (hb hby d10_10) hlk (by decide) (by decide) ?_
    show Q10 Z p0 p1 h0 n0 _ s₁.heap _
    rw [e0]
    have hv' : z1 = (own_max p0 p1) := by
      subst_vars
      unfold own_max
      first | rfl | ((repeat' split) <;> first | rfl | contradiction) | simp [nar, *]
    have hv : (some (.int z1) : Option Value) = some (.int (own_max p0 p1)) := congrArg (fun z => (some (.int z) : Option Value)) hv'
    exact ⟨hv, N0, rfl⟩
  show Run _ _ _ _ _ _ _ s₁ (mkF m 2 #[.val (.int p0), .val (.int p1)] [(.int p1), (.int p0)])
  by_cases hc2 : p0 < p1
  · refine go (T' := s₁) (f' := (mkF m 9 #[.val (.int p0), .val (.int p1)] [])) (by intro t k; exact XS.icmpYes X0.here hx rfl (pc0 := 2) (pc' := 9) rfl (hb hby d10_2) rfl (tlt hc2).1 (by decide) (by decide) k) ?_
    show Run _ _ _ _ _ _ _ s₁ (mkF m 9 #[.val (.int p0), .val (.int p1)] [])
    refine go (T' := s₁) (f' := (mkF m 10 #[.val (.int p0), .val (.int p1)] [(.int p1)])) (by intro t k; exact XS.iloadN X0.here hx rfl (hb hby d10_9) rfl k) ?_
    have ez1 : z1 = p1 := (hz1).trans (if_pos hc2)
    subst ez1
    exact J2
  · refine go (T' := s₁) (f' := (mkF m 5 #[.val (.int p0), .val (.int p1)] [])) (by intro t k; exact XS.icmpNo X0.here hx rfl (hb hby d10_2) rfl (flt hc2).1 k) ?_
    show Run _ _ _ _ _ _ _ s₁ (mkF m 5 #[.val (.int p0), .val (.int p1)] [])
    refine go (T' := s₁) (f' := (mkF m 6 #[.val (.int p0), .val (.int p1)] [(.int p0)])) (by intro t k; exact XS.iloadN X0.here hx rfl (hb hby d10_5) rfl k) ?_
    show Run _ _ _ _ _ _ _ s₁ (mkF m 6 #[.val (.int p0), .val (.int p1)] [(.int p0)])
    refine go (T' := s₁) (f' := (mkF m 10 #[.val (.int p0), .val (.int p1)] [(.int p0)])) (by intro t k; exact XS.goto X0.here hx rfl (pc0 := 6) (pc' := 10) rfl (hb hby d10_6) (by decide) (by decide) k) ?_
    have ez1 : z1 = p0 := (hz1).trans (if_neg hc2)
    subst ez1
    exact J2
def own_min (p0 : Int32) (p1 : Int32) : Int32 := (if p1 < p0 then p1 else p0)
theorem d11_0 : decode jdk_29_method_69_code 0 = .ok (.iload_n 0, 1) := by decide +kernel
theorem d11_1 : decode jdk_29_method_69_code 1 = .ok (.iload_n 1, 1) := by decide +kernel
theorem d11_2 : decode jdk_29_method_69_code 2 = .ok (.if_icmp .gt 7, 3) := by decide +kernel
theorem d11_9 : decode jdk_29_method_69_code 9 = .ok (.iload_n 1, 1) := by decide +kernel
theorem d11_5 : decode jdk_29_method_69_code 5 = .ok (.iload_n 0, 1) := by decide +kernel
theorem d11_6 : decode jdk_29_method_69_code 6 = .ok (.goto 4, 3) := by decide +kernel
theorem d11_10 : decode jdk_29_method_69_code 10 = .ok (.ireturn, 1) := by decide +kernel
theorem ef_11 (m : MethodId) (x0 : Int32) (x1 : Int32) : entryFrame m #[(.int x0), (.int x1)] 2 = mkF m 0 #[.val (.int x0), .val (.int x1)] [] := by first | (simp [entryFrame, mkF, argsToLocals, Value.category]; done) | rfl
def Q11 (Z : State) (p0 : Int32) (p1 : Int32) (h0 : Heap) (n0 : Nat) (v : Option Value) (h : Heap) (L : List Loc) : Prop := v = some (.int (own_min p0 p1)) ∧ Fr n0 L ∧ h = h0
set_option maxRecDepth 65536 in
set_option maxHeartbeats 40000000 in
theorem rm11 (l : Launch) (Z : State) (aw : Array Value) (hw : ∀ d ∈ tables_1, d.before aw Z = true) (ws : List Jvm.Cond) (p0 : Int32) (p1 : Int32) (h0 : Heap) (n0 : Nat) (Z0 : n0 ≤ h0.size) :
    MetFree l (⟨"java/lang/Math", "min", "(II)I"⟩ : MethodName) (head1 (Jvm.Cond.code (⟨"java/lang/Math", "min", "(II)I"⟩ : MethodName) jdk_29_method_69_code 2 (some .int) :: ws) ({ frames := 0, cells := 0, slots := 0, locals := 0 } : Room)) (fun a U => a = #[(.int p0), (.int p1)] ∧ Z.Warmed39 U.vm ∧ U.heap = h0) (fun _ _ _ _ _ => True) (fun _ U o U' => ∃ v L, o = .returned v ∧ Q11 Z p0 p1 h0 n0 v U'.heap L ∧ FrameEnd U o U' L ({ frames := 0, cells := 0, slots := 0, locals := 0 } : Room).cells ({ frames := 0, cells := 0, slots := 0, locals := 0 } : Room).slots) := by
  refine MetFree.of_bodySF (Jvm.Free.JP.mathPlain rfl (by decide +kernel)) hisR ?_
  intro p e s m args below meth c s₁ Bd hml0 hP hK
  obtain ⟨rfl, hZ, hh⟩ := hP
  have hx := Bd.exec
  have hby := Bd.bytes
  have hml : c.maxLocals = 2 := hml0
  have hown : s.vm.findClass "java/lang/Math" = some m.cls := findClass_of_methodNamed Bd.named
  have hnm := (name_of_methodNamed Bd.named Bd.method).1
  have hlk : meth.locks = false := BodyLoose.notSynchronized Bd
  have X0 : Stand p l e ({ frames := 0, cells := 0, slots := 0, locals := 0 } : Room) s m #[(.int p0), (.int p1)] below meth c s₁ [] 0 0 := Stand.of_body Bd
  have e0 : s₁.heap = h0 := by rw [← hh, Bd.state]; rfl
  have N0 := Fr.nil n0
  show Run p e s below (Q11 Z p0 p1 h0 n0) ({ frames := 0, cells := 0, slots := 0, locals := 0 } : Room).cells ({ frames := 0, cells := 0, slots := 0, locals := 0 } : Room).slots s₁ (entryFrame m #[(.int p0), (.int p1)] 2)
  rw [ef_11]
  show Run _ _ _ _ _ _ _ s₁ (mkF m 0 #[.val (.int p0), .val (.int p1)] [])
  refine go (T' := s₁) (f' := (mkF m 1 #[.val (.int p0), .val (.int p1)] [(.int p0)])) (by intro t k; exact XS.iloadN X0.here hx rfl (hb hby d11_0) rfl k) ?_
  show Run _ _ _ _ _ _ _ s₁ (mkF m 1 #[.val (.int p0), .val (.int p1)] [(.int p0)])
  refine go (T' := s₁) (f' := (mkF m 2 #[.val (.int p0), .val (.int p1)] [(.int p1), (.int p0)])) (by intro t k; exact XS.iloadN X0.here hx rfl (hb hby d11_1) rfl k) ?_
  show Run _ _ _ _ _ _ _ s₁ (mkF m 2 #[.val (.int p0), .val (.int p1)] [(.int p1), (.int p0)])
  obtain ⟨z1, hz1⟩ : ∃ z : Int32, z = (if p1 < p0 then p1 else p0) := ⟨_, rfl⟩
  have J2 : Run p e s below (Q11 Z p0 p1 h0 n0) ({ frames := 0, cells := 0, slots := 0, locals := 0 } : Room).cells ({ frames := 0, cells := 0, slots := 0, locals := 0 } : Room).slots s₁ (mkF m 10 #[.val (.int p0), .val (.int p1)] [(.int z1)]) := by
    show Run _ _ _ _ _ _ _ s₁ (mkF m 10 #[.val (.int p0), .val (.int p1)] [(.int z1)])
    refine retW X0 hx (t := .int) Bd.returns rfl (Or.inl ⟨rfl, Or.inl rfl, _, rfl⟩) (hb hby d11_10) hlk (by decide) (by decide) ?_
    show Q11 Z p0 p1 h0 n0 _ s₁.heap _
    rw [e0]
    have hv' : z1 = (own_min p0 p1) := by
      subst_vars
      unfold own_min
      first | rfl | ((repeat' split) <;> first | rfl | contradiction) | simp [nar, *]
    have hv : (some (.int z1) : Option Value) = some (.int (own_min p0 p1)) := congrArg (fun z => (some (.int z) : Option Value)) hv'
    exact ⟨hv, N0, rfl⟩
  show Run _ _ _ _ _ _ _ s₁ (mkF m 2 #[.val (.int p0), .val (.int p1)] [(.int p1), (.int p0)])
  by_cases hc2 : p1 < p0
  · refine go (T' := s₁) (f' := (mkF m 9 #[.val (.int p0), .val (.int p1)] [])) (by intro t k; exact XS.icmpYes X0.here hx rfl (pc0 := 2) (pc' := 9) rfl (hb hby d11_2) rfl (tlt hc2).2.2.1 (by decide) (by decide) k) ?_
    show Run _ _ _ _ _ _ _ s₁ (mkF m 9 #[.val (.int p0), .val (.int p1)] [])
    refine go (T' := s₁) (f' := (mkF m 10 #[.val (.int p0), .val (.int p1)] [(.int p1)])) (by intro t k; exact XS.iloadN X0.here hx rfl (hb hby d11_9) rfl k) ?_
    have ez1 : z1 = p1 := (hz1).trans (if_pos hc2)
    subst ez1
    exact J2
  · refine go (T' := s₁) (f' := (mkF m 5 #[.val (.int p0), .val (.int p1)] [])) (by intro t k; exact XS.icmpNo X0.here hx rfl (hb hby d11_2) rfl (flt hc2).2.2.1 k) ?_
    show Run _ _ _ _ _ _ _ s₁ (mkF m 5 #[.val (.int p0), .val (.int p1)] [])
    refine go (T' := s₁) (f' := (mkF m 6 #[.val (.int p0), .val (.int p1)] [(.int p0)])) (by intro t k; exact XS.iloadN X0.here hx rfl (hb hby d11_5) rfl k) ?_
    show Run _ _ _ _ _ _ _ s₁ (mkF m 6 #[.val (.int p0), .val (.int p1)] [(.int p0)])
    refine go (T' := s₁) (f' := (mkF m 10 #[.val (.int p0), .val (.int p1)] [(.int p0)])) (by intro t k; exact XS.goto X0.here hx rfl (pc0 := 6) (pc' := 10) rfl (hb hby d11_6) (by decide) (by decide) k) ?_
    have ez1 : z1 = p0 := (hz1).trans (if_neg hc2)
    subst ez1
    exact J2
def own_can (p0 : Int32) : Int32 := (if p0 < (0 : Int32) then (0 : Int32) else (if (255 : Int32) < p0 then (0 : Int32) else (1 : Int32)))
theorem d9_0 : decode jdk_43_method_4_code 0 = .ok (.iload_n 0, 1) := by decide +kernel
theorem d9_1 : decode jdk_43_method_4_code 1 = .ok (.ifCond .lt 14, 3) := by decide +kernel
theorem d9_15 : decode jdk_43_method_4_code 15 = .ok (.iconst 0, 1) := by decide +kernel
theorem d9_4 : decode jdk_43_method_4_code 4 = .ok (.iload_n 0, 1) := by decide +kernel
theorem d9_5 : decode jdk_43_method_4_code 5 = .ok (.sipush 255, 3) := by decide +kernel
theorem d9_8 : decode jdk_43_method_4_code 8 = .ok (.if_icmp .gt 7, 3) := by decide +kernel
theorem d9_11 : decode jdk_43_method_4_code 11 = .ok (.iconst 1, 1) := by decide +kernel
theorem d9_12 : decode jdk_43_method_4_code 12 = .ok (.goto 4, 3) := by decide +kernel
theorem d9_16 : decode jdk_43_method_4_code 16 = .ok (.ireturn, 1) := by decide +kernel
theorem pn_9 : plainName "java/lang/StringLatin1" = true := by first | (simp [plainName, overriddenIn]; done) | decide +kernel
theorem ef_9 (m : MethodId) (x0 : Int32) : entryFrame m #[(.int x0)] 1 = mkF m 0 #[.val (.int x0)] [] := by first | (simp [entryFrame, mkF, argsToLocals, Value.category]; done) | rfl
def Q9 (Z : State) (p0 : Int32) (h0 : Heap) (n0 : Nat) (v : Option Value) (h : Heap) (L : List Loc) : Prop := v = some (.int (own_can p0)) ∧ Fr n0 L ∧ h = h0
set_option maxRecDepth 65536 in
set_option maxHeartbeats 40000000 in
theorem rm9 (l : Launch) (Z : State) (aw : Array Value) (hw : ∀ d ∈ tables_1, d.before aw Z = true) (ws : List Jvm.Cond) (p0 : Int32) (h0 : Heap) (n0 : Nat) (Z0 : n0 ≤ h0.size) :
    MetFree l (⟨"java/lang/StringLatin1", "canEncode", "(I)Z"⟩ : MethodName) (head1 (Jvm.Cond.code (⟨"java/lang/StringLatin1", "canEncode", "(I)Z"⟩ : MethodName) jdk_43_method_4_code 1 (some .boolean) :: ws) ({ frames := 0, cells := 0, slots := 0, locals := 0 } : Room)) (fun a U => a = #[(.int p0)] ∧ Z.Warmed39 U.vm ∧ U.heap = h0) (fun _ _ _ _ _ => True) (fun _ U o U' => ∃ v L, o = .returned v ∧ Q9 Z p0 h0 n0 v U'.heap L ∧ FrameEnd U o U' L ({ frames := 0, cells := 0, slots := 0, locals := 0 } : Room).cells ({ frames := 0, cells := 0, slots := 0, locals := 0 } : Room).slots) := by
  refine MetFree.of_bodySF (plainFor_of_name pn_9) hisR ?_
  intro p e s m args below meth c s₁ Bd hml0 hP hK
  obtain ⟨rfl, hZ, hh⟩ := hP
  have hx := Bd.exec
  have hby := Bd.bytes
  have hml : c.maxLocals = 1 := hml0
  have hown : s.vm.findClass "java/lang/StringLatin1" = some m.cls := findClass_of_methodNamed Bd.named
  have hnm := (name_of_methodNamed Bd.named Bd.method).1
  have hlk : meth.locks = false := BodyLoose.notSynchronized Bd
  have X0 : Stand p l e ({ frames := 0, cells := 0, slots := 0, locals := 0 } : Room) s m #[(.int p0)] below meth c s₁ [] 0 0 := Stand.of_body Bd
  have e0 : s₁.heap = h0 := by rw [← hh, Bd.state]; rfl
  have N0 := Fr.nil n0
  show Run p e s below (Q9 Z p0 h0 n0) ({ frames := 0, cells := 0, slots := 0, locals := 0 } : Room).cells ({ frames := 0, cells := 0, slots := 0, locals := 0 } : Room).slots s₁ (entryFrame m #[(.int p0)] 1)
  rw [ef_9]
  show Run _ _ _ _ _ _ _ s₁ (mkF m 0 #[.val (.int p0)] [])
  refine go (T' := s₁) (f' := (mkF m 1 #[.val (.int p0)] [(.int p0)])) (by intro t k; exact XS.iloadN X0.here hx rfl (hb hby d9_0) rfl k) ?_
  show Run _ _ _ _ _ _ _ s₁ (mkF m 1 #[.val (.int p0)] [(.int p0)])
  obtain ⟨z1, hz1⟩ : ∃ z : Int32, z = (if p0 < (0 : Int32) then (0 : Int32) else (if (255 : Int32) < p0 then (0 : Int32) else (1 : Int32))) := ⟨_, rfl⟩
  have J1 : Run p e s below (Q9 Z p0 h0 n0) ({ frames := 0, cells := 0, slots := 0, locals := 0 } : Room).cells ({ frames := 0, cells := 0, slots := 0, locals := 0 } : Room).slots s₁ (mkF m 16 #[.val (.int p0)] [(.int z1)]) := by
    show Run _ _ _ _ _ _ _ s₁ (mkF m 16 #[.val (.int p0)] [(.int z1)])
    refine retZ X0 hx (t := .boolean) Bd.returns (by simp) (hb hby d9_16) hlk (by decide) (by decide) ?_
    show Q9 Z p0 h0 n0 _ s₁.heap _
    rw [e0]
    have hv' : (nar .boolean z1) = (own_can p0) := by
      subst_vars
      unfold own_can
      first | rfl | ((repeat' split) <;> first | rfl | contradiction) | simp [nar, *]
    have hv : (some (.int (nar .boolean z1)) : Option Value) = some (.int (own_can p0)) := congrArg (fun z => (some (.int z) : Option Value)) hv'
    exact ⟨hv, N0, rfl⟩
  show Run _ _ _ _ _ _ _ s₁ (mkF m 1 #[.val (.int p0)] [(.int p0)])
  by_cases hc1 : p0 < (0 : Int32)
  · refine go (T' := s₁) (f' := (mkF m 15 #[.val (.int p0)] [])) (by intro t k; exact XS.ifYes X0.here hx rfl (pc0 := 1) (pc' := 15) rfl (hb hby d9_1) rfl ((if0 _ _).trans (tlt hc1).1) (by decide) (by decide) k) ?_
    show Run _ _ _ _ _ _ _ s₁ (mkF m 15 #[.val (.int p0)] [])
    refine go (T' := s₁) (f' := (mkF m 16 #[.val (.int p0)] [(.int (0 : Int32))])) (by intro t k; exact XS.iconst X0.here hx rfl (hb hby d9_15) k) ?_
    have ez1 : z1 = (0 : Int32) := (hz1).trans (if_pos hc1)
    subst ez1
    exact J1
  · refine go (T' := s₁) (f' := (mkF m 4 #[.val (.int p0)] [])) (by intro t k; exact XS.ifNo X0.here hx rfl (hb hby d9_1) rfl ((if0 _ _).trans (flt hc1).1) k) ?_
    show Run _ _ _ _ _ _ _ s₁ (mkF m 4 #[.val (.int p0)] [])
    refine go (T' := s₁) (f' := (mkF m 5 #[.val (.int p0)] [(.int p0)])) (by intro t k; exact XS.iloadN X0.here hx rfl (hb hby d9_4) rfl k) ?_
    show Run _ _ _ _ _ _ _ s₁ (mkF m 5 #[.val (.int p0)] [(.int p0)])
    refine go (T' := s₁) (f' := (mkF m 8 #[.val (.int p0)] [(.int (255 : Int32)), (.int p0)])) (by intro t k; exact XS.sipush X0.here hx rfl (hb hby d9_5) k) ?_
    show Run _ _ _ _ _ _ _ s₁ (mkF m 8 #[.val (.int p0)] [(.int (255 : Int32)), (.int p0)])
    by_cases hc8 : (255 : Int32) < p0
    · refine go (T' := s₁) (f' := (mkF m 15 #[.val (.int p0)] [])) (by intro t k; exact XS.icmpYes X0.here hx rfl (pc0 := 8) (pc' := 15) rfl (hb hby d9_8) rfl (tlt hc8).2.2.1 (by decide) (by decide) k) ?_
      show Run _ _ _ _ _ _ _ s₁ (mkF m 15 #[.val (.int p0)] [])
      refine go (T' := s₁) (f' := (mkF m 16 #[.val (.int p0)] [(.int (0 : Int32))])) (by intro t k; exact XS.iconst X0.here hx rfl (hb hby d9_15) k) ?_
      have ez1 : z1 = (0 : Int32) := ((hz1).trans (if_neg hc1)).trans (if_pos hc8)
      subst ez1
      exact J1
    · refine go (T' := s₁) (f' := (mkF m 11 #[.val (.int p0)] [])) (by intro t k; exact XS.icmpNo X0.here hx rfl (hb hby d9_8) rfl (flt hc8).2.2.1 k) ?_
      show Run _ _ _ _ _ _ _ s₁ (mkF m 11 #[.val (.int p0)] [])
      refine go (T' := s₁) (f' := (mkF m 12 #[.val (.int p0)] [(.int (1 : Int32))])) (by intro t k; exact XS.iconst X0.here hx rfl (hb hby d9_11) k) ?_
      show Run _ _ _ _ _ _ _ s₁ (mkF m 12 #[.val (.int p0)] [(.int (1 : Int32))])
      refine go (T' := s₁) (f' := (mkF m 16 #[.val (.int p0)] [(.int (1 : Int32))])) (by intro t k; exact XS.goto X0.here hx rfl (pc0 := 12) (pc' := 16) rfl (hb hby d9_12) (by decide) (by decide) k) ?_
      have ez1 : z1 = (1 : Int32) := ((hz1).trans (if_neg hc1)).trans (if_neg hc8)
      subst ez1
      exact J1
def own_ix (p : Int32) : Int32 := if (60 : Int32) = p.toInt8.toInt32 then 0 else if (62 : Int32) = p.toInt8.toInt32 then 1 else if (34 : Int32) = p.toInt8.toInt32 then 2 else if (123 : Int32) = p.toInt8.toInt32 then 3 else if (125 : Int32) = p.toInt8.toInt32 then 4 else if (124 : Int32) = p.toInt8.toInt32 then 5 else if (94 : Int32) = p.toInt8.toInt32 then 6 else if (96 : Int32) = p.toInt8.toInt32 then 7 else if (92 : Int32) = p.toInt8.toInt32 then 8 else (-1)
def own_li (p : Int32) : Int32 := if own_can p = 0 then (-1) else own_ix p
def own_iri (p : Int32) : Int32 := if (32 : Int32) < p then (if own_li p < 0 then 1 else 0) else 0
theorem d12_0 : decode jdk_43_method_23_code 0 = .ok (.iload_n 1, 1) := by decide +kernel
theorem d12_1 : decode jdk_43_method_23_code 1 = .ok (.i2b, 1) := by decide +kernel
theorem d12_2 : decode jdk_43_method_23_code 2 = .ok (.istore 4, 2) := by decide +kernel
theorem d12_4 : decode jdk_43_method_23_code 4 = .ok (.iload_n 2, 1) := by decide +kernel
theorem d12_5 : decode jdk_43_method_23_code 5 = .ok (.istore 5, 2) := by decide +kernel
theorem d12_7 : decode jdk_43_method_23_code 7 = .ok (.iload 5, 2) := by decide +kernel
theorem d12_9 : decode jdk_43_method_23_code 9 = .ok (.iload_n 3, 1) := by decide +kernel
theorem d12_10 : decode jdk_43_method_23_code 10 = .ok (.if_icmp .ge 21, 3) := by decide +kernel
theorem d12_13 : decode jdk_43_method_23_code 13 = .ok (.aload_n 0, 1) := by decide +kernel
theorem d12_14 : decode jdk_43_method_23_code 14 = .ok (.iload 5, 2) := by decide +kernel
theorem d12_16 : decode jdk_43_method_23_code 16 = .ok (.baload, 1) := by decide +kernel
theorem d12_17 : decode jdk_43_method_23_code 17 = .ok (.iload 4, 2) := by decide +kernel
theorem d12_19 : decode jdk_43_method_23_code 19 = .ok (.if_icmp .ne 6, 3) := by decide +kernel
theorem d12_22 : decode jdk_43_method_23_code 22 = .ok (.iload 5, 2) := by decide +kernel
theorem d12_24 : decode jdk_43_method_23_code 24 = .ok (.ireturn, 1) := by decide +kernel
theorem d12_25 : decode jdk_43_method_23_code 25 = .ok (.iinc 5 1, 3) := by decide +kernel
theorem d12_28 : decode jdk_43_method_23_code 28 = .ok (.goto (-21), 3) := by decide +kernel
theorem d12_31 : decode jdk_43_method_23_code 31 = .ok (.iconst (-1), 1) := by decide +kernel
theorem d12_32 : decode jdk_43_method_23_code 32 = .ok (.ireturn, 1) := by decide +kernel
theorem ef_12 (m : MethodId) (x0 : Addr) (x1 : Int32) : entryFrame m #[(.ref x0), (.int x1), (.int (0 : Int32)), (.int (9 : Int32))] 6 = mkF m 0 #[.val (.ref x0), .val (.int x1), .val (.int (0 : Int32)), .val (.int (9 : Int32)), .unset, .unset] [] := by first | (simp [entryFrame, mkF, argsToLocals, Value.category]; done) | rfl
def Q12 (Z : State) (a0 : Addr) (p1 : Int32) (h0 : Heap) (n0 : Nat) (v : Option Value) (h : Heap) (L : List Loc) : Prop := v = some (.int (own_ix p1)) ∧ Fr n0 L ∧ h = h0
set_option maxRecDepth 65536 in
set_option maxHeartbeats 40000000 in
theorem rm12 (l : Launch) (Z : State) (aw : Array Value) (hw : ∀ d ∈ tables_1, d.before aw Z = true) (ws : List Jvm.Cond) (a0 : Addr) (p1 : Int32) (h0 : Heap) (n0 : Nat) (Z0 : n0 ≤ h0.size) (A_a0 : Ary Z h0 a0 .byte [(.int (60 : Int32)), (.int (62 : Int32)), (.int (34 : Int32)), (.int (123 : Int32)), (.int (125 : Int32)), (.int (124 : Int32)), (.int (94 : Int32)), (.int (96 : Int32)), (.int (92 : Int32))]) :
    MetFree l (⟨"java/lang/StringLatin1", "indexOfChar", "([BIII)I"⟩ : MethodName) (head1 (Jvm.Cond.code (⟨"java/lang/StringLatin1", "indexOfChar", "([BIII)I"⟩ : MethodName) jdk_43_method_23_code 6 (some .int) :: ws) ({ frames := 0, cells := 0, slots := 0, locals := 0 } : Room)) (fun a U => a = #[(.ref a0), (.int p1), (.int (0 : Int32)), (.int (9 : Int32))] ∧ Z.Warmed39 U.vm ∧ U.heap = h0) (fun _ _ _ _ _ => True) (fun _ U o U' => ∃ v L, o = .returned v ∧ Q12 Z a0 p1 h0 n0 v U'.heap L ∧ FrameEnd U o U' L ({ frames := 0, cells := 0, slots := 0, locals := 0 } : Room).cells ({ frames := 0, cells := 0, slots := 0, locals := 0 } : Room).slots) := by
  refine MetFree.of_bodySF (plainFor_of_name pn_9) hisR ?_
  intro p e s m args below meth c s₁ Bd hml0 hP hK
  obtain ⟨rfl, hZ, hh⟩ := hP
  have hx := Bd.exec
  have hby := Bd.bytes
  have hml : c.maxLocals = 6 := hml0
  have hown : s.vm.findClass "java/lang/StringLatin1" = some m.cls := findClass_of_methodNamed Bd.named
  have hnm := (name_of_methodNamed Bd.named Bd.method).1
  have hlk : meth.locks = false := BodyLoose.notSynchronized Bd
  have X0 : Stand p l e ({ frames := 0, cells := 0, slots := 0, locals := 0 } : Room) s m #[(.ref a0), (.int p1), (.int (0 : Int32)), (.int (9 : Int32))] below meth c s₁ [] 0 0 := Stand.of_body Bd
  have e0 : s₁.heap = h0 := by rw [← hh, Bd.state]; rfl
  have N0 := Fr.nil n0
  show Run p e s below (Q12 Z a0 p1 h0 n0) ({ frames := 0, cells := 0, slots := 0, locals := 0 } : Room).cells ({ frames := 0, cells := 0, slots := 0, locals := 0 } : Room).slots s₁ (entryFrame m #[(.ref a0), (.int p1), (.int (0 : Int32)), (.int (9 : Int32))] 6)
  rw [ef_12]
  show Run _ _ _ _ _ _ _ s₁ (mkF m 0 #[.val (.ref a0), .val (.int p1), .val (.int (0 : Int32)), .val (.int (9 : Int32)), .unset, .unset] [])
  refine go (T' := s₁) (f' := (mkF m 1 #[.val (.ref a0), .val (.int p1), .val (.int (0 : Int32)), .val (.int (9 : Int32)), .unset, .unset] [(.int p1)])) (by intro t k; exact XS.iloadN X0.here hx rfl (hb hby d12_0) rfl k) ?_
  show Run _ _ _ _ _ _ _ s₁ (mkF m 1 #[.val (.ref a0), .val (.int p1), .val (.int (0 : Int32)), .val (.int (9 : Int32)), .unset, .unset] [(.int p1)])
  refine go (T' := s₁) (f' := (mkF m 2 #[.val (.ref a0), .val (.int p1), .val (.int (0 : Int32)), .val (.int (9 : Int32)), .unset, .unset] [(.int ((p1).toInt8.toInt32))])) (by intro t k; exact XS.i2b X0.here hx rfl (hb hby d12_1) rfl k) ?_
  show Run _ _ _ _ _ _ _ s₁ (mkF m 2 #[.val (.ref a0), .val (.int p1), .val (.int (0 : Int32)), .val (.int (9 : Int32)), .unset, .unset] [(.int ((p1).toInt8.toInt32))])
  refine go (T' := s₁) (f' := (mkF m 4 #[.val (.ref a0), .val (.int p1), .val (.int (0 : Int32)), .val (.int (9 : Int32)), .val (.int ((p1).toInt8.toInt32)), .unset] [])) (by intro t k; exact XS.istore X0.here hx rfl (hb hby d12_2) rfl (l' := #[.val (.ref a0), .val (.int p1), .val (.int (0 : Int32)), .val (.int (9 : Int32)), .val (.int ((p1).toInt8.toInt32)), .unset]) rfl k) ?_
  show Run _ _ _ _ _ _ _ s₁ (mkF m 4 #[.val (.ref a0), .val (.int p1), .val (.int (0 : Int32)), .val (.int (9 : Int32)), .val (.int ((p1).toInt8.toInt32)), .unset] [])
  refine go (T' := s₁) (f' := (mkF m 5 #[.val (.ref a0), .val (.int p1), .val (.int (0 : Int32)), .val (.int (9 : Int32)), .val (.int ((p1).toInt8.toInt32)), .unset] [(.int (0 : Int32))])) (by intro t k; exact XS.iloadN X0.here hx rfl (hb hby d12_4) rfl k) ?_
  show Run _ _ _ _ _ _ _ s₁ (mkF m 5 #[.val (.ref a0), .val (.int p1), .val (.int (0 : Int32)), .val (.int (9 : Int32)), .val (.int ((p1).toInt8.toInt32)), .unset] [(.int (0 : Int32))])
  refine go (T' := s₁) (f' := (mkF m 7 #[.val (.ref a0), .val (.int p1), .val (.int (0 : Int32)), .val (.int (9 : Int32)), .val (.int ((p1).toInt8.toInt32)), .val (.int (0 : Int32))] [])) (by intro t k; exact XS.istore X0.here hx rfl (hb hby d12_5) rfl (l' := #[.val (.ref a0), .val (.int p1), .val (.int (0 : Int32)), .val (.int (9 : Int32)), .val (.int ((p1).toInt8.toInt32)), .val (.int (0 : Int32))]) rfl k) ?_
  show Run _ _ _ _ _ _ _ s₁ (mkF m 7 #[.val (.ref a0), .val (.int p1), .val (.int (0 : Int32)), .val (.int (9 : Int32)), .val (.int ((p1).toInt8.toInt32)), .val (.int (0 : Int32))] [])
  refine go (T' := s₁) (f' := (mkF m 9 #[.val (.ref a0), .val (.int p1), .val (.int (0 : Int32)), .val (.int (9 : Int32)), .val (.int ((p1).toInt8.toInt32)), .val (.int (0 : Int32))] [(.int (0 : Int32))])) (by intro t k; exact XS.iload X0.here hx rfl (hb hby d12_7) rfl k) ?_
  show Run _ _ _ _ _ _ _ s₁ (mkF m 9 #[.val (.ref a0), .val (.int p1), .val (.int (0 : Int32)), .val (.int (9 : Int32)), .val (.int ((p1).toInt8.toInt32)), .val (.int (0 : Int32))] [(.int (0 : Int32))])
  refine go (T' := s₁) (f' := (mkF m 10 #[.val (.ref a0), .val (.int p1), .val (.int (0 : Int32)), .val (.int (9 : Int32)), .val (.int ((p1).toInt8.toInt32)), .val (.int (0 : Int32))] [(.int (9 : Int32)), (.int (0 : Int32))])) (by intro t k; exact XS.iloadN X0.here hx rfl (hb hby d12_9) rfl k) ?_
  show Run _ _ _ _ _ _ _ s₁ (mkF m 10 #[.val (.ref a0), .val (.int p1), .val (.int (0 : Int32)), .val (.int (9 : Int32)), .val (.int ((p1).toInt8.toInt32)), .val (.int (0 : Int32))] [(.int (9 : Int32)), (.int (0 : Int32))])
  refine go (T' := s₁) (f' := (mkF m 13 #[.val (.ref a0), .val (.int p1), .val (.int (0 : Int32)), .val (.int (9 : Int32)), .val (.int ((p1).toInt8.toInt32)), .val (.int (0 : Int32))] [])) (by intro t k; exact XS.icmpNo X0.here hx rfl (hb hby d12_10) rfl (tlt (by decide : (0 : Int32) < (9 : Int32))).2.1 k) ?_
  show Run _ _ _ _ _ _ _ s₁ (mkF m 13 #[.val (.ref a0), .val (.int p1), .val (.int (0 : Int32)), .val (.int (9 : Int32)), .val (.int ((p1).toInt8.toInt32)), .val (.int (0 : Int32))] [])
  refine go (T' := s₁) (f' := (mkF m 14 #[.val (.ref a0), .val (.int p1), .val (.int (0 : Int32)), .val (.int (9 : Int32)), .val (.int ((p1).toInt8.toInt32)), .val (.int (0 : Int32))] [(.ref a0)])) (by intro t k; exact XS.aloadN X0.here hx rfl (hb hby d12_13) rfl rfl k) ?_
  show Run _ _ _ _ _ _ _ s₁ (mkF m 14 #[.val (.ref a0), .val (.int p1), .val (.int (0 : Int32)), .val (.int (9 : Int32)), .val (.int ((p1).toInt8.toInt32)), .val (.int (0 : Int32))] [(.ref a0)])
  refine go (T' := s₁) (f' := (mkF m 16 #[.val (.ref a0), .val (.int p1), .val (.int (0 : Int32)), .val (.int (9 : Int32)), .val (.int ((p1).toInt8.toInt32)), .val (.int (0 : Int32))] [(.int (0 : Int32)), (.ref a0)])) (by intro t k; exact XS.iload X0.here hx rfl (hb hby d12_14) rfl k) ?_
  show Run _ _ _ _ _ _ _ s₁ (mkF m 16 #[.val (.ref a0), .val (.int p1), .val (.int (0 : Int32)), .val (.int (9 : Int32)), .val (.int ((p1).toInt8.toInt32)), .val (.int (0 : Int32))] [(.int (0 : Int32)), (.ref a0)])
  refine go (T' := s₁) (f' := (mkF m 17 #[.val (.ref a0), .val (.int p1), .val (.int (0 : Int32)), .val (.int (9 : Int32)), .val (.int ((p1).toInt8.toInt32)), .val (.int (0 : Int32))] [(.int (60 : Int32))])) (by intro t k; exact ldB X0 hx hZ e0 A_a0 (j := (0 : Int32)) (v := (.int (60 : Int32))) (by decide) rfl (g := (mkF m 16 #[.val (.ref a0), .val (.int p1), .val (.int (0 : Int32)), .val (.int (9 : Int32)), .val (.int ((p1).toInt8.toInt32)), .val (.int (0 : Int32))] [(.int (0 : Int32)), (.ref a0)])) rfl rfl (hb hby d12_16) _ k) ?_
  show Run _ _ _ _ _ _ _ s₁ (mkF m 17 #[.val (.ref a0), .val (.int p1), .val (.int (0 : Int32)), .val (.int (9 : Int32)), .val (.int ((p1).toInt8.toInt32)), .val (.int (0 : Int32))] [(.int (60 : Int32))])
  refine go (T' := s₁) (f' := (mkF m 19 #[.val (.ref a0), .val (.int p1), .val (.int (0 : Int32)), .val (.int (9 : Int32)), .val (.int ((p1).toInt8.toInt32)), .val (.int (0 : Int32))] [(.int ((p1).toInt8.toInt32)), (.int (60 : Int32))])) (by intro t k; exact XS.iload X0.here hx rfl (hb hby d12_17) rfl k) ?_
  show Run _ _ _ _ _ _ _ s₁ (mkF m 19 #[.val (.ref a0), .val (.int p1), .val (.int (0 : Int32)), .val (.int (9 : Int32)), .val (.int ((p1).toInt8.toInt32)), .val (.int (0 : Int32))] [(.int ((p1).toInt8.toInt32)), (.int (60 : Int32))])
  by_cases hc19 : (60 : Int32) = ((p1).toInt8.toInt32)
  · refine go (T' := s₁) (f' := (mkF m 22 #[.val (.ref a0), .val (.int p1), .val (.int (0 : Int32)), .val (.int (9 : Int32)), .val (.int ((p1).toInt8.toInt32)), .val (.int (0 : Int32))] [])) (by intro t k; exact XS.icmpNo X0.here hx rfl (hb hby d12_19) rfl (teq hc19).2 k) ?_
    show Run _ _ _ _ _ _ _ s₁ (mkF m 22 #[.val (.ref a0), .val (.int p1), .val (.int (0 : Int32)), .val (.int (9 : Int32)), .val (.int ((p1).toInt8.toInt32)), .val (.int (0 : Int32))] [])
    refine go (T' := s₁) (f' := (mkF m 24 #[.val (.ref a0), .val (.int p1), .val (.int (0 : Int32)), .val (.int (9 : Int32)), .val (.int ((p1).toInt8.toInt32)), .val (.int (0 : Int32))] [(.int (0 : Int32))])) (by intro t k; exact XS.iload X0.here hx rfl (hb hby d12_22) rfl k) ?_
    show Run _ _ _ _ _ _ _ s₁ (mkF m 24 #[.val (.ref a0), .val (.int p1), .val (.int (0 : Int32)), .val (.int (9 : Int32)), .val (.int ((p1).toInt8.toInt32)), .val (.int (0 : Int32))] [(.int (0 : Int32))])
    refine retW X0 hx (t := .int) Bd.returns rfl (Or.inl ⟨rfl, Or.inl rfl, _, rfl⟩) (hb hby d12_24) hlk (by decide) (by decide) ?_
    show Q12 Z a0 p1 h0 n0 _ s₁.heap _
    rw [e0]
    have hv' : (0 : Int32) = (own_ix p1) := by
      unfold own_ix
      (repeat' split) <;> first | rfl | contradiction
    have hv : (some (.int (0 : Int32)) : Option Value) = some (.int (own_ix p1)) := congrArg (fun z => (some (.int z) : Option Value)) hv'
    exact ⟨hv, N0, rfl⟩
  · refine go (T' := s₁) (f' := (mkF m 25 #[.val (.ref a0), .val (.int p1), .val (.int (0 : Int32)), .val (.int (9 : Int32)), .val (.int ((p1).toInt8.toInt32)), .val (.int (0 : Int32))] [])) (by intro t k; exact XS.icmpYes X0.here hx rfl (pc0 := 19) (pc' := 25) rfl (hb hby d12_19) rfl (feq hc19).2 (by decide) (by decide) k) ?_
    show Run _ _ _ _ _ _ _ s₁ (mkF m 25 #[.val (.ref a0), .val (.int p1), .val (.int (0 : Int32)), .val (.int (9 : Int32)), .val (.int ((p1).toInt8.toInt32)), .val (.int (0 : Int32))] [])
    refine go (T' := s₁) (f' := (mkF m 28 #[.val (.ref a0), .val (.int p1), .val (.int (0 : Int32)), .val (.int (9 : Int32)), .val (.int ((p1).toInt8.toInt32)), .val (.int (1 : Int32))] [])) (by intro t k; exact XS.iinc X0.here hx rfl (hb hby d12_25) rfl (l' := #[.val (.ref a0), .val (.int p1), .val (.int (0 : Int32)), .val (.int (9 : Int32)), .val (.int ((p1).toInt8.toInt32)), .val (.int (1 : Int32))]) rfl k) ?_
    show Run _ _ _ _ _ _ _ s₁ (mkF m 28 #[.val (.ref a0), .val (.int p1), .val (.int (0 : Int32)), .val (.int (9 : Int32)), .val (.int ((p1).toInt8.toInt32)), .val (.int (1 : Int32))] [])
    refine go (T' := s₁) (f' := (mkF m 7 #[.val (.ref a0), .val (.int p1), .val (.int (0 : Int32)), .val (.int (9 : Int32)), .val (.int ((p1).toInt8.toInt32)), .val (.int (1 : Int32))] [])) (by intro t k; exact XS.goto X0.here hx rfl (pc0 := 28) (pc' := 7) rfl (hb hby d12_28) (by decide) (by decide) k) ?_
    show Run _ _ _ _ _ _ _ s₁ (mkF m 7 #[.val (.ref a0), .val (.int p1), .val (.int (0 : Int32)), .val (.int (9 : Int32)), .val (.int ((p1).toInt8.toInt32)), .val (.int (1 : Int32))] [])
    refine go (T' := s₁) (f' := (mkF m 9 #[.val (.ref a0), .val (.int p1), .val (.int (0 : Int32)), .val (.int (9 : Int32)), .val (.int ((p1).toInt8.toInt32)), .val (.int (1 : Int32))] [(.int (1 : Int32))])) (by intro t k; exact XS.iload X0.here hx rfl (hb hby d12_7) rfl k) ?_
    show Run _ _ _ _ _ _ _ s₁ (mkF m 9 #[.val (.ref a0), .val (.int p1), .val (.int (0 : Int32)), .val (.int (9 : Int32)), .val (.int ((p1).toInt8.toInt32)), .val (.int (1 : Int32))] [(.int (1 : Int32))])
    refine go (T' := s₁) (f' := (mkF m 10 #[.val (.ref a0), .val (.int p1), .val (.int (0 : Int32)), .val (.int (9 : Int32)), .val (.int ((p1).toInt8.toInt32)), .val (.int (1 : Int32))] [(.int (9 : Int32)), (.int (1 : Int32))])) (by intro t k; exact XS.iloadN X0.here hx rfl (hb hby d12_9) rfl k) ?_
    show Run _ _ _ _ _ _ _ s₁ (mkF m 10 #[.val (.ref a0), .val (.int p1), .val (.int (0 : Int32)), .val (.int (9 : Int32)), .val (.int ((p1).toInt8.toInt32)), .val (.int (1 : Int32))] [(.int (9 : Int32)), (.int (1 : Int32))])
    refine go (T' := s₁) (f' := (mkF m 13 #[.val (.ref a0), .val (.int p1), .val (.int (0 : Int32)), .val (.int (9 : Int32)), .val (.int ((p1).toInt8.toInt32)), .val (.int (1 : Int32))] [])) (by intro t k; exact XS.icmpNo X0.here hx rfl (hb hby d12_10) rfl (tlt (by decide : (1 : Int32) < (9 : Int32))).2.1 k) ?_
    show Run _ _ _ _ _ _ _ s₁ (mkF m 13 #[.val (.ref a0), .val (.int p1), .val (.int (0 : Int32)), .val (.int (9 : Int32)), .val (.int ((p1).toInt8.toInt32)), .val (.int (1 : Int32))] [])
    refine go (T' := s₁) (f' := (mkF m 14 #[.val (.ref a0), .val (.int p1), .val (.int (0 : Int32)), .val (.int (9 : Int32)), .val (.int ((p1).toInt8.toInt32)), .val (.int (1 : Int32))] [(.ref a0)])) (by intro t k; exact XS.aloadN X0.here hx rfl (hb hby d12_13) rfl rfl k) ?_
    show Run _ _ _ _ _ _ _ s₁ (mkF m 14 #[.val (.ref a0), .val (.int p1), .val (.int (0 : Int32)), .val (.int (9 : Int32)), .val (.int ((p1).toInt8.toInt32)), .val (.int (1 : Int32))] [(.ref a0)])
    refine go (T' := s₁) (f' := (mkF m 16 #[.val (.ref a0), .val (.int p1), .val (.int (0 : Int32)), .val (.int (9 : Int32)), .val (.int ((p1).toInt8.toInt32)), .val (.int (1 : Int32))] [(.int (1 : Int32)), (.ref a0)])) (by intro t k; exact XS.iload X0.here hx rfl (hb hby d12_14) rfl k) ?_
    show Run _ _ _ _ _ _ _ s₁ (mkF m 16 #[.val (.ref a0), .val (.int p1), .val (.int (0 : Int32)), .val (.int (9 : Int32)), .val (.int ((p1).toInt8.toInt32)), .val (.int (1 : Int32))] [(.int (1 : Int32)), (.ref a0)])
    refine go (T' := s₁) (f' := (mkF m 17 #[.val (.ref a0), .val (.int p1), .val (.int (0 : Int32)), .val (.int (9 : Int32)), .val (.int ((p1).toInt8.toInt32)), .val (.int (1 : Int32))] [(.int (62 : Int32))])) (by intro t k; exact ldB X0 hx hZ e0 A_a0 (j := (1 : Int32)) (v := (.int (62 : Int32))) (by decide) rfl (g := (mkF m 16 #[.val (.ref a0), .val (.int p1), .val (.int (0 : Int32)), .val (.int (9 : Int32)), .val (.int ((p1).toInt8.toInt32)), .val (.int (1 : Int32))] [(.int (1 : Int32)), (.ref a0)])) rfl rfl (hb hby d12_16) _ k) ?_
    show Run _ _ _ _ _ _ _ s₁ (mkF m 17 #[.val (.ref a0), .val (.int p1), .val (.int (0 : Int32)), .val (.int (9 : Int32)), .val (.int ((p1).toInt8.toInt32)), .val (.int (1 : Int32))] [(.int (62 : Int32))])
    refine go (T' := s₁) (f' := (mkF m 19 #[.val (.ref a0), .val (.int p1), .val (.int (0 : Int32)), .val (.int (9 : Int32)), .val (.int ((p1).toInt8.toInt32)), .val (.int (1 : Int32))] [(.int ((p1).toInt8.toInt32)), (.int (62 : Int32))])) (by intro t k; exact XS.iload X0.here hx rfl (hb hby d12_17) rfl k) ?_
    show Run _ _ _ _ _ _ _ s₁ (mkF m 19 #[.val (.ref a0), .val (.int p1), .val (.int (0 : Int32)), .val (.int (9 : Int32)), .val (.int ((p1).toInt8.toInt32)), .val (.int (1 : Int32))] [(.int ((p1).toInt8.toInt32)), (.int (62 : Int32))])
    by_cases hc19 : (62 : Int32) = ((p1).toInt8.toInt32)
    · refine go (T' := s₁) (f' := (mkF m 22 #[.val (.ref a0), .val (.int p1), .val (.int (0 : Int32)), .val (.int (9 : Int32)), .val (.int ((p1).toInt8.toInt32)), .val (.int (1 : Int32))] [])) (by intro t k; exact XS.icmpNo X0.here hx rfl (hb hby d12_19) rfl (teq hc19).2 k) ?_
      show Run _ _ _ _ _ _ _ s₁ (mkF m 22 #[.val (.ref a0), .val (.int p1), .val (.int (0 : Int32)), .val (.int (9 : Int32)), .val (.int ((p1).toInt8.toInt32)), .val (.int (1 : Int32))] [])
      refine go (T' := s₁) (f' := (mkF m 24 #[.val (.ref a0), .val (.int p1), .val (.int (0 : Int32)), .val (.int (9 : Int32)), .val (.int ((p1).toInt8.toInt32)), .val (.int (1 : Int32))] [(.int (1 : Int32))])) (by intro t k; exact XS.iload X0.here hx rfl (hb hby d12_22) rfl k) ?_
      show Run _ _ _ _ _ _ _ s₁ (mkF m 24 #[.val (.ref a0), .val (.int p1), .val (.int (0 : Int32)), .val (.int (9 : Int32)), .val (.int ((p1).toInt8.toInt32)), .val (.int (1 : Int32))] [(.int (1 : Int32))])
      refine retW X0 hx (t := .int) Bd.returns rfl (Or.inl ⟨rfl, Or.inl rfl, _, rfl⟩) (hb hby d12_24) hlk (by decide) (by decide) ?_
      show Q12 Z a0 p1 h0 n0 _ s₁.heap _
      rw [e0]
      have hv' : (1 : Int32) = (own_ix p1) := by
        unfold own_ix
        (repeat' split) <;> first | rfl | contradiction
      have hv : (some (.int (1 : Int32)) : Option Value) = some (.int (own_ix p1)) := congrArg (fun z => (some (.int z) : Option Value)) hv'
      exact ⟨hv, N0, rfl⟩
    · refine go (T' := s₁) (f' := (mkF m 25 #[.val (.ref a0), .val (.int p1), .val (.int (0 : Int32)), .val (.int (9 : Int32)), .val (.int ((p1).toInt8.toInt32)), .val (.int (1 : Int32))] [])) (by intro t k; exact XS.icmpYes X0.here hx rfl (pc0 := 19) (pc' := 25) rfl (hb hby d12_19) rfl (feq hc19).2 (by decide) (by decide) k) ?_
      show Run _ _ _ _ _ _ _ s₁ (mkF m 25 #[.val (.ref a0), .val (.int p1), .val (.int (0 : Int32)), .val (.int (9 : Int32)), .val (.int ((p1).toInt8.toInt32)), .val (.int (1 : Int32))] [])
      refine go (T' := s₁) (f' := (mkF m 28 #[.val (.ref a0), .val (.int p1), .val (.int (0 : Int32)), .val (.int (9 : Int32)), .val (.int ((p1).toInt8.toInt32)), .val (.int (2 : Int32))] [])) (by intro t k; exact XS.iinc X0.here hx rfl (hb hby d12_25) rfl (l' := #[.val (.ref a0), .val (.int p1), .val (.int (0 : Int32)), .val (.int (9 : Int32)), .val (.int ((p1).toInt8.toInt32)), .val (.int (2 : Int32))]) rfl k) ?_
      show Run _ _ _ _ _ _ _ s₁ (mkF m 28 #[.val (.ref a0), .val (.int p1), .val (.int (0 : Int32)), .val (.int (9 : Int32)), .val (.int ((p1).toInt8.toInt32)), .val (.int (2 : Int32))] [])
      refine go (T' := s₁) (f' := (mkF m 7 #[.val (.ref a0), .val (.int p1), .val (.int (0 : Int32)), .val (.int (9 : Int32)), .val (.int ((p1).toInt8.toInt32)), .val (.int (2 : Int32))] [])) (by intro t k; exact XS.goto X0.here hx rfl (pc0 := 28) (pc' := 7) rfl (hb hby d12_28) (by decide) (by decide) k) ?_
      show Run _ _ _ _ _ _ _ s₁ (mkF m 7 #[.val (.ref a0), .val (.int p1), .val (.int (0 : Int32)), .val (.int (9 : Int32)), .val (.int ((p1).toInt8.toInt32)), .val (.int (2 : Int32))] [])
      refine go (T' := s₁) (f' := (mkF m 9 #[.val (.ref a0), .val (.int p1), .val (.int (0 : Int32)), .val (.int (9 : Int32)), .val (.int ((p1).toInt8.toInt32)), .val (.int (2 : Int32))] [(.int (2 : Int32))])) (by intro t k; exact XS.iload X0.here hx rfl (hb hby d12_7) rfl k) ?_
      show Run _ _ _ _ _ _ _ s₁ (mkF m 9 #[.val (.ref a0), .val (.int p1), .val (.int (0 : Int32)), .val (.int (9 : Int32)), .val (.int ((p1).toInt8.toInt32)), .val (.int (2 : Int32))] [(.int (2 : Int32))])
      refine go (T' := s₁) (f' := (mkF m 10 #[.val (.ref a0), .val (.int p1), .val (.int (0 : Int32)), .val (.int (9 : Int32)), .val (.int ((p1).toInt8.toInt32)), .val (.int (2 : Int32))] [(.int (9 : Int32)), (.int (2 : Int32))])) (by intro t k; exact XS.iloadN X0.here hx rfl (hb hby d12_9) rfl k) ?_
      show Run _ _ _ _ _ _ _ s₁ (mkF m 10 #[.val (.ref a0), .val (.int p1), .val (.int (0 : Int32)), .val (.int (9 : Int32)), .val (.int ((p1).toInt8.toInt32)), .val (.int (2 : Int32))] [(.int (9 : Int32)), (.int (2 : Int32))])
      refine go (T' := s₁) (f' := (mkF m 13 #[.val (.ref a0), .val (.int p1), .val (.int (0 : Int32)), .val (.int (9 : Int32)), .val (.int ((p1).toInt8.toInt32)), .val (.int (2 : Int32))] [])) (by intro t k; exact XS.icmpNo X0.here hx rfl (hb hby d12_10) rfl (tlt (by decide : (2 : Int32) < (9 : Int32))).2.1 k) ?_
      show Run _ _ _ _ _ _ _ s₁ (mkF m 13 #[.val (.ref a0), .val (.int p1), .val (.int (0 : Int32)), .val (.int (9 : Int32)), .val (.int ((p1).toInt8.toInt32)), .val (.int (2 : Int32))] [])
      refine go (T' := s₁) (f' := (mkF m 14 #[.val (.ref a0), .val (.int p1), .val (.int (0 : Int32)), .val (.int (9 : Int32)), .val (.int ((p1).toInt8.toInt32)), .val (.int (2 : Int32))] [(.ref a0)])) (by intro t k; exact XS.aloadN X0.here hx rfl (hb hby d12_13) rfl rfl k) ?_
      show Run _ _ _ _ _ _ _ s₁ (mkF m 14 #[.val (.ref a0), .val (.int p1), .val (.int (0 : Int32)), .val (.int (9 : Int32)), .val (.int ((p1).toInt8.toInt32)), .val (.int (2 : Int32))] [(.ref a0)])
      refine go (T' := s₁) (f' := (mkF m 16 #[.val (.ref a0), .val (.int p1), .val (.int (0 : Int32)), .val (.int (9 : Int32)), .val (.int ((p1).toInt8.toInt32)), .val (.int (2 : Int32))] [(.int (2 : Int32)), (.ref a0)])) (by intro t k; exact XS.iload X0.here hx rfl (hb hby d12_14) rfl k) ?_
      show Run _ _ _ _ _ _ _ s₁ (mkF m 16 #[.val (.ref a0), .val (.int p1), .val (.int (0 : Int32)), .val (.int (9 : Int32)), .val (.int ((p1).toInt8.toInt32)), .val (.int (2 : Int32))] [(.int (2 : Int32)), (.ref a0)])
      refine go (T' := s₁) (f' := (mkF m 17 #[.val (.ref a0), .val (.int p1), .val (.int (0 : Int32)), .val (.int (9 : Int32)), .val (.int ((p1).toInt8.toInt32)), .val (.int (2 : Int32))] [(.int (34 : Int32))])) (by intro t k; exact ldB X0 hx hZ e0 A_a0 (j := (2 : Int32)) (v := (.int (34 : Int32))) (by decide) rfl (g := (mkF m 16 #[.val (.ref a0), .val (.int p1), .val (.int (0 : Int32)), .val (.int (9 : Int32)), .val (.int ((p1).toInt8.toInt32)), .val (.int (2 : Int32))] [(.int (2 : Int32)), (.ref a0)])) rfl rfl (hb hby d12_16) _ k) ?_
      show Run _ _ _ _ _ _ _ s₁ (mkF m 17 #[.val (.ref a0), .val (.int p1), .val (.int (0 : Int32)), .val (.int (9 : Int32)), .val (.int ((p1).toInt8.toInt32)), .val (.int (2 : Int32))] [(.int (34 : Int32))])
      refine go (T' := s₁) (f' := (mkF m 19 #[.val (.ref a0), .val (.int p1), .val (.int (0 : Int32)), .val (.int (9 : Int32)), .val (.int ((p1).toInt8.toInt32)), .val (.int (2 : Int32))] [(.int ((p1).toInt8.toInt32)), (.int (34 : Int32))])) (by intro t k; exact XS.iload X0.here hx rfl (hb hby d12_17) rfl k) ?_
      show Run _ _ _ _ _ _ _ s₁ (mkF m 19 #[.val (.ref a0), .val (.int p1), .val (.int (0 : Int32)), .val (.int (9 : Int32)), .val (.int ((p1).toInt8.toInt32)), .val (.int (2 : Int32))] [(.int ((p1).toInt8.toInt32)), (.int (34 : Int32))])
      by_cases hc19 : (34 : Int32) = ((p1).toInt8.toInt32)
      · refine go (T' := s₁) (f' := (mkF m 22 #[.val (.ref a0), .val (.int p1), .val (.int (0 : Int32)), .val (.int (9 : Int32)), .val (.int ((p1).toInt8.toInt32)), .val (.int (2 : Int32))] [])) (by intro t k; exact XS.icmpNo X0.here hx rfl (hb hby d12_19) rfl (teq hc19).2 k) ?_
        show Run _ _ _ _ _ _ _ s₁ (mkF m 22 #[.val (.ref a0), .val (.int p1), .val (.int (0 : Int32)), .val (.int (9 : Int32)), .val (.int ((p1).toInt8.toInt32)), .val (.int (2 : Int32))] [])
        refine go (T' := s₁) (f' := (mkF m 24 #[.val (.ref a0), .val (.int p1), .val (.int (0 : Int32)), .val (.int (9 : Int32)), .val (.int ((p1).toInt8.toInt32)), .val (.int (2 : Int32))] [(.int (2 : Int32))])) (by intro t k; exact XS.iload X0.here hx rfl (hb hby d12_22) rfl k) ?_
        show Run _ _ _ _ _ _ _ s₁ (mkF m 24 #[.val (.ref a0), .val (.int p1), .val (.int (0 : Int32)), .val (.int (9 : Int32)), .val (.int ((p1).toInt8.toInt32)), .val (.int (2 : Int32))] [(.int (2 : Int32))])
        refine retW X0 hx (t := .int) Bd.returns rfl (Or.inl ⟨rfl, Or.inl rfl, _, rfl⟩) (hb hby d12_24) hlk (by decide) (by decide) ?_
        show Q12 Z a0 p1 h0 n0 _ s₁.heap _
        rw [e0]
        have hv' : (2 : Int32) = (own_ix p1) := by
          unfold own_ix
          (repeat' split) <;> first | rfl | contradiction
        have hv : (some (.int (2 : Int32)) : Option Value) = some (.int (own_ix p1)) := congrArg (fun z => (some (.int z) : Option Value)) hv'
        exact ⟨hv, N0, rfl⟩
      · refine go (T' := s₁) (f' := (mkF m 25 #[.val (.ref a0), .val (.int p1), .val (.int (0 : Int32)), .val (.int (9 : Int32)), .val (.int ((p1).toInt8.toInt32)), .val (.int (2 : Int32))] [])) (by intro t k; exact XS.icmpYes X0.here hx rfl (pc0 := 19) (pc' := 25) rfl (hb hby d12_19) rfl (feq hc19).2 (by decide) (by decide) k) ?_
        show Run _ _ _ _ _ _ _ s₁ (mkF m 25 #[.val (.ref a0), .val (.int p1), .val (.int (0 : Int32)), .val (.int (9 : Int32)), .val (.int ((p1).toInt8.toInt32)), .val (.int (2 : Int32))] [])
        refine go (T' := s₁) (f' := (mkF m 28 #[.val (.ref a0), .val (.int p1), .val (.int (0 : Int32)), .val (.int (9 : Int32)), .val (.int ((p1).toInt8.toInt32)), .val (.int (3 : Int32))] [])) (by intro t k; exact XS.iinc X0.here hx rfl (hb hby d12_25) rfl (l' := #[.val (.ref a0), .val (.int p1), .val (.int (0 : Int32)), .val (.int (9 : Int32)), .val (.int ((p1).toInt8.toInt32)), .val (.int (3 : Int32))]) rfl k) ?_
        show Run _ _ _ _ _ _ _ s₁ (mkF m 28 #[.val (.ref a0), .val (.int p1), .val (.int (0 : Int32)), .val (.int (9 : Int32)), .val (.int ((p1).toInt8.toInt32)), .val (.int (3 : Int32))] [])
        refine go (T' := s₁) (f' := (mkF m 7 #[.val (.ref a0), .val (.int p1), .val (.int (0 : Int32)), .val (.int (9 : Int32)), .val (.int ((p1).toInt8.toInt32)), .val (.int (3 : Int32))] [])) (by intro t k; exact XS.goto X0.here hx rfl (pc0 := 28) (pc' := 7) rfl (hb hby d12_28) (by decide) (by decide) k) ?_
        show Run _ _ _ _ _ _ _ s₁ (mkF m 7 #[.val (.ref a0), .val (.int p1), .val (.int (0 : Int32)), .val (.int (9 : Int32)), .val (.int ((p1).toInt8.toInt32)), .val (.int (3 : Int32))] [])
        refine go (T' := s₁) (f' := (mkF m 9 #[.val (.ref a0), .val (.int p1), .val (.int (0 : Int32)), .val (.int (9 : Int32)), .val (.int ((p1).toInt8.toInt32)), .val (.int (3 : Int32))] [(.int (3 : Int32))])) (by intro t k; exact XS.iload X0.here hx rfl (hb hby d12_7) rfl k) ?_
        show Run _ _ _ _ _ _ _ s₁ (mkF m 9 #[.val (.ref a0), .val (.int p1), .val (.int (0 : Int32)), .val (.int (9 : Int32)), .val (.int ((p1).toInt8.toInt32)), .val (.int (3 : Int32))] [(.int (3 : Int32))])
        refine go (T' := s₁) (f' := (mkF m 10 #[.val (.ref a0), .val (.int p1), .val (.int (0 : Int32)), .val (.int (9 : Int32)), .val (.int ((p1).toInt8.toInt32)), .val (.int (3 : Int32))] [(.int (9 : Int32)), (.int (3 : Int32))])) (by intro t k; exact XS.iloadN X0.here hx rfl (hb hby d12_9) rfl k) ?_
        show Run _ _ _ _ _ _ _ s₁ (mkF m 10 #[.val (.ref a0), .val (.int p1), .val (.int (0 : Int32)), .val (.int (9 : Int32)), .val (.int ((p1).toInt8.toInt32)), .val (.int (3 : Int32))] [(.int (9 : Int32)), (.int (3 : Int32))])
        refine go (T' := s₁) (f' := (mkF m 13 #[.val (.ref a0), .val (.int p1), .val (.int (0 : Int32)), .val (.int (9 : Int32)), .val (.int ((p1).toInt8.toInt32)), .val (.int (3 : Int32))] [])) (by intro t k; exact XS.icmpNo X0.here hx rfl (hb hby d12_10) rfl (tlt (by decide : (3 : Int32) < (9 : Int32))).2.1 k) ?_
        show Run _ _ _ _ _ _ _ s₁ (mkF m 13 #[.val (.ref a0), .val (.int p1), .val (.int (0 : Int32)), .val (.int (9 : Int32)), .val (.int ((p1).toInt8.toInt32)), .val (.int (3 : Int32))] [])
        refine go (T' := s₁) (f' := (mkF m 14 #[.val (.ref a0), .val (.int p1), .val (.int (0 : Int32)), .val (.int (9 : Int32)), .val (.int ((p1).toInt8.toInt32)), .val (.int (3 : Int32))] [(.ref a0)])) (by intro t k; exact XS.aloadN X0.here hx rfl (hb hby d12_13) rfl rfl k) ?_
        show Run _ _ _ _ _ _ _ s₁ (mkF m 14 #[.val (.ref a0), .val (.int p1), .val (.int (0 : Int32)), .val (.int (9 : Int32)), .val (.int ((p1).toInt8.toInt32)), .val (.int (3 : Int32))] [(.ref a0)])
        refine go (T' := s₁) (f' := (mkF m 16 #[.val (.ref a0), .val (.int p1), .val (.int (0 : Int32)), .val (.int (9 : Int32)), .val (.int ((p1).toInt8.toInt32)), .val (.int (3 : Int32))] [(.int (3 : Int32)), (.ref a0)])) (by intro t k; exact XS.iload X0.here hx rfl (hb hby d12_14) rfl k) ?_
        show Run _ _ _ _ _ _ _ s₁ (mkF m 16 #[.val (.ref a0), .val (.int p1), .val (.int (0 : Int32)), .val (.int (9 : Int32)), .val (.int ((p1).toInt8.toInt32)), .val (.int (3 : Int32))] [(.int (3 : Int32)), (.ref a0)])
        refine go (T' := s₁) (f' := (mkF m 17 #[.val (.ref a0), .val (.int p1), .val (.int (0 : Int32)), .val (.int (9 : Int32)), .val (.int ((p1).toInt8.toInt32)), .val (.int (3 : Int32))] [(.int (123 : Int32))])) (by intro t k; exact ldB X0 hx hZ e0 A_a0 (j := (3 : Int32)) (v := (.int (123 : Int32))) (by decide) rfl (g := (mkF m 16 #[.val (.ref a0), .val (.int p1), .val (.int (0 : Int32)), .val (.int (9 : Int32)), .val (.int ((p1).toInt8.toInt32)), .val (.int (3 : Int32))] [(.int (3 : Int32)), (.ref a0)])) rfl rfl (hb hby d12_16) _ k) ?_
        show Run _ _ _ _ _ _ _ s₁ (mkF m 17 #[.val (.ref a0), .val (.int p1), .val (.int (0 : Int32)), .val (.int (9 : Int32)), .val (.int ((p1).toInt8.toInt32)), .val (.int (3 : Int32))] [(.int (123 : Int32))])
        refine go (T' := s₁) (f' := (mkF m 19 #[.val (.ref a0), .val (.int p1), .val (.int (0 : Int32)), .val (.int (9 : Int32)), .val (.int ((p1).toInt8.toInt32)), .val (.int (3 : Int32))] [(.int ((p1).toInt8.toInt32)), (.int (123 : Int32))])) (by intro t k; exact XS.iload X0.here hx rfl (hb hby d12_17) rfl k) ?_
        show Run _ _ _ _ _ _ _ s₁ (mkF m 19 #[.val (.ref a0), .val (.int p1), .val (.int (0 : Int32)), .val (.int (9 : Int32)), .val (.int ((p1).toInt8.toInt32)), .val (.int (3 : Int32))] [(.int ((p1).toInt8.toInt32)), (.int (123 : Int32))])
        by_cases hc19 : (123 : Int32) = ((p1).toInt8.toInt32)
        · refine go (T' := s₁) (f' := (mkF m 22 #[.val (.ref a0), .val (.int p1), .val (.int (0 : Int32)), .val (.int (9 : Int32)), .val (.int ((p1).toInt8.toInt32)), .val (.int (3 : Int32))] [])) (by intro t k; exact XS.icmpNo X0.here hx rfl (hb hby d12_19) rfl (teq hc19).2 k) ?_
          show Run _ _ _ _ _ _ _ s₁ (mkF m 22 #[.val (.ref a0), .val (.int p1), .val (.int (0 : Int32)), .val (.int (9 : Int32)), .val (.int ((p1).toInt8.toInt32)), .val (.int (3 : Int32))] [])
          refine go (T' := s₁) (f' := (mkF m 24 #[.val (.ref a0), .val (.int p1), .val (.int (0 : Int32)), .val (.int (9 : Int32)), .val (.int ((p1).toInt8.toInt32)), .val (.int (3 : Int32))] [(.int (3 : Int32))])) (by intro t k; exact XS.iload X0.here hx rfl (hb hby d12_22) rfl k) ?_
          show Run _ _ _ _ _ _ _ s₁ (mkF m 24 #[.val (.ref a0), .val (.int p1), .val (.int (0 : Int32)), .val (.int (9 : Int32)), .val (.int ((p1).toInt8.toInt32)), .val (.int (3 : Int32))] [(.int (3 : Int32))])
          refine retW X0 hx (t := .int) Bd.returns rfl (Or.inl ⟨rfl, Or.inl rfl, _, rfl⟩) (hb hby d12_24) hlk (by decide) (by decide) ?_
          show Q12 Z a0 p1 h0 n0 _ s₁.heap _
          rw [e0]
          have hv' : (3 : Int32) = (own_ix p1) := by
            unfold own_ix
            (repeat' split) <;> first | rfl | contradiction
          have hv : (some (.int (3 : Int32)) : Option Value) = some (.int (own_ix p1)) := congrArg (fun z => (some (.int z) : Option Value)) hv'
          exact ⟨hv, N0, rfl⟩
        · refine go (T' := s₁) (f' := (mkF m 25 #[.val (.ref a0), .val (.int p1), .val (.int (0 : Int32)), .val (.int (9 : Int32)), .val (.int ((p1).toInt8.toInt32)), .val (.int (3 : Int32))] [])) (by intro t k; exact XS.icmpYes X0.here hx rfl (pc0 := 19) (pc' := 25) rfl (hb hby d12_19) rfl (feq hc19).2 (by decide) (by decide) k) ?_
          show Run _ _ _ _ _ _ _ s₁ (mkF m 25 #[.val (.ref a0), .val (.int p1), .val (.int (0 : Int32)), .val (.int (9 : Int32)), .val (.int ((p1).toInt8.toInt32)), .val (.int (3 : Int32))] [])
          refine go (T' := s₁) (f' := (mkF m 28 #[.val (.ref a0), .val (.int p1), .val (.int (0 : Int32)), .val (.int (9 : Int32)), .val (.int ((p1).toInt8.toInt32)), .val (.int (4 : Int32))] [])) (by intro t k; exact XS.iinc X0.here hx rfl (hb hby d12_25) rfl (l' := #[.val (.ref a0), .val (.int p1), .val (.int (0 : Int32)), .val (.int (9 : Int32)), .val (.int ((p1).toInt8.toInt32)), .val (.int (4 : Int32))]) rfl k) ?_
          show Run _ _ _ _ _ _ _ s₁ (mkF m 28 #[.val (.ref a0), .val (.int p1), .val (.int (0 : Int32)), .val (.int (9 : Int32)), .val (.int ((p1).toInt8.toInt32)), .val (.int (4 : Int32))] [])
          refine go (T' := s₁) (f' := (mkF m 7 #[.val (.ref a0), .val (.int p1), .val (.int (0 : Int32)), .val (.int (9 : Int32)), .val (.int ((p1).toInt8.toInt32)), .val (.int (4 : Int32))] [])) (by intro t k; exact XS.goto X0.here hx rfl (pc0 := 28) (pc' := 7) rfl (hb hby d12_28) (by decide) (by decide) k) ?_
          show Run _ _ _ _ _ _ _ s₁ (mkF m 7 #[.val (.ref a0), .val (.int p1), .val (.int (0 : Int32)), .val (.int (9 : Int32)), .val (.int ((p1).toInt8.toInt32)), .val (.int (4 : Int32))] [])
          refine go (T' := s₁) (f' := (mkF m 9 #[.val (.ref a0), .val (.int p1), .val (.int (0 : Int32)), .val (.int (9 : Int32)), .val (.int ((p1).toInt8.toInt32)), .val (.int (4 : Int32))] [(.int (4 : Int32))])) (by intro t k; exact XS.iload X0.here hx rfl (hb hby d12_7) rfl k) ?_
          show Run _ _ _ _ _ _ _ s₁ (mkF m 9 #[.val (.ref a0), .val (.int p1), .val (.int (0 : Int32)), .val (.int (9 : Int32)), .val (.int ((p1).toInt8.toInt32)), .val (.int (4 : Int32))] [(.int (4 : Int32))])
          refine go (T' := s₁) (f' := (mkF m 10 #[.val (.ref a0), .val (.int p1), .val (.int (0 : Int32)), .val (.int (9 : Int32)), .val (.int ((p1).toInt8.toInt32)), .val (.int (4 : Int32))] [(.int (9 : Int32)), (.int (4 : Int32))])) (by intro t k; exact XS.iloadN X0.here hx rfl (hb hby d12_9) rfl k) ?_
          show Run _ _ _ _ _ _ _ s₁ (mkF m 10 #[.val (.ref a0), .val (.int p1), .val (.int (0 : Int32)), .val (.int (9 : Int32)), .val (.int ((p1).toInt8.toInt32)), .val (.int (4 : Int32))] [(.int (9 : Int32)), (.int (4 : Int32))])
          refine go (T' := s₁) (f' := (mkF m 13 #[.val (.ref a0), .val (.int p1), .val (.int (0 : Int32)), .val (.int (9 : Int32)), .val (.int ((p1).toInt8.toInt32)), .val (.int (4 : Int32))] [])) (by intro t k; exact XS.icmpNo X0.here hx rfl (hb hby d12_10) rfl (tlt (by decide : (4 : Int32) < (9 : Int32))).2.1 k) ?_
          show Run _ _ _ _ _ _ _ s₁ (mkF m 13 #[.val (.ref a0), .val (.int p1), .val (.int (0 : Int32)), .val (.int (9 : Int32)), .val (.int ((p1).toInt8.toInt32)), .val (.int (4 : Int32))] [])
          refine go (T' := s₁) (f' := (mkF m 14 #[.val (.ref a0), .val (.int p1), .val (.int (0 : Int32)), .val (.int (9 : Int32)), .val (.int ((p1).toInt8.toInt32)), .val (.int (4 : Int32))] [(.ref a0)])) (by intro t k; exact XS.aloadN X0.here hx rfl (hb hby d12_13) rfl rfl k) ?_
          show Run _ _ _ _ _ _ _ s₁ (mkF m 14 #[.val (.ref a0), .val (.int p1), .val (.int (0 : Int32)), .val (.int (9 : Int32)), .val (.int ((p1).toInt8.toInt32)), .val (.int (4 : Int32))] [(.ref a0)])
          refine go (T' := s₁) (f' := (mkF m 16 #[.val (.ref a0), .val (.int p1), .val (.int (0 : Int32)), .val (.int (9 : Int32)), .val (.int ((p1).toInt8.toInt32)), .val (.int (4 : Int32))] [(.int (4 : Int32)), (.ref a0)])) (by intro t k; exact XS.iload X0.here hx rfl (hb hby d12_14) rfl k) ?_
          show Run _ _ _ _ _ _ _ s₁ (mkF m 16 #[.val (.ref a0), .val (.int p1), .val (.int (0 : Int32)), .val (.int (9 : Int32)), .val (.int ((p1).toInt8.toInt32)), .val (.int (4 : Int32))] [(.int (4 : Int32)), (.ref a0)])
          refine go (T' := s₁) (f' := (mkF m 17 #[.val (.ref a0), .val (.int p1), .val (.int (0 : Int32)), .val (.int (9 : Int32)), .val (.int ((p1).toInt8.toInt32)), .val (.int (4 : Int32))] [(.int (125 : Int32))])) (by intro t k; exact ldB X0 hx hZ e0 A_a0 (j := (4 : Int32)) (v := (.int (125 : Int32))) (by decide) rfl (g := (mkF m 16 #[.val (.ref a0), .val (.int p1), .val (.int (0 : Int32)), .val (.int (9 : Int32)), .val (.int ((p1).toInt8.toInt32)), .val (.int (4 : Int32))] [(.int (4 : Int32)), (.ref a0)])) rfl rfl (hb hby d12_16) _ k) ?_
          show Run _ _ _ _ _ _ _ s₁ (mkF m 17 #[.val (.ref a0), .val (.int p1), .val (.int (0 : Int32)), .val (.int (9 : Int32)), .val (.int ((p1).toInt8.toInt32)), .val (.int (4 : Int32))] [(.int (125 : Int32))])
          refine go (T' := s₁) (f' := (mkF m 19 #[.val (.ref a0), .val (.int p1), .val (.int (0 : Int32)), .val (.int (9 : Int32)), .val (.int ((p1).toInt8.toInt32)), .val (.int (4 : Int32))] [(.int ((p1).toInt8.toInt32)), (.int (125 : Int32))])) (by intro t k; exact XS.iload X0.here hx rfl (hb hby d12_17) rfl k) ?_
          show Run _ _ _ _ _ _ _ s₁ (mkF m 19 #[.val (.ref a0), .val (.int p1), .val (.int (0 : Int32)), .val (.int (9 : Int32)), .val (.int ((p1).toInt8.toInt32)), .val (.int (4 : Int32))] [(.int ((p1).toInt8.toInt32)), (.int (125 : Int32))])
          by_cases hc19 : (125 : Int32) = ((p1).toInt8.toInt32)
          · refine go (T' := s₁) (f' := (mkF m 22 #[.val (.ref a0), .val (.int p1), .val (.int (0 : Int32)), .val (.int (9 : Int32)), .val (.int ((p1).toInt8.toInt32)), .val (.int (4 : Int32))] [])) (by intro t k; exact XS.icmpNo X0.here hx rfl (hb hby d12_19) rfl (teq hc19).2 k) ?_
            show Run _ _ _ _ _ _ _ s₁ (mkF m 22 #[.val (.ref a0), .val (.int p1), .val (.int (0 : Int32)), .val (.int (9 : Int32)), .val (.int ((p1).toInt8.toInt32)), .val (.int (4 : Int32))] [])
            refine go (T' := s₁) (f' := (mkF m 24 #[.val (.ref a0), .val (.int p1), .val (.int (0 : Int32)), .val (.int (9 : Int32)), .val (.int ((p1).toInt8.toInt32)), .val (.int (4 : Int32))] [(.int (4 : Int32))])) (by intro t k; exact XS.iload X0.here hx rfl (hb hby d12_22) rfl k) ?_
            show Run _ _ _ _ _ _ _ s₁ (mkF m 24 #[.val (.ref a0), .val (.int p1), .val (.int (0 : Int32)), .val (.int (9 : Int32)), .val (.int ((p1).toInt8.toInt32)), .val (.int (4 : Int32))] [(.int (4 : Int32))])
            refine retW X0 hx (t := .int) Bd.returns rfl (Or.inl ⟨rfl, Or.inl rfl, _, rfl⟩) (hb hby d12_24) hlk (by decide) (by decide) ?_
            show Q12 Z a0 p1 h0 n0 _ s₁.heap _
            rw [e0]
            have hv' : (4 : Int32) = (own_ix p1) := by
              unfold own_ix
              (repeat' split) <;> first | rfl | contradiction
            have hv : (some (.int (4 : Int32)) : Option Value) = some (.int (own_ix p1)) := congrArg (fun z => (some (.int z) : Option Value)) hv'
            exact ⟨hv, N0, rfl⟩
          · refine go (T' := s₁) (f' := (mkF m 25 #[.val (.ref a0), .val (.int p1), .val (.int (0 : Int32)), .val (.int (9 : Int32)), .val (.int ((p1).toInt8.toInt32)), .val (.int (4 : Int32))] [])) (by intro t k; exact XS.icmpYes X0.here hx rfl (pc0 := 19) (pc' := 25) rfl (hb hby d12_19) rfl (feq hc19).2 (by decide) (by decide) k) ?_
            show Run _ _ _ _ _ _ _ s₁ (mkF m 25 #[.val (.ref a0), .val (.int p1), .val (.int (0 : Int32)), .val (.int (9 : Int32)), .val (.int ((p1).toInt8.toInt32)), .val (.int (4 : Int32))] [])
            refine go (T' := s₁) (f' := (mkF m 28 #[.val (.ref a0), .val (.int p1), .val (.int (0 : Int32)), .val (.int (9 : Int32)), .val (.int ((p1).toInt8.toInt32)), .val (.int (5 : Int32))] [])) (by intro t k; exact XS.iinc X0.here hx rfl (hb hby d12_25) rfl (l' := #[.val (.ref a0), .val (.int p1), .val (.int (0 : Int32)), .val (.int (9 : Int32)), .val (.int ((p1).toInt8.toInt32)), .val (.int (5 : Int32))]) rfl k) ?_
            show Run _ _ _ _ _ _ _ s₁ (mkF m 28 #[.val (.ref a0), .val (.int p1), .val (.int (0 : Int32)), .val (.int (9 : Int32)), .val (.int ((p1).toInt8.toInt32)), .val (.int (5 : Int32))] [])
            refine go (T' := s₁) (f' := (mkF m 7 #[.val (.ref a0), .val (.int p1), .val (.int (0 : Int32)), .val (.int (9 : Int32)), .val (.int ((p1).toInt8.toInt32)), .val (.int (5 : Int32))] [])) (by intro t k; exact XS.goto X0.here hx rfl (pc0 := 28) (pc' := 7) rfl (hb hby d12_28) (by decide) (by decide) k) ?_
            show Run _ _ _ _ _ _ _ s₁ (mkF m 7 #[.val (.ref a0), .val (.int p1), .val (.int (0 : Int32)), .val (.int (9 : Int32)), .val (.int ((p1).toInt8.toInt32)), .val (.int (5 : Int32))] [])
            refine go (T' := s₁) (f' := (mkF m 9 #[.val (.ref a0), .val (.int p1), .val (.int (0 : Int32)), .val (.int (9 : Int32)), .val (.int ((p1).toInt8.toInt32)), .val (.int (5 : Int32))] [(.int (5 : Int32))])) (by intro t k; exact XS.iload X0.here hx rfl (hb hby d12_7) rfl k) ?_
            show Run _ _ _ _ _ _ _ s₁ (mkF m 9 #[.val (.ref a0), .val (.int p1), .val (.int (0 : Int32)), .val (.int (9 : Int32)), .val (.int ((p1).toInt8.toInt32)), .val (.int (5 : Int32))] [(.int (5 : Int32))])
            refine go (T' := s₁) (f' := (mkF m 10 #[.val (.ref a0), .val (.int p1), .val (.int (0 : Int32)), .val (.int (9 : Int32)), .val (.int ((p1).toInt8.toInt32)), .val (.int (5 : Int32))] [(.int (9 : Int32)), (.int (5 : Int32))])) (by intro t k; exact XS.iloadN X0.here hx rfl (hb hby d12_9) rfl k) ?_
            show Run _ _ _ _ _ _ _ s₁ (mkF m 10 #[.val (.ref a0), .val (.int p1), .val (.int (0 : Int32)), .val (.int (9 : Int32)), .val (.int ((p1).toInt8.toInt32)), .val (.int (5 : Int32))] [(.int (9 : Int32)), (.int (5 : Int32))])
            refine go (T' := s₁) (f' := (mkF m 13 #[.val (.ref a0), .val (.int p1), .val (.int (0 : Int32)), .val (.int (9 : Int32)), .val (.int ((p1).toInt8.toInt32)), .val (.int (5 : Int32))] [])) (by intro t k; exact XS.icmpNo X0.here hx rfl (hb hby d12_10) rfl (tlt (by decide : (5 : Int32) < (9 : Int32))).2.1 k) ?_
            show Run _ _ _ _ _ _ _ s₁ (mkF m 13 #[.val (.ref a0), .val (.int p1), .val (.int (0 : Int32)), .val (.int (9 : Int32)), .val (.int ((p1).toInt8.toInt32)), .val (.int (5 : Int32))] [])
            refine go (T' := s₁) (f' := (mkF m 14 #[.val (.ref a0), .val (.int p1), .val (.int (0 : Int32)), .val (.int (9 : Int32)), .val (.int ((p1).toInt8.toInt32)), .val (.int (5 : Int32))] [(.ref a0)])) (by intro t k; exact XS.aloadN X0.here hx rfl (hb hby d12_13) rfl rfl k) ?_
            show Run _ _ _ _ _ _ _ s₁ (mkF m 14 #[.val (.ref a0), .val (.int p1), .val (.int (0 : Int32)), .val (.int (9 : Int32)), .val (.int ((p1).toInt8.toInt32)), .val (.int (5 : Int32))] [(.ref a0)])
            refine go (T' := s₁) (f' := (mkF m 16 #[.val (.ref a0), .val (.int p1), .val (.int (0 : Int32)), .val (.int (9 : Int32)), .val (.int ((p1).toInt8.toInt32)), .val (.int (5 : Int32))] [(.int (5 : Int32)), (.ref a0)])) (by intro t k; exact XS.iload X0.here hx rfl (hb hby d12_14) rfl k) ?_
            show Run _ _ _ _ _ _ _ s₁ (mkF m 16 #[.val (.ref a0), .val (.int p1), .val (.int (0 : Int32)), .val (.int (9 : Int32)), .val (.int ((p1).toInt8.toInt32)), .val (.int (5 : Int32))] [(.int (5 : Int32)), (.ref a0)])
            refine go (T' := s₁) (f' := (mkF m 17 #[.val (.ref a0), .val (.int p1), .val (.int (0 : Int32)), .val (.int (9 : Int32)), .val (.int ((p1).toInt8.toInt32)), .val (.int (5 : Int32))] [(.int (124 : Int32))])) (by intro t k; exact ldB X0 hx hZ e0 A_a0 (j := (5 : Int32)) (v := (.int (124 : Int32))) (by decide) rfl (g := (mkF m 16 #[.val (.ref a0), .val (.int p1), .val (.int (0 : Int32)), .val (.int (9 : Int32)), .val (.int ((p1).toInt8.toInt32)), .val (.int (5 : Int32))] [(.int (5 : Int32)), (.ref a0)])) rfl rfl (hb hby d12_16) _ k) ?_
            show Run _ _ _ _ _ _ _ s₁ (mkF m 17 #[.val (.ref a0), .val (.int p1), .val (.int (0 : Int32)), .val (.int (9 : Int32)), .val (.int ((p1).toInt8.toInt32)), .val (.int (5 : Int32))] [(.int (124 : Int32))])
            refine go (T' := s₁) (f' := (mkF m 19 #[.val (.ref a0), .val (.int p1), .val (.int (0 : Int32)), .val (.int (9 : Int32)), .val (.int ((p1).toInt8.toInt32)), .val (.int (5 : Int32))] [(.int ((p1).toInt8.toInt32)), (.int (124 : Int32))])) (by intro t k; exact XS.iload X0.here hx rfl (hb hby d12_17) rfl k) ?_
            show Run _ _ _ _ _ _ _ s₁ (mkF m 19 #[.val (.ref a0), .val (.int p1), .val (.int (0 : Int32)), .val (.int (9 : Int32)), .val (.int ((p1).toInt8.toInt32)), .val (.int (5 : Int32))] [(.int ((p1).toInt8.toInt32)), (.int (124 : Int32))])
            by_cases hc19 : (124 : Int32) = ((p1).toInt8.toInt32)
            · refine go (T' := s₁) (f' := (mkF m 22 #[.val (.ref a0), .val (.int p1), .val (.int (0 : Int32)), .val (.int (9 : Int32)), .val (.int ((p1).toInt8.toInt32)), .val (.int (5 : Int32))] [])) (by intro t k; exact XS.icmpNo X0.here hx rfl (hb hby d12_19) rfl (teq hc19).2 k) ?_
              show Run _ _ _ _ _ _ _ s₁ (mkF m 22 #[.val (.ref a0), .val (.int p1), .val (.int (0 : Int32)), .val (.int (9 : Int32)), .val (.int ((p1).toInt8.toInt32)), .val (.int (5 : Int32))] [])
              refine go (T' := s₁) (f' := (mkF m 24 #[.val (.ref a0), .val (.int p1), .val (.int (0 : Int32)), .val (.int (9 : Int32)), .val (.int ((p1).toInt8.toInt32)), .val (.int (5 : Int32))] [(.int (5 : Int32))])) (by intro t k; exact XS.iload X0.here hx rfl (hb hby d12_22) rfl k) ?_
              show Run _ _ _ _ _ _ _ s₁ (mkF m 24 #[.val (.ref a0), .val (.int p1), .val (.int (0 : Int32)), .val (.int (9 : Int32)), .val (.int ((p1).toInt8.toInt32)), .val (.int (5 : Int32))] [(.int (5 : Int32))])
              refine retW X0 hx (t := .int) Bd.returns rfl (Or.inl ⟨rfl, Or.inl rfl, _, rfl⟩) (hb hby d12_24) hlk (by decide) (by decide) ?_
              show Q12 Z a0 p1 h0 n0 _ s₁.heap _
              rw [e0]
              have hv' : (5 : Int32) = (own_ix p1) := by
                unfold own_ix
                (repeat' split) <;> first | rfl | contradiction
              have hv : (some (.int (5 : Int32)) : Option Value) = some (.int (own_ix p1)) := congrArg (fun z => (some (.int z) : Option Value)) hv'
              exact ⟨hv, N0, rfl⟩
            · refine go (T' := s₁) (f' := (mkF m 25 #[.val (.ref a0), .val (.int p1), .val (.int (0 : Int32)), .val (.int (9 : Int32)), .val (.int ((p1).toInt8.toInt32)), .val (.int (5 : Int32))] [])) (by intro t k; exact XS.icmpYes X0.here hx rfl (pc0 := 19) (pc' := 25) rfl (hb hby d12_19) rfl (feq hc19).2 (by decide) (by decide) k) ?_
              show Run _ _ _ _ _ _ _ s₁ (mkF m 25 #[.val (.ref a0), .val (.int p1), .val (.int (0 : Int32)), .val (.int (9 : Int32)), .val (.int ((p1).toInt8.toInt32)), .val (.int (5 : Int32))] [])
              refine go (T' := s₁) (f' := (mkF m 28 #[.val (.ref a0), .val (.int p1), .val (.int (0 : Int32)), .val (.int (9 : Int32)), .val (.int ((p1).toInt8.toInt32)), .val (.int (6 : Int32))] [])) (by intro t k; exact XS.iinc X0.here hx rfl (hb hby d12_25) rfl (l' := #[.val (.ref a0), .val (.int p1), .val (.int (0 : Int32)), .val (.int (9 : Int32)), .val (.int ((p1).toInt8.toInt32)), .val (.int (6 : Int32))]) rfl k) ?_
              show Run _ _ _ _ _ _ _ s₁ (mkF m 28 #[.val (.ref a0), .val (.int p1), .val (.int (0 : Int32)), .val (.int (9 : Int32)), .val (.int ((p1).toInt8.toInt32)), .val (.int (6 : Int32))] [])
              refine go (T' := s₁) (f' := (mkF m 7 #[.val (.ref a0), .val (.int p1), .val (.int (0 : Int32)), .val (.int (9 : Int32)), .val (.int ((p1).toInt8.toInt32)), .val (.int (6 : Int32))] [])) (by intro t k; exact XS.goto X0.here hx rfl (pc0 := 28) (pc' := 7) rfl (hb hby d12_28) (by decide) (by decide) k) ?_
              show Run _ _ _ _ _ _ _ s₁ (mkF m 7 #[.val (.ref a0), .val (.int p1), .val (.int (0 : Int32)), .val (.int (9 : Int32)), .val (.int ((p1).toInt8.toInt32)), .val (.int (6 : Int32))] [])
              refine go (T' := s₁) (f' := (mkF m 9 #[.val (.ref a0), .val (.int p1), .val (.int (0 : Int32)), .val (.int (9 : Int32)), .val (.int ((p1).toInt8.toInt32)), .val (.int (6 : Int32))] [(.int (6 : Int32))])) (by intro t k; exact XS.iload X0.here hx rfl (hb hby d12_7) rfl k) ?_
              show Run _ _ _ _ _ _ _ s₁ (mkF m 9 #[.val (.ref a0), .val (.int p1), .val (.int (0 : Int32)), .val (.int (9 : Int32)), .val (.int ((p1).toInt8.toInt32)), .val (.int (6 : Int32))] [(.int (6 : Int32))])
              refine go (T' := s₁) (f' := (mkF m 10 #[.val (.ref a0), .val (.int p1), .val (.int (0 : Int32)), .val (.int (9 : Int32)), .val (.int ((p1).toInt8.toInt32)), .val (.int (6 : Int32))] [(.int (9 : Int32)), (.int (6 : Int32))])) (by intro t k; exact XS.iloadN X0.here hx rfl (hb hby d12_9) rfl k) ?_
              show Run _ _ _ _ _ _ _ s₁ (mkF m 10 #[.val (.ref a0), .val (.int p1), .val (.int (0 : Int32)), .val (.int (9 : Int32)), .val (.int ((p1).toInt8.toInt32)), .val (.int (6 : Int32))] [(.int (9 : Int32)), (.int (6 : Int32))])
              refine go (T' := s₁) (f' := (mkF m 13 #[.val (.ref a0), .val (.int p1), .val (.int (0 : Int32)), .val (.int (9 : Int32)), .val (.int ((p1).toInt8.toInt32)), .val (.int (6 : Int32))] [])) (by intro t k; exact XS.icmpNo X0.here hx rfl (hb hby d12_10) rfl (tlt (by decide : (6 : Int32) < (9 : Int32))).2.1 k) ?_
              show Run _ _ _ _ _ _ _ s₁ (mkF m 13 #[.val (.ref a0), .val (.int p1), .val (.int (0 : Int32)), .val (.int (9 : Int32)), .val (.int ((p1).toInt8.toInt32)), .val (.int (6 : Int32))] [])
              refine go (T' := s₁) (f' := (mkF m 14 #[.val (.ref a0), .val (.int p1), .val (.int (0 : Int32)), .val (.int (9 : Int32)), .val (.int ((p1).toInt8.toInt32)), .val (.int (6 : Int32))] [(.ref a0)])) (by intro t k; exact XS.aloadN X0.here hx rfl (hb hby d12_13) rfl rfl k) ?_
              show Run _ _ _ _ _ _ _ s₁ (mkF m 14 #[.val (.ref a0), .val (.int p1), .val (.int (0 : Int32)), .val (.int (9 : Int32)), .val (.int ((p1).toInt8.toInt32)), .val (.int (6 : Int32))] [(.ref a0)])
              refine go (T' := s₁) (f' := (mkF m 16 #[.val (.ref a0), .val (.int p1), .val (.int (0 : Int32)), .val (.int (9 : Int32)), .val (.int ((p1).toInt8.toInt32)), .val (.int (6 : Int32))] [(.int (6 : Int32)), (.ref a0)])) (by intro t k; exact XS.iload X0.here hx rfl (hb hby d12_14) rfl k) ?_
              show Run _ _ _ _ _ _ _ s₁ (mkF m 16 #[.val (.ref a0), .val (.int p1), .val (.int (0 : Int32)), .val (.int (9 : Int32)), .val (.int ((p1).toInt8.toInt32)), .val (.int (6 : Int32))] [(.int (6 : Int32)), (.ref a0)])
              refine go (T' := s₁) (f' := (mkF m 17 #[.val (.ref a0), .val (.int p1), .val (.int (0 : Int32)), .val (.int (9 : Int32)), .val (.int ((p1).toInt8.toInt32)), .val (.int (6 : Int32))] [(.int (94 : Int32))])) (by intro t k; exact ldB X0 hx hZ e0 A_a0 (j := (6 : Int32)) (v := (.int (94 : Int32))) (by decide) rfl (g := (mkF m 16 #[.val (.ref a0), .val (.int p1), .val (.int (0 : Int32)), .val (.int (9 : Int32)), .val (.int ((p1).toInt8.toInt32)), .val (.int (6 : Int32))] [(.int (6 : Int32)), (.ref a0)])) rfl rfl (hb hby d12_16) _ k) ?_
              show Run _ _ _ _ _ _ _ s₁ (mkF m 17 #[.val (.ref a0), .val (.int p1), .val (.int (0 : Int32)), .val (.int (9 : Int32)), .val (.int ((p1).toInt8.toInt32)), .val (.int (6 : Int32))] [(.int (94 : Int32))])
              refine go (T' := s₁) (f' := (mkF m 19 #[.val (.ref a0), .val (.int p1), .val (.int (0 : Int32)), .val (.int (9 : Int32)), .val (.int ((p1).toInt8.toInt32)), .val (.int (6 : Int32))] [(.int ((p1).toInt8.toInt32)), (.int (94 : Int32))])) (by intro t k; exact XS.iload X0.here hx rfl (hb hby d12_17) rfl k) ?_
              show Run _ _ _ _ _ _ _ s₁ (mkF m 19 #[.val (.ref a0), .val (.int p1), .val (.int (0 : Int32)), .val (.int (9 : Int32)), .val (.int ((p1).toInt8.toInt32)), .val (.int (6 : Int32))] [(.int ((p1).toInt8.toInt32)), (.int (94 : Int32))])
              by_cases hc19 : (94 : Int32) = ((p1).toInt8.toInt32)
              · refine go (T' := s₁) (f' := (mkF m 22 #[.val (.ref a0), .val (.int p1), .val (.int (0 : Int32)), .val (.int (9 : Int32)), .val (.int ((p1).toInt8.toInt32)), .val (.int (6 : Int32))] [])) (by intro t k; exact XS.icmpNo X0.here hx rfl (hb hby d12_19) rfl (teq hc19).2 k) ?_
                show Run _ _ _ _ _ _ _ s₁ (mkF m 22 #[.val (.ref a0), .val (.int p1), .val (.int (0 : Int32)), .val (.int (9 : Int32)), .val (.int ((p1).toInt8.toInt32)), .val (.int (6 : Int32))] [])
                refine go (T' := s₁) (f' := (mkF m 24 #[.val (.ref a0), .val (.int p1), .val (.int (0 : Int32)), .val (.int (9 : Int32)), .val (.int ((p1).toInt8.toInt32)), .val (.int (6 : Int32))] [(.int (6 : Int32))])) (by intro t k; exact XS.iload X0.here hx rfl (hb hby d12_22) rfl k) ?_
                show Run _ _ _ _ _ _ _ s₁ (mkF m 24 #[.val (.ref a0), .val (.int p1), .val (.int (0 : Int32)), .val (.int (9 : Int32)), .val (.int ((p1).toInt8.toInt32)), .val (.int (6 : Int32))] [(.int (6 : Int32))])
                refine retW X0 hx (t := .int) Bd.returns rfl (Or.inl ⟨rfl, Or.inl rfl, _, rfl⟩) (hb hby d12_24) hlk (by decide) (by decide) ?_
                show Q12 Z a0 p1 h0 n0 _ s₁.heap _
                rw [e0]
                have hv' : (6 : Int32) = (own_ix p1) := by
                  unfold own_ix
                  (repeat' split) <;> first | rfl | contradiction
                have hv : (some (.int (6 : Int32)) : Option Value) = some (.int (own_ix p1)) := congrArg (fun z => (some (.int z) : Option Value)) hv'
                exact ⟨hv, N0, rfl⟩
              · refine go (T' := s₁) (f' := (mkF m 25 #[.val (.ref a0), .val (.int p1), .val (.int (0 : Int32)), .val (.int (9 : Int32)), .val (.int ((p1).toInt8.toInt32)), .val (.int (6 : Int32))] [])) (by intro t k; exact XS.icmpYes X0.here hx rfl (pc0 := 19) (pc' := 25) rfl (hb hby d12_19) rfl (feq hc19).2 (by decide) (by decide) k) ?_
                show Run _ _ _ _ _ _ _ s₁ (mkF m 25 #[.val (.ref a0), .val (.int p1), .val (.int (0 : Int32)), .val (.int (9 : Int32)), .val (.int ((p1).toInt8.toInt32)), .val (.int (6 : Int32))] [])
                refine go (T' := s₁) (f' := (mkF m 28 #[.val (.ref a0), .val (.int p1), .val (.int (0 : Int32)), .val (.int (9 : Int32)), .val (.int ((p1).toInt8.toInt32)), .val (.int (7 : Int32))] [])) (by intro t k; exact XS.iinc X0.here hx rfl (hb hby d12_25) rfl (l' := #[.val (.ref a0), .val (.int p1), .val (.int (0 : Int32)), .val (.int (9 : Int32)), .val (.int ((p1).toInt8.toInt32)), .val (.int (7 : Int32))]) rfl k) ?_
                show Run _ _ _ _ _ _ _ s₁ (mkF m 28 #[.val (.ref a0), .val (.int p1), .val (.int (0 : Int32)), .val (.int (9 : Int32)), .val (.int ((p1).toInt8.toInt32)), .val (.int (7 : Int32))] [])
                refine go (T' := s₁) (f' := (mkF m 7 #[.val (.ref a0), .val (.int p1), .val (.int (0 : Int32)), .val (.int (9 : Int32)), .val (.int ((p1).toInt8.toInt32)), .val (.int (7 : Int32))] [])) (by intro t k; exact XS.goto X0.here hx rfl (pc0 := 28) (pc' := 7) rfl (hb hby d12_28) (by decide) (by decide) k) ?_
                show Run _ _ _ _ _ _ _ s₁ (mkF m 7 #[.val (.ref a0), .val (.int p1), .val (.int (0 : Int32)), .val (.int (9 : Int32)), .val (.int ((p1).toInt8.toInt32)), .val (.int (7 : Int32))] [])
                refine go (T' := s₁) (f' := (mkF m 9 #[.val (.ref a0), .val (.int p1), .val (.int (0 : Int32)), .val (.int (9 : Int32)), .val (.int ((p1).toInt8.toInt32)), .val (.int (7 : Int32))] [(.int (7 : Int32))])) (by intro t k; exact XS.iload X0.here hx rfl (hb hby d12_7) rfl k) ?_
                show Run _ _ _ _ _ _ _ s₁ (mkF m 9 #[.val (.ref a0), .val (.int p1), .val (.int (0 : Int32)), .val (.int (9 : Int32)), .val (.int ((p1).toInt8.toInt32)), .val (.int (7 : Int32))] [(.int (7 : Int32))])
                refine go (T' := s₁) (f' := (mkF m 10 #[.val (.ref a0), .val (.int p1), .val (.int (0 : Int32)), .val (.int (9 : Int32)), .val (.int ((p1).toInt8.toInt32)), .val (.int (7 : Int32))] [(.int (9 : Int32)), (.int (7 : Int32))])) (by intro t k; exact XS.iloadN X0.here hx rfl (hb hby d12_9) rfl k) ?_
                show Run _ _ _ _ _ _ _ s₁ (mkF m 10 #[.val (.ref a0), .val (.int p1), .val (.int (0 : Int32)), .val (.int (9 : Int32)), .val (.int ((p1).toInt8.toInt32)), .val (.int (7 : Int32))] [(.int (9 : Int32)), (.int (7 : Int32))])
                refine go (T' := s₁) (f' := (mkF m 13 #[.val (.ref a0), .val (.int p1), .val (.int (0 : Int32)), .val (.int (9 : Int32)), .val (.int ((p1).toInt8.toInt32)), .val (.int (7 : Int32))] [])) (by intro t k; exact XS.icmpNo X0.here hx rfl (hb hby d12_10) rfl (tlt (by decide : (7 : Int32) < (9 : Int32))).2.1 k) ?_
                show Run _ _ _ _ _ _ _ s₁ (mkF m 13 #[.val (.ref a0), .val (.int p1), .val (.int (0 : Int32)), .val (.int (9 : Int32)), .val (.int ((p1).toInt8.toInt32)), .val (.int (7 : Int32))] [])
                refine go (T' := s₁) (f' := (mkF m 14 #[.val (.ref a0), .val (.int p1), .val (.int (0 : Int32)), .val (.int (9 : Int32)), .val (.int ((p1).toInt8.toInt32)), .val (.int (7 : Int32))] [(.ref a0)])) (by intro t k; exact XS.aloadN X0.here hx rfl (hb hby d12_13) rfl rfl k) ?_
                show Run _ _ _ _ _ _ _ s₁ (mkF m 14 #[.val (.ref a0), .val (.int p1), .val (.int (0 : Int32)), .val (.int (9 : Int32)), .val (.int ((p1).toInt8.toInt32)), .val (.int (7 : Int32))] [(.ref a0)])
                refine go (T' := s₁) (f' := (mkF m 16 #[.val (.ref a0), .val (.int p1), .val (.int (0 : Int32)), .val (.int (9 : Int32)), .val (.int ((p1).toInt8.toInt32)), .val (.int (7 : Int32))] [(.int (7 : Int32)), (.ref a0)])) (by intro t k; exact XS.iload X0.here hx rfl (hb hby d12_14) rfl k) ?_
                show Run _ _ _ _ _ _ _ s₁ (mkF m 16 #[.val (.ref a0), .val (.int p1), .val (.int (0 : Int32)), .val (.int (9 : Int32)), .val (.int ((p1).toInt8.toInt32)), .val (.int (7 : Int32))] [(.int (7 : Int32)), (.ref a0)])
                refine go (T' := s₁) (f' := (mkF m 17 #[.val (.ref a0), .val (.int p1), .val (.int (0 : Int32)), .val (.int (9 : Int32)), .val (.int ((p1).toInt8.toInt32)), .val (.int (7 : Int32))] [(.int (96 : Int32))])) (by intro t k; exact ldB X0 hx hZ e0 A_a0 (j := (7 : Int32)) (v := (.int (96 : Int32))) (by decide) rfl (g := (mkF m 16 #[.val (.ref a0), .val (.int p1), .val (.int (0 : Int32)), .val (.int (9 : Int32)), .val (.int ((p1).toInt8.toInt32)), .val (.int (7 : Int32))] [(.int (7 : Int32)), (.ref a0)])) rfl rfl (hb hby d12_16) _ k) ?_
                show Run _ _ _ _ _ _ _ s₁ (mkF m 17 #[.val (.ref a0), .val (.int p1), .val (.int (0 : Int32)), .val (.int (9 : Int32)), .val (.int ((p1).toInt8.toInt32)), .val (.int (7 : Int32))] [(.int (96 : Int32))])
                refine go (T' := s₁) (f' := (mkF m 19 #[.val (.ref a0), .val (.int p1), .val (.int (0 : Int32)), .val (.int (9 : Int32)), .val (.int ((p1).toInt8.toInt32)), .val (.int (7 : Int32))] [(.int ((p1).toInt8.toInt32)), (.int (96 : Int32))])) (by intro t k; exact XS.iload X0.here hx rfl (hb hby d12_17) rfl k) ?_
                show Run _ _ _ _ _ _ _ s₁ (mkF m 19 #[.val (.ref a0), .val (.int p1), .val (.int (0 : Int32)), .val (.int (9 : Int32)), .val (.int ((p1).toInt8.toInt32)), .val (.int (7 : Int32))] [(.int ((p1).toInt8.toInt32)), (.int (96 : Int32))])
                by_cases hc19 : (96 : Int32) = ((p1).toInt8.toInt32)
                · refine go (T' := s₁) (f' := (mkF m 22 #[.val (.ref a0), .val (.int p1), .val (.int (0 : Int32)), .val (.int (9 : Int32)), .val (.int ((p1).toInt8.toInt32)), .val (.int (7 : Int32))] [])) (by intro t k; exact XS.icmpNo X0.here hx rfl (hb hby d12_19) rfl (teq hc19).2 k) ?_
                  show Run _ _ _ _ _ _ _ s₁ (mkF m 22 #[.val (.ref a0), .val (.int p1), .val (.int (0 : Int32)), .val (.int (9 : Int32)), .val (.int ((p1).toInt8.toInt32)), .val (.int (7 : Int32))] [])
                  refine go (T' := s₁) (f' := (mkF m 24 #[.val (.ref a0), .val (.int p1), .val (.int (0 : Int32)), .val (.int (9 : Int32)), .val (.int ((p1).toInt8.toInt32)), .val (.int (7 : Int32))] [(.int (7 : Int32))])) (by intro t k; exact XS.iload X0.here hx rfl (hb hby d12_22) rfl k) ?_
                  show Run _ _ _ _ _ _ _ s₁ (mkF m 24 #[.val (.ref a0), .val (.int p1), .val (.int (0 : Int32)), .val (.int (9 : Int32)), .val (.int ((p1).toInt8.toInt32)), .val (.int (7 : Int32))] [(.int (7 : Int32))])
                  refine retW X0 hx (t := .int) Bd.returns rfl (Or.inl ⟨rfl, Or.inl rfl, _, rfl⟩) (hb hby d12_24) hlk (by decide) (by decide) ?_
                  show Q12 Z a0 p1 h0 n0 _ s₁.heap _
                  rw [e0]
                  have hv' : (7 : Int32) = (own_ix p1) := by
                    unfold own_ix
                    (repeat' split) <;> first | rfl | contradiction
                  have hv : (some (.int (7 : Int32)) : Option Value) = some (.int (own_ix p1)) := congrArg (fun z => (some (.int z) : Option Value)) hv'
                  exact ⟨hv, N0, rfl⟩
                · refine go (T' := s₁) (f' := (mkF m 25 #[.val (.ref a0), .val (.int p1), .val (.int (0 : Int32)), .val (.int (9 : Int32)), .val (.int ((p1).toInt8.toInt32)), .val (.int (7 : Int32))] [])) (by intro t k; exact XS.icmpYes X0.here hx rfl (pc0 := 19) (pc' := 25) rfl (hb hby d12_19) rfl (feq hc19).2 (by decide) (by decide) k) ?_
                  show Run _ _ _ _ _ _ _ s₁ (mkF m 25 #[.val (.ref a0), .val (.int p1), .val (.int (0 : Int32)), .val (.int (9 : Int32)), .val (.int ((p1).toInt8.toInt32)), .val (.int (7 : Int32))] [])
                  refine go (T' := s₁) (f' := (mkF m 28 #[.val (.ref a0), .val (.int p1), .val (.int (0 : Int32)), .val (.int (9 : Int32)), .val (.int ((p1).toInt8.toInt32)), .val (.int (8 : Int32))] [])) (by intro t k; exact XS.iinc X0.here hx rfl (hb hby d12_25) rfl (l' := #[.val (.ref a0), .val (.int p1), .val (.int (0 : Int32)), .val (.int (9 : Int32)), .val (.int ((p1).toInt8.toInt32)), .val (.int (8 : Int32))]) rfl k) ?_
                  show Run _ _ _ _ _ _ _ s₁ (mkF m 28 #[.val (.ref a0), .val (.int p1), .val (.int (0 : Int32)), .val (.int (9 : Int32)), .val (.int ((p1).toInt8.toInt32)), .val (.int (8 : Int32))] [])
                  refine go (T' := s₁) (f' := (mkF m 7 #[.val (.ref a0), .val (.int p1), .val (.int (0 : Int32)), .val (.int (9 : Int32)), .val (.int ((p1).toInt8.toInt32)), .val (.int (8 : Int32))] [])) (by intro t k; exact XS.goto X0.here hx rfl (pc0 := 28) (pc' := 7) rfl (hb hby d12_28) (by decide) (by decide) k) ?_
                  show Run _ _ _ _ _ _ _ s₁ (mkF m 7 #[.val (.ref a0), .val (.int p1), .val (.int (0 : Int32)), .val (.int (9 : Int32)), .val (.int ((p1).toInt8.toInt32)), .val (.int (8 : Int32))] [])
                  refine go (T' := s₁) (f' := (mkF m 9 #[.val (.ref a0), .val (.int p1), .val (.int (0 : Int32)), .val (.int (9 : Int32)), .val (.int ((p1).toInt8.toInt32)), .val (.int (8 : Int32))] [(.int (8 : Int32))])) (by intro t k; exact XS.iload X0.here hx rfl (hb hby d12_7) rfl k) ?_
                  show Run _ _ _ _ _ _ _ s₁ (mkF m 9 #[.val (.ref a0), .val (.int p1), .val (.int (0 : Int32)), .val (.int (9 : Int32)), .val (.int ((p1).toInt8.toInt32)), .val (.int (8 : Int32))] [(.int (8 : Int32))])
                  refine go (T' := s₁) (f' := (mkF m 10 #[.val (.ref a0), .val (.int p1), .val (.int (0 : Int32)), .val (.int (9 : Int32)), .val (.int ((p1).toInt8.toInt32)), .val (.int (8 : Int32))] [(.int (9 : Int32)), (.int (8 : Int32))])) (by intro t k; exact XS.iloadN X0.here hx rfl (hb hby d12_9) rfl k) ?_
                  show Run _ _ _ _ _ _ _ s₁ (mkF m 10 #[.val (.ref a0), .val (.int p1), .val (.int (0 : Int32)), .val (.int (9 : Int32)), .val (.int ((p1).toInt8.toInt32)), .val (.int (8 : Int32))] [(.int (9 : Int32)), (.int (8 : Int32))])
                  refine go (T' := s₁) (f' := (mkF m 13 #[.val (.ref a0), .val (.int p1), .val (.int (0 : Int32)), .val (.int (9 : Int32)), .val (.int ((p1).toInt8.toInt32)), .val (.int (8 : Int32))] [])) (by intro t k; exact XS.icmpNo X0.here hx rfl (hb hby d12_10) rfl (tlt (by decide : (8 : Int32) < (9 : Int32))).2.1 k) ?_
                  show Run _ _ _ _ _ _ _ s₁ (mkF m 13 #[.val (.ref a0), .val (.int p1), .val (.int (0 : Int32)), .val (.int (9 : Int32)), .val (.int ((p1).toInt8.toInt32)), .val (.int (8 : Int32))] [])
                  refine go (T' := s₁) (f' := (mkF m 14 #[.val (.ref a0), .val (.int p1), .val (.int (0 : Int32)), .val (.int (9 : Int32)), .val (.int ((p1).toInt8.toInt32)), .val (.int (8 : Int32))] [(.ref a0)])) (by intro t k; exact XS.aloadN X0.here hx rfl (hb hby d12_13) rfl rfl k) ?_
                  show Run _ _ _ _ _ _ _ s₁ (mkF m 14 #[.val (.ref a0), .val (.int p1), .val (.int (0 : Int32)), .val (.int (9 : Int32)), .val (.int ((p1).toInt8.toInt32)), .val (.int (8 : Int32))] [(.ref a0)])
                  refine go (T' := s₁) (f' := (mkF m 16 #[.val (.ref a0), .val (.int p1), .val (.int (0 : Int32)), .val (.int (9 : Int32)), .val (.int ((p1).toInt8.toInt32)), .val (.int (8 : Int32))] [(.int (8 : Int32)), (.ref a0)])) (by intro t k; exact XS.iload X0.here hx rfl (hb hby d12_14) rfl k) ?_
                  show Run _ _ _ _ _ _ _ s₁ (mkF m 16 #[.val (.ref a0), .val (.int p1), .val (.int (0 : Int32)), .val (.int (9 : Int32)), .val (.int ((p1).toInt8.toInt32)), .val (.int (8 : Int32))] [(.int (8 : Int32)), (.ref a0)])
                  refine go (T' := s₁) (f' := (mkF m 17 #[.val (.ref a0), .val (.int p1), .val (.int (0 : Int32)), .val (.int (9 : Int32)), .val (.int ((p1).toInt8.toInt32)), .val (.int (8 : Int32))] [(.int (92 : Int32))])) (by intro t k; exact ldB X0 hx hZ e0 A_a0 (j := (8 : Int32)) (v := (.int (92 : Int32))) (by decide) rfl (g := (mkF m 16 #[.val (.ref a0), .val (.int p1), .val (.int (0 : Int32)), .val (.int (9 : Int32)), .val (.int ((p1).toInt8.toInt32)), .val (.int (8 : Int32))] [(.int (8 : Int32)), (.ref a0)])) rfl rfl (hb hby d12_16) _ k) ?_
                  show Run _ _ _ _ _ _ _ s₁ (mkF m 17 #[.val (.ref a0), .val (.int p1), .val (.int (0 : Int32)), .val (.int (9 : Int32)), .val (.int ((p1).toInt8.toInt32)), .val (.int (8 : Int32))] [(.int (92 : Int32))])
                  refine go (T' := s₁) (f' := (mkF m 19 #[.val (.ref a0), .val (.int p1), .val (.int (0 : Int32)), .val (.int (9 : Int32)), .val (.int ((p1).toInt8.toInt32)), .val (.int (8 : Int32))] [(.int ((p1).toInt8.toInt32)), (.int (92 : Int32))])) (by intro t k; exact XS.iload X0.here hx rfl (hb hby d12_17) rfl k) ?_
                  show Run _ _ _ _ _ _ _ s₁ (mkF m 19 #[.val (.ref a0), .val (.int p1), .val (.int (0 : Int32)), .val (.int (9 : Int32)), .val (.int ((p1).toInt8.toInt32)), .val (.int (8 : Int32))] [(.int ((p1).toInt8.toInt32)), (.int (92 : Int32))])
                  by_cases hc19 : (92 : Int32) = ((p1).toInt8.toInt32)
                  · refine go (T' := s₁) (f' := (mkF m 22 #[.val (.ref a0), .val (.int p1), .val (.int (0 : Int32)), .val (.int (9 : Int32)), .val (.int ((p1).toInt8.toInt32)), .val (.int (8 : Int32))] [])) (by intro t k; exact XS.icmpNo X0.here hx rfl (hb hby d12_19) rfl (teq hc19).2 k) ?_
                    show Run _ _ _ _ _ _ _ s₁ (mkF m 22 #[.val (.ref a0), .val (.int p1), .val (.int (0 : Int32)), .val (.int (9 : Int32)), .val (.int ((p1).toInt8.toInt32)), .val (.int (8 : Int32))] [])
                    refine go (T' := s₁) (f' := (mkF m 24 #[.val (.ref a0), .val (.int p1), .val (.int (0 : Int32)), .val (.int (9 : Int32)), .val (.int ((p1).toInt8.toInt32)), .val (.int (8 : Int32))] [(.int (8 : Int32))])) (by intro t k; exact XS.iload X0.here hx rfl (hb hby d12_22) rfl k) ?_
                    show Run _ _ _ _ _ _ _ s₁ (mkF m 24 #[.val (.ref a0), .val (.int p1), .val (.int (0 : Int32)), .val (.int (9 : Int32)), .val (.int ((p1).toInt8.toInt32)), .val (.int (8 : Int32))] [(.int (8 : Int32))])
                    refine retW X0 hx (t := .int) Bd.returns rfl (Or.inl ⟨rfl, Or.inl rfl, _, rfl⟩) (hb hby d12_24) hlk (by decide) (by decide) ?_
                    show Q12 Z a0 p1 h0 n0 _ s₁.heap _
                    rw [e0]
                    have hv' : (8 : Int32) = (own_ix p1) := by
                      unfold own_ix
                      (repeat' split) <;> first | rfl | contradiction
                    have hv : (some (.int (8 : Int32)) : Option Value) = some (.int (own_ix p1)) := congrArg (fun z => (some (.int z) : Option Value)) hv'
                    exact ⟨hv, N0, rfl⟩
                  · refine go (T' := s₁) (f' := (mkF m 25 #[.val (.ref a0), .val (.int p1), .val (.int (0 : Int32)), .val (.int (9 : Int32)), .val (.int ((p1).toInt8.toInt32)), .val (.int (8 : Int32))] [])) (by intro t k; exact XS.icmpYes X0.here hx rfl (pc0 := 19) (pc' := 25) rfl (hb hby d12_19) rfl (feq hc19).2 (by decide) (by decide) k) ?_
                    show Run _ _ _ _ _ _ _ s₁ (mkF m 25 #[.val (.ref a0), .val (.int p1), .val (.int (0 : Int32)), .val (.int (9 : Int32)), .val (.int ((p1).toInt8.toInt32)), .val (.int (8 : Int32))] [])
                    refine go (T' := s₁) (f' := (mkF m 28 #[.val (.ref a0), .val (.int p1), .val (.int (0 : Int32)), .val (.int (9 : Int32)), .val (.int ((p1).toInt8.toInt32)), .val (.int (9 : Int32))] [])) (by intro t k; exact XS.iinc X0.here hx rfl (hb hby d12_25) rfl (l' := #[.val (.ref a0), .val (.int p1), .val (.int (0 : Int32)), .val (.int (9 : Int32)), .val (.int ((p1).toInt8.toInt32)), .val (.int (9 : Int32))]) rfl k) ?_
                    show Run _ _ _ _ _ _ _ s₁ (mkF m 28 #[.val (.ref a0), .val (.int p1), .val (.int (0 : Int32)), .val (.int (9 : Int32)), .val (.int ((p1).toInt8.toInt32)), .val (.int (9 : Int32))] [])
                    refine go (T' := s₁) (f' := (mkF m 7 #[.val (.ref a0), .val (.int p1), .val (.int (0 : Int32)), .val (.int (9 : Int32)), .val (.int ((p1).toInt8.toInt32)), .val (.int (9 : Int32))] [])) (by intro t k; exact XS.goto X0.here hx rfl (pc0 := 28) (pc' := 7) rfl (hb hby d12_28) (by decide) (by decide) k) ?_
                    show Run _ _ _ _ _ _ _ s₁ (mkF m 7 #[.val (.ref a0), .val (.int p1), .val (.int (0 : Int32)), .val (.int (9 : Int32)), .val (.int ((p1).toInt8.toInt32)), .val (.int (9 : Int32))] [])
                    refine go (T' := s₁) (f' := (mkF m 9 #[.val (.ref a0), .val (.int p1), .val (.int (0 : Int32)), .val (.int (9 : Int32)), .val (.int ((p1).toInt8.toInt32)), .val (.int (9 : Int32))] [(.int (9 : Int32))])) (by intro t k; exact XS.iload X0.here hx rfl (hb hby d12_7) rfl k) ?_
                    show Run _ _ _ _ _ _ _ s₁ (mkF m 9 #[.val (.ref a0), .val (.int p1), .val (.int (0 : Int32)), .val (.int (9 : Int32)), .val (.int ((p1).toInt8.toInt32)), .val (.int (9 : Int32))] [(.int (9 : Int32))])
                    refine go (T' := s₁) (f' := (mkF m 10 #[.val (.ref a0), .val (.int p1), .val (.int (0 : Int32)), .val (.int (9 : Int32)), .val (.int ((p1).toInt8.toInt32)), .val (.int (9 : Int32))] [(.int (9 : Int32)), (.int (9 : Int32))])) (by intro t k; exact XS.iloadN X0.here hx rfl (hb hby d12_9) rfl k) ?_
                    show Run _ _ _ _ _ _ _ s₁ (mkF m 10 #[.val (.ref a0), .val (.int p1), .val (.int (0 : Int32)), .val (.int (9 : Int32)), .val (.int ((p1).toInt8.toInt32)), .val (.int (9 : Int32))] [(.int (9 : Int32)), (.int (9 : Int32))])
                    refine go (T' := s₁) (f' := (mkF m 31 #[.val (.ref a0), .val (.int p1), .val (.int (0 : Int32)), .val (.int (9 : Int32)), .val (.int ((p1).toInt8.toInt32)), .val (.int (9 : Int32))] [])) (by intro t k; exact XS.icmpYes X0.here hx rfl (pc0 := 10) (pc' := 31) rfl (hb hby d12_10) rfl (flt (by decide : ¬ ((9 : Int32) < (9 : Int32)))).2.1 (by decide) (by decide) k) ?_
                    show Run _ _ _ _ _ _ _ s₁ (mkF m 31 #[.val (.ref a0), .val (.int p1), .val (.int (0 : Int32)), .val (.int (9 : Int32)), .val (.int ((p1).toInt8.toInt32)), .val (.int (9 : Int32))] [])
                    refine go (T' := s₁) (f' := (mkF m 32 #[.val (.ref a0), .val (.int p1), .val (.int (0 : Int32)), .val (.int (9 : Int32)), .val (.int ((p1).toInt8.toInt32)), .val (.int (9 : Int32))] [(.int (-1 : Int32))])) (by intro t k; exact XS.iconst X0.here hx rfl (hb hby d12_31) k) ?_
                    show Run _ _ _ _ _ _ _ s₁ (mkF m 32 #[.val (.ref a0), .val (.int p1), .val (.int (0 : Int32)), .val (.int (9 : Int32)), .val (.int ((p1).toInt8.toInt32)), .val (.int (9 : Int32))] [(.int (-1 : Int32))])
                    refine retW X0 hx (t := .int) Bd.returns rfl (Or.inl ⟨rfl, Or.inl rfl, _, rfl⟩) (hb hby d12_32) hlk (by decide) (by decide) ?_
                    show Q12 Z a0 p1 h0 n0 _ s₁.heap _
                    rw [e0]
                    have hv' : (-1 : Int32) = (own_ix p1) := by
                      unfold own_ix
                      (repeat' split) <;> first | rfl | contradiction
                    have hv : (some (.int (-1 : Int32)) : Option Value) = some (.int (own_ix p1)) := congrArg (fun z => (some (.int z) : Option Value)) hv'
                    exact ⟨hv, N0, rfl⟩
theorem d8_0 : decode jdk_43_method_22_code 0 = .ok (.iload_n 1, 1) := by decide +kernel
theorem d8_1 : decode jdk_43_method_22_code 1 = .ok (.invokestatic 88, 3) := by decide +kernel
theorem d8_4 : decode jdk_43_method_22_code 4 = .ok (.ifCond .ne 5, 3) := by decide +kernel
theorem d8_7 : decode jdk_43_method_22_code 7 = .ok (.iconst (-1), 1) := by decide +kernel
theorem d8_8 : decode jdk_43_method_22_code 8 = .ok (.ireturn, 1) := by decide +kernel
theorem d8_9 : decode jdk_43_method_22_code 9 = .ok (.iload_n 2, 1) := by decide +kernel
theorem d8_10 : decode jdk_43_method_22_code 10 = .ok (.iconst 0, 1) := by decide +kernel
theorem d8_11 : decode jdk_43_method_22_code 11 = .ok (.invokestatic 92, 3) := by decide +kernel
theorem d8_14 : decode jdk_43_method_22_code 14 = .ok (.istore_n 2, 1) := by decide +kernel
theorem d8_15 : decode jdk_43_method_22_code 15 = .ok (.iload_n 3, 1) := by decide +kernel
theorem d8_16 : decode jdk_43_method_22_code 16 = .ok (.aload_n 0, 1) := by decide +kernel
theorem d8_17 : decode jdk_43_method_22_code 17 = .ok (.arraylength, 1) := by decide +kernel
theorem d8_18 : decode jdk_43_method_22_code 18 = .ok (.invokestatic 38, 3) := by decide +kernel
theorem d8_21 : decode jdk_43_method_22_code 21 = .ok (.istore_n 3, 1) := by decide +kernel
theorem d8_22 : decode jdk_43_method_22_code 22 = .ok (.iload_n 2, 1) := by decide +kernel
theorem d8_23 : decode jdk_43_method_22_code 23 = .ok (.iload_n 3, 1) := by decide +kernel
theorem d8_24 : decode jdk_43_method_22_code 24 = .ok (.if_icmp .lt 5, 3) := by decide +kernel
theorem d8_29 : decode jdk_43_method_22_code 29 = .ok (.aload_n 0, 1) := by decide +kernel
theorem d8_30 : decode jdk_43_method_22_code 30 = .ok (.iload_n 1, 1) := by decide +kernel
theorem d8_31 : decode jdk_43_method_22_code 31 = .ok (.iload_n 2, 1) := by decide +kernel
theorem d8_32 : decode jdk_43_method_22_code 32 = .ok (.iload_n 3, 1) := by decide +kernel
theorem d8_33 : decode jdk_43_method_22_code 33 = .ok (.invokestatic 95, 3) := by decide +kernel
theorem d8_36 : decode jdk_43_method_22_code 36 = .ok (.ireturn, 1) := by decide +kernel
theorem pd_28I29Z : parseMethodDescriptor "(I)Z" = some ⟨[.int], some .boolean⟩ := by decide +kernel
theorem pd_28II29I : parseMethodDescriptor "(II)I" = some ⟨[.int, .int], some .int⟩ := by decide +kernel
theorem pd_285bBIII29I : parseMethodDescriptor "([BIII)I" = some ⟨[(.array .byte), .int, .int, .int], some .int⟩ := by decide +kernel
theorem ef_8 (m : MethodId) (x0 : Addr) (x1 : Int32) : entryFrame m #[(.ref x0), (.int x1), (.int (0 : Int32)), (.int (9 : Int32))] 4 = mkF m 0 #[.val (.ref x0), .val (.int x1), .val (.int (0 : Int32)), .val (.int (9 : Int32))] [] := by first | (simp [entryFrame, mkF, argsToLocals, Value.category]; done) | rfl
def Q8 (Z : State) (a0 : Addr) (p1 : Int32) (h0 : Heap) (n0 : Nat) (v : Option Value) (h : Heap) (L : List Loc) : Prop := v = some (.int (own_li p1)) ∧ Fr n0 L ∧ h = h0
set_option maxRecDepth 65536 in
set_option maxHeartbeats 40000000 in
theorem rm8 (l : Launch) (Z : State) (aw : Array Value) (hw : ∀ d ∈ tables_1, d.before aw Z = true) (ws : List Jvm.Cond) (a0 : Addr) (p1 : Int32) (h0 : Heap) (n0 : Nat) (Z0 : n0 ≤ h0.size) (A_a0 : Ary Z h0 a0 .byte [(.int (60 : Int32)), (.int (62 : Int32)), (.int (34 : Int32)), (.int (123 : Int32)), (.int (125 : Int32)), (.int (124 : Int32)), (.int (94 : Int32)), (.int (96 : Int32)), (.int (92 : Int32))]) :
    MetFree l (⟨"java/lang/StringLatin1", "indexOf", "([BIII)I"⟩ : MethodName) (head1 (Jvm.Cond.code (⟨"java/lang/StringLatin1", "indexOf", "([BIII)I"⟩ : MethodName) jdk_43_method_22_code 4 (some .int) :: ws) ({ frames := 1, cells := 0, slots := 0, locals := 17 } : Room)) (fun a U => a = #[(.ref a0), (.int p1), (.int (0 : Int32)), (.int (9 : Int32))] ∧ Z.Warmed39 U.vm ∧ U.heap = h0) (fun _ _ _ _ _ => True) (fun _ U o U' => ∃ v L, o = .returned v ∧ Q8 Z a0 p1 h0 n0 v U'.heap L ∧ FrameEnd U o U' L ({ frames := 1, cells := 0, slots := 0, locals := 17 } : Room).cells ({ frames := 1, cells := 0, slots := 0, locals := 17 } : Room).slots) := by
  refine MetFree.of_bodySF (plainFor_of_name pn_9) hisR ?_
  intro p e s m args below meth c s₁ Bd hml0 hP hK
  obtain ⟨rfl, hZ, hh⟩ := hP
  have hx := Bd.exec
  have hby := Bd.bytes
  have hml : c.maxLocals = 4 := hml0
  have hown : s.vm.findClass "java/lang/StringLatin1" = some m.cls := findClass_of_methodNamed Bd.named
  have hnm := (name_of_methodNamed Bd.named Bd.method).1
  have hlk : meth.locks = false := BodyLoose.notSynchronized Bd
  have X0 : Stand p l e ({ frames := 1, cells := 0, slots := 0, locals := 17 } : Room) s m #[(.ref a0), (.int p1), (.int (0 : Int32)), (.int (9 : Int32))] below meth c s₁ [] 0 0 := Stand.of_body Bd
  have e0 : s₁.heap = h0 := by rw [← hh, Bd.state]; rfl
  have N0 := Fr.nil n0
  show Run p e s below (Q8 Z a0 p1 h0 n0) ({ frames := 1, cells := 0, slots := 0, locals := 17 } : Room).cells ({ frames := 1, cells := 0, slots := 0, locals := 17 } : Room).slots s₁ (entryFrame m #[(.ref a0), (.int p1), (.int (0 : Int32)), (.int (9 : Int32))] 4)
  rw [ef_8]
  show Run _ _ _ _ _ _ _ s₁ (mkF m 0 #[.val (.ref a0), .val (.int p1), .val (.int (0 : Int32)), .val (.int (9 : Int32))] [])
  refine go (T' := s₁) (f' := (mkF m 1 #[.val (.ref a0), .val (.int p1), .val (.int (0 : Int32)), .val (.int (9 : Int32))] [(.int p1)])) (by intro t k; exact XS.iloadN X0.here hx rfl (hb hby d8_0) rfl k) ?_
  show Run _ _ _ _ _ _ _ s₁ (mkF m 1 #[.val (.ref a0), .val (.int p1), .val (.int (0 : Int32)), .val (.int (9 : Int32))] [(.int p1)])
  obtain ⟨_, _, ⟨T1, Lz1, kz1, nz1⟩, -, X1, ⟨Lc1, hQ1, lz1, yz1, zz1⟩, st1⟩ := Jvm.LawKit.callS X0 hx (y := (⟨"java/lang/StringLatin1", "canEncode", "(I)Z"⟩ : MethodName)) hown (mvT hZ (hw _ (List.mem_of_getElem? (i := 48) rfl))) (mvT hZ (hw _ (List.mem_of_getElem? (i := 49) rfl))) (mvT hZ (hw _ (List.mem_of_getElem? (i := 46) rfl))) (mvT hZ (hw _ (List.mem_of_getElem? (i := 50) rfl))) (by decide) (backOf (W := 0) (rm9 l Z aw hw [] p1  h0 n0 Z0 ) hZ (hw _ (List.mem_of_getElem? (i := 50) rfl)) (hw _ (List.mem_of_getElem? (i := 46) rfl)) (by decide) (by decide)) (g := (mkF m 1 #[.val (.ref a0), .val (.int p1), .val (.int (0 : Int32)), .val (.int (9 : Int32))] [(.int p1)])) rfl (by rw [hml]; rfl) (argsL := [(.int p1)]) (rest := []) (lenOf pd_28I29Z rfl) rfl (by show 2 * 0 + _ ≤ _; exact Nat.le_of_eq rfl) (hb hby d8_1) (fun _ _ => ⟨rfl, e0, (by decide : 0 + 0 ≤ _), (by decide : 0 + 0 ≤ _)⟩)
  dsimp only [Pt.U, Pt.locs, Pt.cells, Pt.slots] at X1 lz1 yz1 zz1 st1 hQ1
  subst lz1 yz1 zz1
  obtain ⟨rfl, N1q, e1⟩ := hQ1
  have N1 := Fr.app N0 N1q
  refine go st1 ?_
  show Run _ _ _ _ _ _ _ T1 (mkF m 4 #[.val (.ref a0), .val (.int p1), .val (.int (0 : Int32)), .val (.int (9 : Int32))] [(.int (own_can p1))])
  by_cases hc4 : (own_can p1) = (0 : Int32)
  · refine go (T' := T1) (f' := (mkF m 7 #[.val (.ref a0), .val (.int p1), .val (.int (0 : Int32)), .val (.int (9 : Int32))] [])) (by intro t k; exact XS.ifNo X1.here hx rfl (hb hby d8_4) rfl ((if0 _ _).trans (teq hc4).2) k) ?_
    show Run _ _ _ _ _ _ _ T1 (mkF m 7 #[.val (.ref a0), .val (.int p1), .val (.int (0 : Int32)), .val (.int (9 : Int32))] [])
    refine go (T' := T1) (f' := (mkF m 8 #[.val (.ref a0), .val (.int p1), .val (.int (0 : Int32)), .val (.int (9 : Int32))] [(.int (-1 : Int32))])) (by intro t k; exact XS.iconst X1.here hx rfl (hb hby d8_7) k) ?_
    show Run _ _ _ _ _ _ _ T1 (mkF m 8 #[.val (.ref a0), .val (.int p1), .val (.int (0 : Int32)), .val (.int (9 : Int32))] [(.int (-1 : Int32))])
    refine retW X1 hx (t := .int) Bd.returns rfl (Or.inl ⟨rfl, Or.inl rfl, _, rfl⟩) (hb hby d8_8) hlk (by decide) (by decide) ?_
    show Q8 Z a0 p1 h0 n0 _ T1.heap _
    rw [e1]
    have hv' : (-1 : Int32) = (own_li p1) := by
      unfold own_li
      first | (rw [if_pos hc4]) | (rw [if_neg hc4])
    have hv : (some (.int (-1 : Int32)) : Option Value) = some (.int (own_li p1)) := congrArg (fun z => (some (.int z) : Option Value)) hv'
    exact ⟨hv, N1, rfl⟩
  · refine go (T' := T1) (f' := (mkF m 9 #[.val (.ref a0), .val (.int p1), .val (.int (0 : Int32)), .val (.int (9 : Int32))] [])) (by intro t k; exact XS.ifYes X1.here hx rfl (pc0 := 4) (pc' := 9) rfl (hb hby d8_4) rfl ((if0 _ _).trans (feq hc4).2) (by decide) (by decide) k) ?_
    show Run _ _ _ _ _ _ _ T1 (mkF m 9 #[.val (.ref a0), .val (.int p1), .val (.int (0 : Int32)), .val (.int (9 : Int32))] [])
    refine go (T' := T1) (f' := (mkF m 10 #[.val (.ref a0), .val (.int p1), .val (.int (0 : Int32)), .val (.int (9 : Int32))] [(.int (0 : Int32))])) (by intro t k; exact XS.iloadN X1.here hx rfl (hb hby d8_9) rfl k) ?_
    show Run _ _ _ _ _ _ _ T1 (mkF m 10 #[.val (.ref a0), .val (.int p1), .val (.int (0 : Int32)), .val (.int (9 : Int32))] [(.int (0 : Int32))])
    refine go (T' := T1) (f' := (mkF m 11 #[.val (.ref a0), .val (.int p1), .val (.int (0 : Int32)), .val (.int (9 : Int32))] [(.int (0 : Int32)), (.int (0 : Int32))])) (by intro t k; exact XS.iconst X1.here hx rfl (hb hby d8_10) k) ?_
    show Run _ _ _ _ _ _ _ T1 (mkF m 11 #[.val (.ref a0), .val (.int p1), .val (.int (0 : Int32)), .val (.int (9 : Int32))] [(.int (0 : Int32)), (.int (0 : Int32))])
    obtain ⟨_, _, ⟨T2, Lz2, kz2, nz2⟩, -, X2, ⟨Lc2, hQ2, lz2, yz2, zz2⟩, st2⟩ := Jvm.LawKit.callS X1 hx (y := (⟨"java/lang/Math", "max", "(II)I"⟩ : MethodName)) hown (mvT hZ (hw _ (List.mem_of_getElem? (i := 51) rfl))) (mvT hZ (hw _ (List.mem_of_getElem? (i := 52) rfl))) (mvT hZ (hw _ (List.mem_of_getElem? (i := 53) rfl))) (mvT hZ (hw _ (List.mem_of_getElem? (i := 54) rfl))) (by decide) (backOf (W := 0) (rm10 l Z aw hw [] (0 : Int32) (0 : Int32)  h0 n0 Z0 ) hZ (hw _ (List.mem_of_getElem? (i := 54) rfl)) (hw _ (List.mem_of_getElem? (i := 53) rfl)) (by decide) (by decide)) (g := (mkF m 11 #[.val (.ref a0), .val (.int p1), .val (.int (0 : Int32)), .val (.int (9 : Int32))] [(.int (0 : Int32)), (.int (0 : Int32))])) rfl (by rw [hml]; rfl) (argsL := [(.int (0 : Int32)), (.int (0 : Int32))]) (rest := []) (lenOf pd_28II29I rfl) rfl (by show 2 * 0 + _ ≤ _; exact Nat.le_of_eq rfl) (hb hby d8_11) (fun _ _ => ⟨rfl, e1, (by decide : 0 + 0 ≤ _), (by decide : 0 + 0 ≤ _)⟩)
    dsimp only [Pt.U, Pt.locs, Pt.cells, Pt.slots] at X2 lz2 yz2 zz2 st2 hQ2
    subst lz2 yz2 zz2
    obtain ⟨rfl, N2q, e2⟩ := hQ2
    have N2 := Fr.app N1 N2q
    refine go st2 ?_
    show Run _ _ _ _ _ _ _ T2 (mkF m 14 #[.val (.ref a0), .val (.int p1), .val (.int (0 : Int32)), .val (.int (9 : Int32))] [(.int (0 : Int32))])
    refine go (T' := T2) (f' := (mkF m 15 #[.val (.ref a0), .val (.int p1), .val (.int (0 : Int32)), .val (.int (9 : Int32))] [])) (by intro t k; exact XS.istoreN X2.here hx rfl (hb hby d8_14) rfl (l' := #[.val (.ref a0), .val (.int p1), .val (.int (0 : Int32)), .val (.int (9 : Int32))]) rfl k) ?_
    show Run _ _ _ _ _ _ _ T2 (mkF m 15 #[.val (.ref a0), .val (.int p1), .val (.int (0 : Int32)), .val (.int (9 : Int32))] [])
    refine go (T' := T2) (f' := (mkF m 16 #[.val (.ref a0), .val (.int p1), .val (.int (0 : Int32)), .val (.int (9 : Int32))] [(.int (9 : Int32))])) (by intro t k; exact XS.iloadN X2.here hx rfl (hb hby d8_15) rfl k) ?_
    show Run _ _ _ _ _ _ _ T2 (mkF m 16 #[.val (.ref a0), .val (.int p1), .val (.int (0 : Int32)), .val (.int (9 : Int32))] [(.int (9 : Int32))])
    refine go (T' := T2) (f' := (mkF m 17 #[.val (.ref a0), .val (.int p1), .val (.int (0 : Int32)), .val (.int (9 : Int32))] [(.ref a0), (.int (9 : Int32))])) (by intro t k; exact XS.aloadN X2.here hx rfl (hb hby d8_16) rfl rfl k) ?_
    show Run _ _ _ _ _ _ _ T2 (mkF m 17 #[.val (.ref a0), .val (.int p1), .val (.int (0 : Int32)), .val (.int (9 : Int32))] [(.ref a0), (.int (9 : Int32))])
    refine go (T' := T2) (f' := (mkF m 18 #[.val (.ref a0), .val (.int p1), .val (.int (0 : Int32)), .val (.int (9 : Int32))] [(.int (9 : Int32)), (.int (9 : Int32))])) (by intro t k; exact alen X2 hx hZ e2 A_a0 (z := (9 : Int32)) rfl (g := (mkF m 17 #[.val (.ref a0), .val (.int p1), .val (.int (0 : Int32)), .val (.int (9 : Int32))] [(.ref a0), (.int (9 : Int32))])) rfl rfl (hb hby d8_17) _ k) ?_
    show Run _ _ _ _ _ _ _ T2 (mkF m 18 #[.val (.ref a0), .val (.int p1), .val (.int (0 : Int32)), .val (.int (9 : Int32))] [(.int (9 : Int32)), (.int (9 : Int32))])
    obtain ⟨_, _, ⟨T3, Lz3, kz3, nz3⟩, -, X3, ⟨Lc3, hQ3, lz3, yz3, zz3⟩, st3⟩ := Jvm.LawKit.callS X2 hx (y := (⟨"java/lang/Math", "min", "(II)I"⟩ : MethodName)) hown (mvT hZ (hw _ (List.mem_of_getElem? (i := 55) rfl))) (mvT hZ (hw _ (List.mem_of_getElem? (i := 56) rfl))) (mvT hZ (hw _ (List.mem_of_getElem? (i := 53) rfl))) (mvT hZ (hw _ (List.mem_of_getElem? (i := 57) rfl))) (by decide) (backOf (W := 0) (rm11 l Z aw hw [] (9 : Int32) (9 : Int32)  h0 n0 Z0 ) hZ (hw _ (List.mem_of_getElem? (i := 57) rfl)) (hw _ (List.mem_of_getElem? (i := 53) rfl)) (by decide) (by decide)) (g := (mkF m 18 #[.val (.ref a0), .val (.int p1), .val (.int (0 : Int32)), .val (.int (9 : Int32))] [(.int (9 : Int32)), (.int (9 : Int32))])) rfl (by rw [hml]; rfl) (argsL := [(.int (9 : Int32)), (.int (9 : Int32))]) (rest := []) (lenOf pd_28II29I rfl) rfl (by show 2 * 0 + _ ≤ _; exact Nat.le_of_eq rfl) (hb hby d8_18) (fun _ _ => ⟨rfl, e2, (by decide : 0 + 0 ≤ _), (by decide : 0 + 0 ≤ _)⟩)
    dsimp only [Pt.U, Pt.locs, Pt.cells, Pt.slots] at X3 lz3 yz3 zz3 st3 hQ3
    subst lz3 yz3 zz3
    obtain ⟨rfl, N3q, e3⟩ := hQ3
    have N3 := Fr.app N2 N3q
    refine go st3 ?_
    show Run _ _ _ _ _ _ _ T3 (mkF m 21 #[.val (.ref a0), .val (.int p1), .val (.int (0 : Int32)), .val (.int (9 : Int32))] [(.int (9 : Int32))])
    refine go (T' := T3) (f' := (mkF m 22 #[.val (.ref a0), .val (.int p1), .val (.int (0 : Int32)), .val (.int (9 : Int32))] [])) (by intro t k; exact XS.istoreN X3.here hx rfl (hb hby d8_21) rfl (l' := #[.val (.ref a0), .val (.int p1), .val (.int (0 : Int32)), .val (.int (9 : Int32))]) rfl k) ?_
    show Run _ _ _ _ _ _ _ T3 (mkF m 22 #[.val (.ref a0), .val (.int p1), .val (.int (0 : Int32)), .val (.int (9 : Int32))] [])
    refine go (T' := T3) (f' := (mkF m 23 #[.val (.ref a0), .val (.int p1), .val (.int (0 : Int32)), .val (.int (9 : Int32))] [(.int (0 : Int32))])) (by intro t k; exact XS.iloadN X3.here hx rfl (hb hby d8_22) rfl k) ?_
    show Run _ _ _ _ _ _ _ T3 (mkF m 23 #[.val (.ref a0), .val (.int p1), .val (.int (0 : Int32)), .val (.int (9 : Int32))] [(.int (0 : Int32))])
    refine go (T' := T3) (f' := (mkF m 24 #[.val (.ref a0), .val (.int p1), .val (.int (0 : Int32)), .val (.int (9 : Int32))] [(.int (9 : Int32)), (.int (0 : Int32))])) (by intro t k; exact XS.iloadN X3.here hx rfl (hb hby d8_23) rfl k) ?_
    show Run _ _ _ _ _ _ _ T3 (mkF m 24 #[.val (.ref a0), .val (.int p1), .val (.int (0 : Int32)), .val (.int (9 : Int32))] [(.int (9 : Int32)), (.int (0 : Int32))])
    refine go (T' := T3) (f' := (mkF m 29 #[.val (.ref a0), .val (.int p1), .val (.int (0 : Int32)), .val (.int (9 : Int32))] [])) (by intro t k; exact XS.icmpYes X3.here hx rfl (pc0 := 24) (pc' := 29) rfl (hb hby d8_24) rfl (tlt (by decide : (0 : Int32) < (9 : Int32))).1 (by decide) (by decide) k) ?_
    show Run _ _ _ _ _ _ _ T3 (mkF m 29 #[.val (.ref a0), .val (.int p1), .val (.int (0 : Int32)), .val (.int (9 : Int32))] [])
    refine go (T' := T3) (f' := (mkF m 30 #[.val (.ref a0), .val (.int p1), .val (.int (0 : Int32)), .val (.int (9 : Int32))] [(.ref a0)])) (by intro t k; exact XS.aloadN X3.here hx rfl (hb hby d8_29) rfl rfl k) ?_
    show Run _ _ _ _ _ _ _ T3 (mkF m 30 #[.val (.ref a0), .val (.int p1), .val (.int (0 : Int32)), .val (.int (9 : Int32))] [(.ref a0)])
    refine go (T' := T3) (f' := (mkF m 31 #[.val (.ref a0), .val (.int p1), .val (.int (0 : Int32)), .val (.int (9 : Int32))] [(.int p1), (.ref a0)])) (by intro t k; exact XS.iloadN X3.here hx rfl (hb hby d8_30) rfl k) ?_
    show Run _ _ _ _ _ _ _ T3 (mkF m 31 #[.val (.ref a0), .val (.int p1), .val (.int (0 : Int32)), .val (.int (9 : Int32))] [(.int p1), (.ref a0)])
    refine go (T' := T3) (f' := (mkF m 32 #[.val (.ref a0), .val (.int p1), .val (.int (0 : Int32)), .val (.int (9 : Int32))] [(.int (0 : Int32)), (.int p1), (.ref a0)])) (by intro t k; exact XS.iloadN X3.here hx rfl (hb hby d8_31) rfl k) ?_
    show Run _ _ _ _ _ _ _ T3 (mkF m 32 #[.val (.ref a0), .val (.int p1), .val (.int (0 : Int32)), .val (.int (9 : Int32))] [(.int (0 : Int32)), (.int p1), (.ref a0)])
    refine go (T' := T3) (f' := (mkF m 33 #[.val (.ref a0), .val (.int p1), .val (.int (0 : Int32)), .val (.int (9 : Int32))] [(.int (9 : Int32)), (.int (0 : Int32)), (.int p1), (.ref a0)])) (by intro t k; exact XS.iloadN X3.here hx rfl (hb hby d8_32) rfl k) ?_
    show Run _ _ _ _ _ _ _ T3 (mkF m 33 #[.val (.ref a0), .val (.int p1), .val (.int (0 : Int32)), .val (.int (9 : Int32))] [(.int (9 : Int32)), (.int (0 : Int32)), (.int p1), (.ref a0)])
    obtain ⟨_, _, ⟨T4, Lz4, kz4, nz4⟩, -, X4, ⟨Lc4, hQ4, lz4, yz4, zz4⟩, st4⟩ := Jvm.LawKit.callS X3 hx (y := (⟨"java/lang/StringLatin1", "indexOfChar", "([BIII)I"⟩ : MethodName)) hown (mvT hZ (hw _ (List.mem_of_getElem? (i := 58) rfl))) (mvT hZ (hw _ (List.mem_of_getElem? (i := 59) rfl))) (mvT hZ (hw _ (List.mem_of_getElem? (i := 46) rfl))) (mvT hZ (hw _ (List.mem_of_getElem? (i := 60) rfl))) (by decide) (backOf (W := 0) (rm12 l Z aw hw [] a0 p1  h0 n0 Z0 A_a0) hZ (hw _ (List.mem_of_getElem? (i := 60) rfl)) (hw _ (List.mem_of_getElem? (i := 46) rfl)) (by decide) (by decide)) (g := (mkF m 33 #[.val (.ref a0), .val (.int p1), .val (.int (0 : Int32)), .val (.int (9 : Int32))] [(.int (9 : Int32)), (.int (0 : Int32)), (.int p1), (.ref a0)])) rfl (by rw [hml]; rfl) (argsL := [(.ref a0), (.int p1), (.int (0 : Int32)), (.int (9 : Int32))]) (rest := []) (lenOf pd_285bBIII29I rfl) rfl (by show 2 * 0 + _ ≤ _; exact Nat.le_of_eq rfl) (hb hby d8_33) (fun _ _ => ⟨rfl, e3, (by decide : 0 + 0 ≤ _), (by decide : 0 + 0 ≤ _)⟩)
    dsimp only [Pt.U, Pt.locs, Pt.cells, Pt.slots] at X4 lz4 yz4 zz4 st4 hQ4
    subst lz4 yz4 zz4
    obtain ⟨rfl, N4q, e4⟩ := hQ4
    have N4 := Fr.app N3 N4q
    refine go st4 ?_
    show Run _ _ _ _ _ _ _ T4 (mkF m 36 #[.val (.ref a0), .val (.int p1), .val (.int (0 : Int32)), .val (.int (9 : Int32))] [(.int (own_ix p1))])
    refine retW X4 hx (t := .int) Bd.returns rfl (Or.inl ⟨rfl, Or.inl rfl, _, rfl⟩) (hb hby d8_36) hlk (by decide) (by decide) ?_
    show Q8 Z a0 p1 h0 n0 _ T4.heap _
    rw [e4]
    have hv' : (own_ix p1) = (own_li p1) := by
      unfold own_li
      first | (rw [if_pos hc4]) | (rw [if_neg hc4])
    have hv : (some (.int (own_ix p1)) : Option Value) = some (.int (own_li p1)) := congrArg (fun z => (some (.int z) : Option Value)) hv'
    exact ⟨hv, N4, rfl⟩
theorem d4_0 : decode jdk_42_method_80_code 0 = .ok (.aload_n 0, 1) := by decide +kernel
theorem d4_1 : decode jdk_42_method_80_code 1 = .ok (.invokevirtual 492, 3) := by decide +kernel
theorem d4_4 : decode jdk_42_method_80_code 4 = .ok (.ifCond .eq 19, 3) := by decide +kernel
theorem d4_7 : decode jdk_42_method_80_code 7 = .ok (.aload_n 0, 1) := by decide +kernel
theorem d4_8 : decode jdk_42_method_80_code 8 = .ok (.getfield 9, 3) := by decide +kernel
theorem d4_11 : decode jdk_42_method_80_code 11 = .ok (.iload_n 1, 1) := by decide +kernel
theorem d4_12 : decode jdk_42_method_80_code 12 = .ok (.iload_n 2, 1) := by decide +kernel
theorem d4_13 : decode jdk_42_method_80_code 13 = .ok (.aload_n 0, 1) := by decide +kernel
theorem d4_14 : decode jdk_42_method_80_code 14 = .ok (.invokevirtual 505, 3) := by decide +kernel
theorem d4_17 : decode jdk_42_method_80_code 17 = .ok (.invokestatic 637, 3) := by decide +kernel
theorem d4_20 : decode jdk_42_method_80_code 20 = .ok (.goto 16, 3) := by decide +kernel
theorem d4_36 : decode jdk_42_method_80_code 36 = .ok (.ireturn, 1) := by decide +kernel
theorem pd_2829Z : parseMethodDescriptor "()Z" = some ⟨[], some .boolean⟩ := by decide +kernel
theorem pd_2829I : parseMethodDescriptor "()I" = some ⟨[], some .int⟩ := by decide +kernel
theorem ef_4 (m : MethodId) (x0 : Addr) (x1 : Int32) : entryFrame m #[(.ref x0), (.int x1), (.int (0 : Int32))] 3 = mkF m 0 #[.val (.ref x0), .val (.int x1), .val (.int (0 : Int32))] [] := by first | (simp [entryFrame, mkF, argsToLocals, Value.category]; done) | rfl
def Q4 (Z : State) (a0 : Addr) (p1 : Int32) (cs : Int32) (b : Addr) (h0 : Heap) (n0 : Nat) (v : Option Value) (h : Heap) (L : List Loc) : Prop := v = some (.int (own_li p1)) ∧ Fr n0 L ∧ h = h0
set_option maxRecDepth 65536 in
set_option maxHeartbeats 40000000 in
theorem rm4 (l : Launch) (Z : State) (aw : Array Value) (hw : ∀ d ∈ tables_1, d.before aw Z = true) (ws : List Jvm.Cond) (a0 : Addr) (p1 : Int32) (cs : Int32) (b : Addr) (h0 : Heap) (n0 : Nat) (Z0 : n0 ≤ h0.size) (O0 : Old Z n0 h0) (S_cs : Sta Z Z.heap "java/lang/String" "COMPACT_STRINGS" "Z" (.int cs)) (hcs : ¬ (cs = (0 : Int32))) (E_a0 : Exa Z h0 a0 "java/lang/String") (F_c : Fld Z h0 a0 "java/lang/String" "coder" "B" (.int (0 : Int32))) (F_v : Fld Z h0 a0 "java/lang/String" "value" "[B" (.ref b)) (A_b : Ary Z h0 b .byte [(.int (60 : Int32)), (.int (62 : Int32)), (.int (34 : Int32)), (.int (123 : Int32)), (.int (125 : Int32)), (.int (124 : Int32)), (.int (94 : Int32)), (.int (96 : Int32)), (.int (92 : Int32))]) :
    MetFree l (⟨"java/lang/String", "indexOf", "(II)I"⟩ : MethodName) (head1 (Jvm.Cond.code (⟨"java/lang/String", "indexOf", "(II)I"⟩ : MethodName) jdk_42_method_80_code 3 (some .int) :: ws) ({ frames := 2, cells := 0, slots := 0, locals := 32 } : Room)) (fun a U => a = #[(.ref a0), (.int p1), (.int (0 : Int32))] ∧ Z.Warmed39 U.vm ∧ U.heap = h0) (fun _ _ _ _ _ => True) (fun _ U o U' => ∃ v L, o = .returned v ∧ Q4 Z a0 p1 cs b h0 n0 v U'.heap L ∧ FrameEnd U o U' L ({ frames := 2, cells := 0, slots := 0, locals := 32 } : Room).cells ({ frames := 2, cells := 0, slots := 0, locals := 32 } : Room).slots) := by
  refine MetFree.of_bodySF (plainFor_of_name pn_7) hisR ?_
  intro p e s m args below meth c s₁ Bd hml0 hP hK
  obtain ⟨rfl, hZ, hh⟩ := hP
  have hx := Bd.exec
  have hby := Bd.bytes
  have hml : c.maxLocals = 3 := hml0
  have hown : s.vm.findClass "java/lang/String" = some m.cls := findClass_of_methodNamed Bd.named
  have hnm := (name_of_methodNamed Bd.named Bd.method).1
  have hlk : meth.locks = false := BodyLoose.notSynchronized Bd
  have X0 : Stand p l e ({ frames := 2, cells := 0, slots := 0, locals := 32 } : Room) s m #[(.ref a0), (.int p1), (.int (0 : Int32))] below meth c s₁ [] 0 0 := Stand.of_body Bd
  have e0 : s₁.heap = h0 := by rw [← hh, Bd.state]; rfl
  have N0 := Fr.nil n0
  show Run p e s below (Q4 Z a0 p1 cs b h0 n0) ({ frames := 2, cells := 0, slots := 0, locals := 32 } : Room).cells ({ frames := 2, cells := 0, slots := 0, locals := 32 } : Room).slots s₁ (entryFrame m #[(.ref a0), (.int p1), (.int (0 : Int32))] 3)
  rw [ef_4]
  show Run _ _ _ _ _ _ _ s₁ (mkF m 0 #[.val (.ref a0), .val (.int p1), .val (.int (0 : Int32))] [])
  refine go (T' := s₁) (f' := (mkF m 1 #[.val (.ref a0), .val (.int p1), .val (.int (0 : Int32))] [(.ref a0)])) (by intro t k; exact XS.aloadN X0.here hx rfl (hb hby d4_0) rfl rfl k) ?_
  show Run _ _ _ _ _ _ _ s₁ (mkF m 1 #[.val (.ref a0), .val (.int p1), .val (.int (0 : Int32))] [(.ref a0)])
  obtain ⟨cq1, kq1, q1a, q1b, q1c⟩ := isOf hZ e0 E_a0
  obtain ⟨_, _, ⟨T1, Lz1, kz1, nz1⟩, -, X1, ⟨Lc1, hQ1, lz1, yz1, zz1⟩, st1⟩ := X0.virtualBack hx (y := (⟨"java/lang/String", "isLatin1", "()Z"⟩ : MethodName)) (z := (⟨"java/lang/String", "isLatin1", "()Z"⟩ : MethodName)) hown (mvT hZ (hw _ (List.mem_of_getElem? (i := 26) rfl))) (mvT hZ (hw _ (List.mem_of_getElem? (i := 27) rfl))) (notFace_of_selects (args := #[]) (mvT hZ (hw _ (List.mem_of_getElem? (i := 29) rfl)))) (mvT hZ (hw _ (List.mem_of_getElem? (i := 29) rfl))) (mvT hZ (hw _ (List.mem_of_getElem? (i := 28) rfl))) (by decide) (backOf (W := 0) (rm5 l Z aw hw [] a0 cs h0 n0 Z0 O0 S_cs hcs F_c) hZ (hw _ (List.mem_of_getElem? (i := 30) rfl)) (hw _ (List.mem_of_getElem? (i := 9) rfl)) (by decide) (by decide)) q1a q1c (g := (mkF m 1 #[.val (.ref a0), .val (.int p1), .val (.int (0 : Int32))] [(.ref a0)])) rfl (by rw [hml]; rfl) (Steps.refl _) (argsL := []) (rest := []) (lenOf pd_2829Z rfl) rfl (by show 2 * 0 + _ ≤ _; exact Nat.le_of_eq rfl) (hb hby d4_1) (fun _ _ => ⟨rfl, e0, (by decide : 0 + 0 ≤ _), (by decide : 0 + 0 ≤ _)⟩)
  dsimp only [Pt.U, Pt.locs, Pt.cells, Pt.slots] at X1 lz1 yz1 zz1 st1 hQ1
  subst lz1 yz1 zz1
  obtain ⟨rfl, N1q, e1⟩ := hQ1
  have N1 := Fr.app N0 N1q
  refine go (fun _ k => st1.trans k) ?_
  show Run _ _ _ _ _ _ _ T1 (mkF m 4 #[.val (.ref a0), .val (.int p1), .val (.int (0 : Int32))] [(.int (1 : Int32))])
  refine go (T' := T1) (f' := (mkF m 7 #[.val (.ref a0), .val (.int p1), .val (.int (0 : Int32))] [])) (by intro t k; exact XS.ifNo X1.here hx rfl (hb hby d4_4) rfl ((if0 _ _).trans (feq (by decide : ¬ ((1 : Int32) = (0 : Int32)))).1) k) ?_
  show Run _ _ _ _ _ _ _ T1 (mkF m 7 #[.val (.ref a0), .val (.int p1), .val (.int (0 : Int32))] [])
  refine go (T' := T1) (f' := (mkF m 8 #[.val (.ref a0), .val (.int p1), .val (.int (0 : Int32))] [(.ref a0)])) (by intro t k; exact XS.aloadN X1.here hx rfl (hb hby d4_7) rfl rfl k) ?_
  show Run _ _ _ _ _ _ _ T1 (mkF m 8 #[.val (.ref a0), .val (.int p1), .val (.int (0 : Int32))] [(.ref a0)])
  obtain ⟨T2, X2, e2, st2⟩ := getF X1 hx hZ hown (host := "") (Or.inl (hw _ (List.mem_of_getElem? (i := 33) rfl))) Via.refl e1 F_v (g := (mkF m 8 #[.val (.ref a0), .val (.int p1), .val (.int (0 : Int32))] [(.ref a0)])) rfl rfl (hb hby d4_8)
  refine go st2 ?_
  show Run _ _ _ _ _ _ _ T2 (mkF m 11 #[.val (.ref a0), .val (.int p1), .val (.int (0 : Int32))] [(.ref b)])
  refine go (T' := T2) (f' := (mkF m 12 #[.val (.ref a0), .val (.int p1), .val (.int (0 : Int32))] [(.int p1), (.ref b)])) (by intro t k; exact XS.iloadN X2.here hx rfl (hb hby d4_11) rfl k) ?_
  show Run _ _ _ _ _ _ _ T2 (mkF m 12 #[.val (.ref a0), .val (.int p1), .val (.int (0 : Int32))] [(.int p1), (.ref b)])
  refine go (T' := T2) (f' := (mkF m 13 #[.val (.ref a0), .val (.int p1), .val (.int (0 : Int32))] [(.int (0 : Int32)), (.int p1), (.ref b)])) (by intro t k; exact XS.iloadN X2.here hx rfl (hb hby d4_12) rfl k) ?_
  show Run _ _ _ _ _ _ _ T2 (mkF m 13 #[.val (.ref a0), .val (.int p1), .val (.int (0 : Int32))] [(.int (0 : Int32)), (.int p1), (.ref b)])
  refine go (T' := T2) (f' := (mkF m 14 #[.val (.ref a0), .val (.int p1), .val (.int (0 : Int32))] [(.ref a0), (.int (0 : Int32)), (.int p1), (.ref b)])) (by intro t k; exact XS.aloadN X2.here hx rfl (hb hby d4_13) rfl rfl k) ?_
  show Run _ _ _ _ _ _ _ T2 (mkF m 14 #[.val (.ref a0), .val (.int p1), .val (.int (0 : Int32))] [(.ref a0), (.int (0 : Int32)), (.int p1), (.ref b)])
  obtain ⟨cq3, kq3, q3a, q3b, q3c⟩ := isOf hZ e2 E_a0
  obtain ⟨_, _, ⟨T3, Lz3, kz3, nz3⟩, -, X3, ⟨Lc3, hQ3, lz3, yz3, zz3⟩, st3⟩ := X2.virtualBack hx (y := (⟨"java/lang/String", "length", "()I"⟩ : MethodName)) (z := (⟨"java/lang/String", "length", "()I"⟩ : MethodName)) hown (mvT hZ (hw _ (List.mem_of_getElem? (i := 34) rfl))) (mvT hZ (hw _ (List.mem_of_getElem? (i := 35) rfl))) (notFace_of_selects (args := #[]) (mvT hZ (hw _ (List.mem_of_getElem? (i := 37) rfl)))) (mvT hZ (hw _ (List.mem_of_getElem? (i := 37) rfl))) (mvT hZ (hw _ (List.mem_of_getElem? (i := 36) rfl))) (by decide) (backOf (W := 3) (rm6 l Z aw hw [] a0 cs b [(.int (60 : Int32)), (.int (62 : Int32)), (.int (34 : Int32)), (.int (123 : Int32)), (.int (125 : Int32)), (.int (124 : Int32)), (.int (94 : Int32)), (.int (96 : Int32)), (.int (92 : Int32))] (9 : Int32) h0 n0 Z0 O0 S_cs hcs E_a0 F_c F_v A_b rfl) hZ (hw _ (List.mem_of_getElem? (i := 38) rfl)) (hw _ (List.mem_of_getElem? (i := 9) rfl)) (by decide) (by decide)) q3a q3c (g := (mkF m 14 #[.val (.ref a0), .val (.int p1), .val (.int (0 : Int32))] [(.ref a0), (.int (0 : Int32)), (.int p1), (.ref b)])) rfl (by rw [hml]; rfl) (Steps.refl _) (argsL := []) (rest := [(.int (0 : Int32)), (.int p1), (.ref b)]) (lenOf pd_2829I rfl) rfl (by show 2 * 0 + _ ≤ _; exact Nat.le_of_eq rfl) (hb hby d4_14) (fun _ _ => ⟨rfl, e2, (by decide : 0 + 0 ≤ _), (by decide : 0 + 0 ≤ _)⟩)
  dsimp only [Pt.U, Pt.locs, Pt.cells, Pt.slots] at X3 lz3 yz3 zz3 st3 hQ3
  subst lz3 yz3 zz3
  obtain ⟨rfl, N3q, e3⟩ := hQ3
  have N3 := Fr.app N1 N3q
  refine go (fun _ k => st3.trans k) ?_
  show Run _ _ _ _ _ _ _ T3 (mkF m 17 #[.val (.ref a0), .val (.int p1), .val (.int (0 : Int32))] [(.int (9 : Int32)), (.int (0 : Int32)), (.int p1), (.ref b)])
  obtain ⟨_, _, ⟨T4, Lz4, kz4, nz4⟩, -, X4, ⟨Lc4, hQ4, lz4, yz4, zz4⟩, st4⟩ := Jvm.LawKit.callS X3 hx (y := (⟨"java/lang/StringLatin1", "indexOf", "([BIII)I"⟩ : MethodName)) hown (mvT hZ (hw _ (List.mem_of_getElem? (i := 44) rfl))) (mvT hZ (hw _ (List.mem_of_getElem? (i := 45) rfl))) (mvT hZ (hw _ (List.mem_of_getElem? (i := 46) rfl))) (mvT hZ (hw _ (List.mem_of_getElem? (i := 47) rfl))) (by decide) (backOf (W := 0) (rm8 l Z aw hw [] b p1  h0 n0 Z0 A_b) hZ (hw _ (List.mem_of_getElem? (i := 47) rfl)) (hw _ (List.mem_of_getElem? (i := 46) rfl)) (by decide) (by decide)) (g := (mkF m 17 #[.val (.ref a0), .val (.int p1), .val (.int (0 : Int32))] [(.int (9 : Int32)), (.int (0 : Int32)), (.int p1), (.ref b)])) rfl (by rw [hml]; rfl) (argsL := [(.ref b), (.int p1), (.int (0 : Int32)), (.int (9 : Int32))]) (rest := []) (lenOf pd_285bBIII29I rfl) rfl (by show 2 * 0 + _ ≤ _; exact Nat.le_of_eq rfl) (hb hby d4_17) (fun _ _ => ⟨rfl, e3, (by decide : 0 + 0 ≤ _), (by decide : 0 + 0 ≤ _)⟩)
  dsimp only [Pt.U, Pt.locs, Pt.cells, Pt.slots] at X4 lz4 yz4 zz4 st4 hQ4
  subst lz4 yz4 zz4
  obtain ⟨rfl, N4q, e4⟩ := hQ4
  have N4 := Fr.app N3 N4q
  refine go st4 ?_
  show Run _ _ _ _ _ _ _ T4 (mkF m 20 #[.val (.ref a0), .val (.int p1), .val (.int (0 : Int32))] [(.int (own_li p1))])
  refine go (T' := T4) (f' := (mkF m 36 #[.val (.ref a0), .val (.int p1), .val (.int (0 : Int32))] [(.int (own_li p1))])) (by intro t k; exact XS.goto X4.here hx rfl (pc0 := 20) (pc' := 36) rfl (hb hby d4_20) (by decide) (by decide) k) ?_
  show Run _ _ _ _ _ _ _ T4 (mkF m 36 #[.val (.ref a0), .val (.int p1), .val (.int (0 : Int32))] [(.int (own_li p1))])
  refine retW X4 hx (t := .int) Bd.returns rfl (Or.inl ⟨rfl, Or.inl rfl, _, rfl⟩) (hb hby d4_36) hlk (by decide) (by decide) ?_
  show Q4 Z a0 p1 cs b h0 n0 _ T4.heap _
  rw [e4]
  have hv : (some (.int (own_li p1)) : Option Value) = some (.int (own_li p1)) := rfl
  exact ⟨hv, N4, rfl⟩
theorem d3_0 : decode jdk_42_method_79_code 0 = .ok (.aload_n 0, 1) := by decide +kernel
theorem d3_1 : decode jdk_42_method_79_code 1 = .ok (.iload_n 1, 1) := by decide +kernel
theorem d3_2 : decode jdk_42_method_79_code 2 = .ok (.iconst 0, 1) := by decide +kernel
theorem d3_3 : decode jdk_42_method_79_code 3 = .ok (.invokevirtual 633, 3) := by decide +kernel
theorem d3_6 : decode jdk_42_method_79_code 6 = .ok (.ireturn, 1) := by decide +kernel
theorem ef_3 (m : MethodId) (x0 : Addr) (x1 : Int32) : entryFrame m #[(.ref x0), (.int x1)] 2 = mkF m 0 #[.val (.ref x0), .val (.int x1)] [] := by first | (simp [entryFrame, mkF, argsToLocals, Value.category]; done) | rfl
def Q3 (Z : State) (a0 : Addr) (p1 : Int32) (cs : Int32) (b : Addr) (h0 : Heap) (n0 : Nat) (v : Option Value) (h : Heap) (L : List Loc) : Prop := v = some (.int (own_li p1)) ∧ Fr n0 L ∧ h = h0
set_option maxRecDepth 65536 in
set_option maxHeartbeats 40000000 in
theorem rm3 (l : Launch) (Z : State) (aw : Array Value) (hw : ∀ d ∈ tables_1, d.before aw Z = true) (ws : List Jvm.Cond) (a0 : Addr) (p1 : Int32) (cs : Int32) (b : Addr) (h0 : Heap) (n0 : Nat) (Z0 : n0 ≤ h0.size) (O0 : Old Z n0 h0) (S_cs : Sta Z Z.heap "java/lang/String" "COMPACT_STRINGS" "Z" (.int cs)) (hcs : ¬ (cs = (0 : Int32))) (E_a0 : Exa Z h0 a0 "java/lang/String") (F_c : Fld Z h0 a0 "java/lang/String" "coder" "B" (.int (0 : Int32))) (F_v : Fld Z h0 a0 "java/lang/String" "value" "[B" (.ref b)) (A_b : Ary Z h0 b .byte [(.int (60 : Int32)), (.int (62 : Int32)), (.int (34 : Int32)), (.int (123 : Int32)), (.int (125 : Int32)), (.int (124 : Int32)), (.int (94 : Int32)), (.int (96 : Int32)), (.int (92 : Int32))]) :
    MetFree l (⟨"java/lang/String", "indexOf", "(I)I"⟩ : MethodName) (head1 (Jvm.Cond.code (⟨"java/lang/String", "indexOf", "(I)I"⟩ : MethodName) jdk_42_method_79_code 2 (some .int) :: ws) ({ frames := 3, cells := 0, slots := 0, locals := 46 } : Room)) (fun a U => a = #[(.ref a0), (.int p1)] ∧ Z.Warmed39 U.vm ∧ U.heap = h0) (fun _ _ _ _ _ => True) (fun _ U o U' => ∃ v L, o = .returned v ∧ Q3 Z a0 p1 cs b h0 n0 v U'.heap L ∧ FrameEnd U o U' L ({ frames := 3, cells := 0, slots := 0, locals := 46 } : Room).cells ({ frames := 3, cells := 0, slots := 0, locals := 46 } : Room).slots) := by
  refine MetFree.of_bodySF (plainFor_of_name pn_7) hisR ?_
  intro p e s m args below meth c s₁ Bd hml0 hP hK
  obtain ⟨rfl, hZ, hh⟩ := hP
  have hx := Bd.exec
  have hby := Bd.bytes
  have hml : c.maxLocals = 2 := hml0
  have hown : s.vm.findClass "java/lang/String" = some m.cls := findClass_of_methodNamed Bd.named
  have hnm := (name_of_methodNamed Bd.named Bd.method).1
  have hlk : meth.locks = false := BodyLoose.notSynchronized Bd
  have X0 : Stand p l e ({ frames := 3, cells := 0, slots := 0, locals := 46 } : Room) s m #[(.ref a0), (.int p1)] below meth c s₁ [] 0 0 := Stand.of_body Bd
  have e0 : s₁.heap = h0 := by rw [← hh, Bd.state]; rfl
  have N0 := Fr.nil n0
  show Run p e s below (Q3 Z a0 p1 cs b h0 n0) ({ frames := 3, cells := 0, slots := 0, locals := 46 } : Room).cells ({ frames := 3, cells := 0, slots := 0, locals := 46 } : Room).slots s₁ (entryFrame m #[(.ref a0), (.int p1)] 2)
  rw [ef_3]
  show Run _ _ _ _ _ _ _ s₁ (mkF m 0 #[.val (.ref a0), .val (.int p1)] [])
  refine go (T' := s₁) (f' := (mkF m 1 #[.val (.ref a0), .val (.int p1)] [(.ref a0)])) (by intro t k; exact XS.aloadN X0.here hx rfl (hb hby d3_0) rfl rfl k) ?_
  show Run _ _ _ _ _ _ _ s₁ (mkF m 1 #[.val (.ref a0), .val (.int p1)] [(.ref a0)])
  refine go (T' := s₁) (f' := (mkF m 2 #[.val (.ref a0), .val (.int p1)] [(.int p1), (.ref a0)])) (by intro t k; exact XS.iloadN X0.here hx rfl (hb hby d3_1) rfl k) ?_
  show Run _ _ _ _ _ _ _ s₁ (mkF m 2 #[.val (.ref a0), .val (.int p1)] [(.int p1), (.ref a0)])
  refine go (T' := s₁) (f' := (mkF m 3 #[.val (.ref a0), .val (.int p1)] [(.int (0 : Int32)), (.int p1), (.ref a0)])) (by intro t k; exact XS.iconst X0.here hx rfl (hb hby d3_2) k) ?_
  show Run _ _ _ _ _ _ _ s₁ (mkF m 3 #[.val (.ref a0), .val (.int p1)] [(.int (0 : Int32)), (.int p1), (.ref a0)])
  obtain ⟨cq1, kq1, q1a, q1b, q1c⟩ := isOf hZ e0 E_a0
  obtain ⟨_, _, ⟨T1, Lz1, kz1, nz1⟩, -, X1, ⟨Lc1, hQ1, lz1, yz1, zz1⟩, st1⟩ := X0.virtualBack hx (y := (⟨"java/lang/String", "indexOf", "(II)I"⟩ : MethodName)) (z := (⟨"java/lang/String", "indexOf", "(II)I"⟩ : MethodName)) hown (mvT hZ (hw _ (List.mem_of_getElem? (i := 21) rfl))) (mvT hZ (hw _ (List.mem_of_getElem? (i := 22) rfl))) (notFace_of_selects (args := #[]) (mvT hZ (hw _ (List.mem_of_getElem? (i := 24) rfl)))) (mvT hZ (hw _ (List.mem_of_getElem? (i := 24) rfl))) (mvT hZ (hw _ (List.mem_of_getElem? (i := 23) rfl))) (by decide) (backOf (W := 0) (rm4 l Z aw hw [] a0 p1 cs b h0 n0 Z0 O0 S_cs hcs E_a0 F_c F_v A_b) hZ (hw _ (List.mem_of_getElem? (i := 25) rfl)) (hw _ (List.mem_of_getElem? (i := 9) rfl)) (by decide) (by decide)) q1a q1c (g := (mkF m 3 #[.val (.ref a0), .val (.int p1)] [(.int (0 : Int32)), (.int p1), (.ref a0)])) rfl (by rw [hml]; rfl) (Steps.refl _) (argsL := [(.int p1), (.int (0 : Int32))]) (rest := []) (lenOf pd_28II29I rfl) rfl (by show 2 * 0 + _ ≤ _; exact Nat.le_of_eq rfl) (hb hby d3_3) (fun _ _ => ⟨rfl, e0, (by decide : 0 + 0 ≤ _), (by decide : 0 + 0 ≤ _)⟩)
  dsimp only [Pt.U, Pt.locs, Pt.cells, Pt.slots] at X1 lz1 yz1 zz1 st1 hQ1
  subst lz1 yz1 zz1
  obtain ⟨rfl, N1q, e1⟩ := hQ1
  have N1 := Fr.app N0 N1q
  refine go (fun _ k => st1.trans k) ?_
  show Run _ _ _ _ _ _ _ T1 (mkF m 6 #[.val (.ref a0), .val (.int p1)] [(.int (own_li p1))])
  refine retW X1 hx (t := .int) Bd.returns rfl (Or.inl ⟨rfl, Or.inl rfl, _, rfl⟩) (hb hby d3_6) hlk (by decide) (by decide) ?_
  show Q3 Z a0 p1 cs b h0 n0 _ T1.heap _
  rw [e1]
  have hv : (some (.int (own_li p1)) : Option Value) = some (.int (own_li p1)) := rfl
  exact ⟨hv, N1, rfl⟩
theorem d1_0 : decode prog_8_method_9_code 0 = .ok (.iload_n 0, 1) := by decide +kernel
theorem d1_1 : decode prog_8_method_9_code 1 = .ok (.bipush 32, 2) := by decide +kernel
theorem d1_3 : decode prog_8_method_9_code 3 = .ok (.if_icmp .le 16, 3) := by decide +kernel
theorem d1_6 : decode prog_8_method_9_code 6 = .ok (.ldc 155, 2) := by decide +kernel
theorem d1_8 : decode prog_8_method_9_code 8 = .ok (.iload_n 0, 1) := by decide +kernel
theorem d1_9 : decode prog_8_method_9_code 9 = .ok (.invokevirtual 157, 3) := by decide +kernel
theorem d1_12 : decode prog_8_method_9_code 12 = .ok (.ifCond .ge 7, 3) := by decide +kernel
theorem d1_15 : decode prog_8_method_9_code 15 = .ok (.iconst 1, 1) := by decide +kernel
theorem d1_16 : decode prog_8_method_9_code 16 = .ok (.goto 4, 3) := by decide +kernel
theorem d1_19 : decode prog_8_method_9_code 19 = .ok (.iconst 0, 1) := by decide +kernel
theorem d1_20 : decode prog_8_method_9_code 20 = .ok (.ireturn, 1) := by decide +kernel
theorem pd_28I29I : parseMethodDescriptor "(I)I" = some ⟨[.int], some .int⟩ := by decide +kernel
theorem pn_1 : plainName "com/example/backchain/backchain/io/DlgpReader" = true := by first | (simp [plainName, overriddenIn]; done) | decide +kernel
theorem ef_1 (m : MethodId) (x0 : Int32) : entryFrame m #[(.int x0)] 1 = mkF m 0 #[.val (.int x0)] [] := by first | (simp [entryFrame, mkF, argsToLocals, Value.category]; done) | rfl
def Q1 (Z : State) (p0 : Int32) (cs : Int32) (h0 : Heap) (n0 : Nat) (v : Option Value) (h : Heap) (L : List Loc) : Prop := v = some (.int (own_iri p0)) ∧ Fr n0 L ∧ Keep h0 h []
set_option maxRecDepth 65536 in
set_option maxHeartbeats 40000000 in
theorem rm1 (l : Launch) (Z : State) (aw : Array Value) (hw : ∀ d ∈ tables_1, d.before aw Z = true) (ws : List Jvm.Cond) (p0 : Int32) (cs : Int32) (h0 : Heap) (n0 : Nat) (Z0 : n0 ≤ h0.size) (O0 : Old Z n0 h0) (S_cs : Sta Z Z.heap "java/lang/String" "COMPACT_STRINGS" "Z" (.int cs)) (hcs : ¬ (cs = (0 : Int32))) :
    MetFree l (⟨"com/example/backchain/backchain/io/DlgpReader", "isIriCharacter", "(I)Z"⟩ : MethodName) (head1 (Jvm.Cond.code (⟨"com/example/backchain/backchain/io/DlgpReader", "isIriCharacter", "(I)Z"⟩ : MethodName) prog_8_method_9_code 1 (some .boolean) :: ws) ({ frames := 4, cells := 2, slots := 40, locals := 59 } : Room)) (fun a U => a = #[(.int p0)] ∧ Z.Warmed39 U.vm ∧ U.heap = h0 ∧ CHv Z consts_1 U.vm h0) (fun _ _ _ _ _ => True) (fun _ U o U' => ∃ v L, o = .returned v ∧ Q1 Z p0 cs h0 n0 v U'.heap L ∧ CHr Z consts_1 U.vm U.heap U'.vm U'.heap ∧ ReturnedEndW U o U' L ({ frames := 4, cells := 2, slots := 40, locals := 59 } : Room).cells ({ frames := 4, cells := 2, slots := 40, locals := 59 } : Room).slots) := by
  refine MetFree.of_bodySF (plainFor_of_name pn_1) hisR ?_
  intro p e s m args below meth c s₁ Bd hml0 hP hK
  obtain ⟨rfl, hZ, hh, hC⟩ := hP
  have hx := Bd.exec
  have hby := Bd.bytes
  have hml : c.maxLocals = 1 := hml0
  have hown : s.vm.findClass "com/example/backchain/backchain/io/DlgpReader" = some m.cls := findClass_of_methodNamed Bd.named
  have hnm := (name_of_methodNamed Bd.named Bd.method).1
  have hlk : meth.locks = false := BodyLoose.notSynchronized Bd
  have X0 : Stand p l e ({ frames := 4, cells := 2, slots := 40, locals := 59 } : Room) s m #[(.int p0)] below meth c s₁ [] 0 0 := Stand.of_body Bd
  have e0 : s₁.heap = h0 := by rw [← hh, Bd.state]; rfl
  have N0 := Fr.nil n0
  have hEL : EW Z aw consts_1 := (EW.cons (hw _ (List.mem_of_getElem? (i := 8) rfl)) (by decide) EW.nil : EW Z aw [("com/example/backchain/backchain/io/DlgpReader", 155)])
  show RunH Z consts_1 p e s below (Q1 Z p0 cs h0 n0) ({ frames := 4, cells := 2, slots := 40, locals := 59 } : Room).cells ({ frames := 4, cells := 2, slots := 40, locals := 59 } : Room).slots s₁ (entryFrame m #[(.int p0)] 1)
  rw [ef_1]
  show RunH _ _ _ _ _ _ _ _ _ s₁ (mkF m 0 #[.val (.int p0)] [])
  refine goH (T' := s₁) (f' := (mkF m 1 #[.val (.int p0)] [(.int p0)])) (by intro t k; exact XS.iloadN X0.here hx rfl (hb hby d1_0) rfl k) ?_
  show RunH _ _ _ _ _ _ _ _ _ s₁ (mkF m 1 #[.val (.int p0)] [(.int p0)])
  refine goH (T' := s₁) (f' := (mkF m 3 #[.val (.int p0)] [(.int (32 : Int32)), (.int p0)])) (by intro t k; exact XS.bipush X0.here hx rfl (hb hby d1_1) k) ?_
  show RunH _ _ _ _ _ _ _ _ _ s₁ (mkF m 3 #[.val (.int p0)] [(.int (32 : Int32)), (.int p0)])
  by_cases hc3 : (32 : Int32) < p0
  · refine goH (T' := s₁) (f' := (mkF m 6 #[.val (.int p0)] [])) (by intro t k; exact XS.icmpNo X0.here hx rfl (hb hby d1_3) rfl (tlt hc3).2.2.2 k) ?_
    show RunH _ _ _ _ _ _ _ _ _ s₁ (mkF m 6 #[.val (.int p0)] [])
    have wS1 : ∀ d ∈ Bundle.stringAtoms, d.before aw Z = true := by
      intro d hd
      simp only [Bundle.stringAtoms, List.mem_cons, List.not_mem_nil, or_false] at hd
      rcases hd with rfl | rfl | rfl | rfl | rfl | rfl | rfl
      · exact (hw _ (List.mem_of_getElem? (i := 9) rfl))
      · exact (hw _ (List.mem_of_getElem? (i := 10) rfl))
      · exact (hw _ (List.mem_of_getElem? (i := 11) rfl))
      · exact (hw _ (List.mem_of_getElem? (i := 12) rfl))
      · exact (hw _ (List.mem_of_getElem? (i := 13) rfl))
      · exact (hw _ (List.mem_of_getElem? (i := 14) rfl))
      · exact (hw _ (List.mem_of_getElem? (i := 15) rfl))
    obtain ⟨ls1, T1, h1, kk1, lb1, lk1, X1, e1, E1, hS1, hk1, hZ1, hown1, EA1, FC1, FV1, AV1, -, -, C1, -, -, st1⟩ := ldcCH (s := s) (vm0 := s.vm) (EL := consts_1) X0 hx hZ hown (hw _ (List.mem_of_getElem? (i := 8) rfl)) wS1 e0 ((State.WarmedH.refl s).since 0) (Nat.zero_le _) hEL (by decide) (CHr.refl hC).1 (vs := [(.int (60 : Int32)), (.int (62 : Int32)), (.int (34 : Int32)), (.int (123 : Int32)), (.int (125 : Int32)), (.int (124 : Int32)), (.int (94 : Int32)), (.int (96 : Int32)), (.int (92 : Int32))]) (z := 9) ⟨by decide, by decide +kernel⟩ (by decide) rfl (g := (mkF m 6 #[.val (.int p0)] [])) rfl (hb hby d1_6) (n := 36) (by decide) (by decide) (by decide) (by decide)
    have hZ := hZ1
    have hown := hown1
    have CR1 := (CHr.refl hC).trans C1
    have K1 : Keep h0 h1 [] := (Keep.refl _ _).ext E1
    have O1 : Old Z n0 h1 := O0.keep K1 all0
    have Z1 : n0 ≤ h1.size := Nat.le_trans Z0 K1.1
    have KK1 : Keep h0 h1 [] := (Keep.refl _ _).trans K1 all0
    have AY1 : Ary Z h1 lb1 .byte [(.int (60 : Int32)), (.int (62 : Int32)), (.int (34 : Int32)), (.int (123 : Int32)), (.int (125 : Int32)), (.int (124 : Int32)), (.int (94 : Int32)), (.int (96 : Int32)), (.int (92 : Int32))] := Arv.ary AV1 rfl
    refine goH st1 ?_
    show RunH _ _ _ _ _ _ _ _ _ T1 (mkF m 8 #[.val (.int p0)] [(.ref ls1)])
    refine goH (T' := T1) (f' := (mkF m 9 #[.val (.int p0)] [(.int p0), (.ref ls1)])) (by intro t k; exact XS.iloadN X1.here hx rfl (hb hby d1_8) rfl k) ?_
    show RunH _ _ _ _ _ _ _ _ _ T1 (mkF m 9 #[.val (.int p0)] [(.int p0), (.ref ls1)])
    obtain ⟨cq2, kq2, q2a, q2b, q2c⟩ := isOf hZ e1 EA1
    obtain ⟨_, _, ⟨T2, Lz2, kz2, nz2⟩, -, X2, ⟨Lc2, hQ2, lz2, yz2, zz2⟩, st2⟩ := X1.virtualBack hx (y := (⟨"java/lang/String", "indexOf", "(I)I"⟩ : MethodName)) (z := (⟨"java/lang/String", "indexOf", "(I)I"⟩ : MethodName)) hown (mvT hZ (hw _ (List.mem_of_getElem? (i := 16) rfl))) (mvT hZ (hw _ (List.mem_of_getElem? (i := 17) rfl))) (notFace_of_selects (args := #[]) (mvT hZ (hw _ (List.mem_of_getElem? (i := 19) rfl)))) (mvT hZ (hw _ (List.mem_of_getElem? (i := 19) rfl))) (mvT hZ (hw _ (List.mem_of_getElem? (i := 18) rfl))) (by decide) (backOf (W := 0) (rm3 l Z aw hw [] ls1 p0 cs lb1 h1 n0 Z1 O1 S_cs hcs EA1 FC1 FV1 AY1) hZ (hw _ (List.mem_of_getElem? (i := 20) rfl)) (hw _ (List.mem_of_getElem? (i := 9) rfl)) (by decide) (by decide)) q2a q2c (g := (mkF m 9 #[.val (.int p0)] [(.int p0), (.ref ls1)])) rfl (by rw [hml]; rfl) (Steps.refl _) (argsL := [(.int p0)]) (rest := []) (lenOf pd_28I29I rfl) rfl (by show 2 * 0 + _ ≤ _; exact Nat.le_of_eq rfl) (hb hby d1_9) (fun _ _ => ⟨rfl, e1, (by decide : 2 + 0 ≤ _), (by decide : 40 + 0 ≤ _)⟩)
    dsimp only [Pt.U, Pt.locs, Pt.cells, Pt.slots] at X2 lz2 yz2 zz2 st2 hQ2
    subst lz2 yz2 zz2
    obtain ⟨rfl, N2q, e2⟩ := hQ2
    have N2 := Fr.app N0 N2q
    refine goH (fun _ k => st2.trans k) ?_
    show RunH _ _ _ _ _ _ _ _ _ T2 (mkF m 12 #[.val (.int p0)] [(.int (own_li p0))])
    obtain ⟨z3, hz3⟩ : ∃ z : Int32, z = (if (own_li p0) < (0 : Int32) then (1 : Int32) else (0 : Int32)) := ⟨_, rfl⟩
    have J12 : RunH Z consts_1 p e s below (Q1 Z p0 cs h0 n0) ({ frames := 4, cells := 2, slots := 40, locals := 59 } : Room).cells ({ frames := 4, cells := 2, slots := 40, locals := 59 } : Room).slots T2 (mkF m 20 #[.val (.int p0)] [(.int z3)]) := by
      show RunH _ _ _ _ _ _ _ _ _ T2 (mkF m 20 #[.val (.int p0)] [(.int z3)])
      refine retZH (vm₁ := T1.vm) (aw := aw) (h := h1) X2 hS1 (by rw [e2]; exact hk1) hh e2 CR1 hEL hZ hx (t := .boolean) Bd.returns (by simp) (hb hby d1_20) hlk (by decide) (by decide) ?_
      show Q1 Z p0 cs h0 n0 _ T2.heap _
      rw [e2]
      have hv' : (nar .boolean z3) = (own_iri p0) := by
        rw [hz3]
        unfold own_iri
        first | (rw [if_pos hc3]; (repeat' split) <;> first | rfl | contradiction) | (rw [if_neg hc3]; rfl)
      have hv : (some (.int (nar .boolean z3)) : Option Value) = some (.int (own_iri p0)) := congrArg (fun z => (some (.int z) : Option Value)) hv'
      exact ⟨hv, N2, KK1⟩
    show RunH _ _ _ _ _ _ _ _ _ T2 (mkF m 12 #[.val (.int p0)] [(.int (own_li p0))])
    by_cases hc12 : (own_li p0) < (0 : Int32)
    · refine goH (T' := T2) (f' := (mkF m 15 #[.val (.int p0)] [])) (by intro t k; exact XS.ifNo X2.here hx rfl (hb hby d1_12) rfl ((if0 _ _).trans (tlt hc12).2.1) k) ?_
      show RunH _ _ _ _ _ _ _ _ _ T2 (mkF m 15 #[.val (.int p0)] [])
      refine goH (T' := T2) (f' := (mkF m 16 #[.val (.int p0)] [(.int (1 : Int32))])) (by intro t k; exact XS.iconst X2.here hx rfl (hb hby d1_15) k) ?_
      show RunH _ _ _ _ _ _ _ _ _ T2 (mkF m 16 #[.val (.int p0)] [(.int (1 : Int32))])
      refine goH (T' := T2) (f' := (mkF m 20 #[.val (.int p0)] [(.int (1 : Int32))])) (by intro t k; exact XS.goto X2.here hx rfl (pc0 := 16) (pc' := 20) rfl (hb hby d1_16) (by decide) (by decide) k) ?_
      have ez3 : z3 = (1 : Int32) := (hz3).trans (if_pos hc12)
      subst ez3
      exact J12
    · refine goH (T' := T2) (f' := (mkF m 19 #[.val (.int p0)] [])) (by intro t k; exact XS.ifYes X2.here hx rfl (pc0 := 12) (pc' := 19) rfl (hb hby d1_12) rfl ((if0 _ _).trans (flt hc12).2.1) (by decide) (by decide) k) ?_
      show RunH _ _ _ _ _ _ _ _ _ T2 (mkF m 19 #[.val (.int p0)] [])
      refine goH (T' := T2) (f' := (mkF m 20 #[.val (.int p0)] [(.int (0 : Int32))])) (by intro t k; exact XS.iconst X2.here hx rfl (hb hby d1_19) k) ?_
      have ez3 : z3 = (0 : Int32) := (hz3).trans (if_neg hc12)
      subst ez3
      exact J12
  · refine goH (T' := s₁) (f' := (mkF m 19 #[.val (.int p0)] [])) (by intro t k; exact XS.icmpYes X0.here hx rfl (pc0 := 3) (pc' := 19) rfl (hb hby d1_3) rfl (flt hc3).2.2.2 (by decide) (by decide) k) ?_
    show RunH _ _ _ _ _ _ _ _ _ s₁ (mkF m 19 #[.val (.int p0)] [])
    refine goH (T' := s₁) (f' := (mkF m 20 #[.val (.int p0)] [(.int (0 : Int32))])) (by intro t k; exact XS.iconst X0.here hx rfl (hb hby d1_19) k) ?_
    show RunH _ _ _ _ _ _ _ _ _ s₁ (mkF m 20 #[.val (.int p0)] [(.int (0 : Int32))])
    refine retZH (vm₁ := s.vm) (aw := aw) (h := h0) X0 ((State.WarmedH.refl s).since 0) (Nat.zero_le _) hh e0 (CHr.refl hC) hEL hZ hx (t := .boolean) Bd.returns (by simp) (hb hby d1_20) hlk (by decide) (by decide) ?_
    show Q1 Z p0 cs h0 n0 _ s₁.heap _
    rw [e0]
    have hv' : (nar .boolean (0 : Int32)) = (own_iri p0) := by
      unfold own_iri
      first | (rw [if_pos hc3]; (repeat' split) <;> first | rfl | contradiction) | (rw [if_neg hc3]; rfl)
    have hv : (some (.int (nar .boolean (0 : Int32))) : Option Value) = some (.int (own_iri p0)) := congrArg (fun z => (some (.int z) : Option Value)) hv'
    exact ⟨hv, N0, (Keep.refl _ _)⟩
def own_exp (p0 : Int32) : Int32 := (if (32 : Int32) < p0 then (if p0 = (60 : Int32) then (0 : Int32) else (if p0 = (62 : Int32) then (0 : Int32) else (if p0 = (34 : Int32) then (0 : Int32) else (if p0 = (123 : Int32) then (0 : Int32) else (if p0 = (125 : Int32) then (0 : Int32) else (if p0 = (124 : Int32) then (0 : Int32) else (if p0 = (94 : Int32) then (0 : Int32) else (if p0 = (96 : Int32) then (0 : Int32) else (if p0 = (92 : Int32) then (0 : Int32) else (1 : Int32)))))))))) else (0 : Int32))
theorem d2_0 : decode method_2_code 0 = .ok (.iload_n 0, 1) := by decide +kernel
theorem d2_1 : decode method_2_code 1 = .ok (.bipush 32, 2) := by decide +kernel
theorem d2_3 : decode method_2_code 3 = .ok (.if_icmp .gt 5, 3) := by decide +kernel
theorem d2_8 : decode method_2_code 8 = .ok (.iload_n 0, 1) := by decide +kernel
theorem d2_9 : decode method_2_code 9 = .ok (.bipush 60, 2) := by decide +kernel
theorem d2_11 : decode method_2_code 11 = .ok (.if_icmp .eq 15, 3) := by decide +kernel
theorem d2_26 : decode method_2_code 26 = .ok (.iconst 0, 1) := by decide +kernel
theorem d2_27 : decode method_2_code 27 = .ok (.ireturn, 1) := by decide +kernel
theorem d2_14 : decode method_2_code 14 = .ok (.iload_n 0, 1) := by decide +kernel
theorem d2_15 : decode method_2_code 15 = .ok (.bipush 62, 2) := by decide +kernel
theorem d2_17 : decode method_2_code 17 = .ok (.if_icmp .eq 9, 3) := by decide +kernel
theorem d2_20 : decode method_2_code 20 = .ok (.iload_n 0, 1) := by decide +kernel
theorem d2_21 : decode method_2_code 21 = .ok (.bipush 34, 2) := by decide +kernel
theorem d2_23 : decode method_2_code 23 = .ok (.if_icmp .ne 5, 3) := by decide +kernel
theorem d2_28 : decode method_2_code 28 = .ok (.iload_n 0, 1) := by decide +kernel
theorem d2_29 : decode method_2_code 29 = .ok (.bipush 123, 2) := by decide +kernel
theorem d2_31 : decode method_2_code 31 = .ok (.if_icmp .eq 15, 3) := by decide +kernel
theorem d2_46 : decode method_2_code 46 = .ok (.iconst 0, 1) := by decide +kernel
theorem d2_47 : decode method_2_code 47 = .ok (.ireturn, 1) := by decide +kernel
theorem d2_34 : decode method_2_code 34 = .ok (.iload_n 0, 1) := by decide +kernel
theorem d2_35 : decode method_2_code 35 = .ok (.bipush 125, 2) := by decide +kernel
theorem d2_37 : decode method_2_code 37 = .ok (.if_icmp .eq 9, 3) := by decide +kernel
theorem d2_40 : decode method_2_code 40 = .ok (.iload_n 0, 1) := by decide +kernel
theorem d2_41 : decode method_2_code 41 = .ok (.bipush 124, 2) := by decide +kernel
theorem d2_43 : decode method_2_code 43 = .ok (.if_icmp .ne 5, 3) := by decide +kernel
theorem d2_48 : decode method_2_code 48 = .ok (.iload_n 0, 1) := by decide +kernel
theorem d2_49 : decode method_2_code 49 = .ok (.bipush 94, 2) := by decide +kernel
theorem d2_51 : decode method_2_code 51 = .ok (.if_icmp .eq 15, 3) := by decide +kernel
theorem d2_66 : decode method_2_code 66 = .ok (.iconst 0, 1) := by decide +kernel
theorem d2_67 : decode method_2_code 67 = .ok (.ireturn, 1) := by decide +kernel
theorem d2_54 : decode method_2_code 54 = .ok (.iload_n 0, 1) := by decide +kernel
theorem d2_55 : decode method_2_code 55 = .ok (.bipush 96, 2) := by decide +kernel
theorem d2_57 : decode method_2_code 57 = .ok (.if_icmp .eq 9, 3) := by decide +kernel
theorem d2_60 : decode method_2_code 60 = .ok (.iload_n 0, 1) := by decide +kernel
theorem d2_61 : decode method_2_code 61 = .ok (.bipush 92, 2) := by decide +kernel
theorem d2_63 : decode method_2_code 63 = .ok (.if_icmp .ne 5, 3) := by decide +kernel
theorem d2_68 : decode method_2_code 68 = .ok (.iconst 1, 1) := by decide +kernel
theorem d2_69 : decode method_2_code 69 = .ok (.ireturn, 1) := by decide +kernel
theorem d2_6 : decode method_2_code 6 = .ok (.iconst 0, 1) := by decide +kernel
theorem d2_7 : decode method_2_code 7 = .ok (.ireturn, 1) := by decide +kernel
theorem pn_2 : plainName "com/example/backchain/backchain/io/DlgpReaderIsIriCharacterPinLaw" = true := by first | (simp [plainName, overriddenIn]; done) | decide +kernel
theorem ef_2 (m : MethodId) (x0 : Int32) : entryFrame m #[(.int x0)] 1 = mkF m 0 #[.val (.int x0)] [] := by first | (simp [entryFrame, mkF, argsToLocals, Value.category]; done) | rfl
def Q2 (Z : State) (p0 : Int32) (h0 : Heap) (n0 : Nat) (v : Option Value) (h : Heap) (L : List Loc) : Prop := v = some (.int (own_exp p0)) ∧ Fr n0 L ∧ h = h0
set_option maxRecDepth 65536 in
set_option maxHeartbeats 40000000 in
theorem rm2 (l : Launch) (Z : State) (aw : Array Value) (hw : ∀ d ∈ tables_1, d.before aw Z = true) (ws : List Jvm.Cond) (p0 : Int32) (h0 : Heap) (n0 : Nat) (Z0 : n0 ≤ h0.size) :
    MetFree l (⟨"com/example/backchain/backchain/io/DlgpReaderIsIriCharacterPinLaw", "expected", "(I)Z"⟩ : MethodName) (head1 (Jvm.Cond.code (⟨"com/example/backchain/backchain/io/DlgpReaderIsIriCharacterPinLaw", "expected", "(I)Z"⟩ : MethodName) method_2_code 1 (some .boolean) :: ws) ({ frames := 0, cells := 0, slots := 0, locals := 0 } : Room)) (fun a U => a = #[(.int p0)] ∧ Z.Warmed39 U.vm ∧ U.heap = h0) (fun _ _ _ _ _ => True) (fun _ U o U' => ∃ v L, o = .returned v ∧ Q2 Z p0 h0 n0 v U'.heap L ∧ FrameEnd U o U' L ({ frames := 0, cells := 0, slots := 0, locals := 0 } : Room).cells ({ frames := 0, cells := 0, slots := 0, locals := 0 } : Room).slots) := by
  refine MetFree.of_bodySF (plainFor_of_name pn_2) hisR ?_
  intro p e s m args below meth c s₁ Bd hml0 hP hK
  obtain ⟨rfl, hZ, hh⟩ := hP
  have hx := Bd.exec
  have hby := Bd.bytes
  have hml : c.maxLocals = 1 := hml0
  have hown : s.vm.findClass "com/example/backchain/backchain/io/DlgpReaderIsIriCharacterPinLaw" = some m.cls := findClass_of_methodNamed Bd.named
  have hnm := (name_of_methodNamed Bd.named Bd.method).1
  have hlk : meth.locks = false := BodyLoose.notSynchronized Bd
  have X0 : Stand p l e ({ frames := 0, cells := 0, slots := 0, locals := 0 } : Room) s m #[(.int p0)] below meth c s₁ [] 0 0 := Stand.of_body Bd
  have e0 : s₁.heap = h0 := by rw [← hh, Bd.state]; rfl
  have N0 := Fr.nil n0
  show Run p e s below (Q2 Z p0 h0 n0) ({ frames := 0, cells := 0, slots := 0, locals := 0 } : Room).cells ({ frames := 0, cells := 0, slots := 0, locals := 0 } : Room).slots s₁ (entryFrame m #[(.int p0)] 1)
  rw [ef_2]
  show Run _ _ _ _ _ _ _ s₁ (mkF m 0 #[.val (.int p0)] [])
  refine go (T' := s₁) (f' := (mkF m 1 #[.val (.int p0)] [(.int p0)])) (by intro t k; exact XS.iloadN X0.here hx rfl (hb hby d2_0) rfl k) ?_
  show Run _ _ _ _ _ _ _ s₁ (mkF m 1 #[.val (.int p0)] [(.int p0)])
  refine go (T' := s₁) (f' := (mkF m 3 #[.val (.int p0)] [(.int (32 : Int32)), (.int p0)])) (by intro t k; exact XS.bipush X0.here hx rfl (hb hby d2_1) k) ?_
  show Run _ _ _ _ _ _ _ s₁ (mkF m 3 #[.val (.int p0)] [(.int (32 : Int32)), (.int p0)])
  by_cases hc3 : (32 : Int32) < p0
  · refine go (T' := s₁) (f' := (mkF m 8 #[.val (.int p0)] [])) (by intro t k; exact XS.icmpYes X0.here hx rfl (pc0 := 3) (pc' := 8) rfl (hb hby d2_3) rfl (tlt hc3).2.2.1 (by decide) (by decide) k) ?_
    show Run _ _ _ _ _ _ _ s₁ (mkF m 8 #[.val (.int p0)] [])
    refine go (T' := s₁) (f' := (mkF m 9 #[.val (.int p0)] [(.int p0)])) (by intro t k; exact XS.iloadN X0.here hx rfl (hb hby d2_8) rfl k) ?_
    show Run _ _ _ _ _ _ _ s₁ (mkF m 9 #[.val (.int p0)] [(.int p0)])
    refine go (T' := s₁) (f' := (mkF m 11 #[.val (.int p0)] [(.int (60 : Int32)), (.int p0)])) (by intro t k; exact XS.bipush X0.here hx rfl (hb hby d2_9) k) ?_
    show Run _ _ _ _ _ _ _ s₁ (mkF m 11 #[.val (.int p0)] [(.int (60 : Int32)), (.int p0)])
    by_cases hc11 : p0 = (60 : Int32)
    · refine go (T' := s₁) (f' := (mkF m 26 #[.val (.int p0)] [])) (by intro t k; exact XS.icmpYes X0.here hx rfl (pc0 := 11) (pc' := 26) rfl (hb hby d2_11) rfl (teq hc11).1 (by decide) (by decide) k) ?_
      show Run _ _ _ _ _ _ _ s₁ (mkF m 26 #[.val (.int p0)] [])
      refine go (T' := s₁) (f' := (mkF m 27 #[.val (.int p0)] [(.int (0 : Int32))])) (by intro t k; exact XS.iconst X0.here hx rfl (hb hby d2_26) k) ?_
      show Run _ _ _ _ _ _ _ s₁ (mkF m 27 #[.val (.int p0)] [(.int (0 : Int32))])
      refine retZ X0 hx (t := .boolean) Bd.returns (by simp) (hb hby d2_27) hlk (by decide) (by decide) ?_
      show Q2 Z p0 h0 n0 _ s₁.heap _
      rw [e0]
      have hv' : (nar .boolean (0 : Int32)) = (own_exp p0) := by
        subst_vars
        unfold own_exp
        first | rfl | ((repeat' split) <;> first | rfl | contradiction) | simp [nar, *]
      have hv : (some (.int (nar .boolean (0 : Int32))) : Option Value) = some (.int (own_exp p0)) := congrArg (fun z => (some (.int z) : Option Value)) hv'
      exact ⟨hv, N0, rfl⟩
    · refine go (T' := s₁) (f' := (mkF m 14 #[.val (.int p0)] [])) (by intro t k; exact XS.icmpNo X0.here hx rfl (hb hby d2_11) rfl (feq hc11).1 k) ?_
      show Run _ _ _ _ _ _ _ s₁ (mkF m 14 #[.val (.int p0)] [])
      refine go (T' := s₁) (f' := (mkF m 15 #[.val (.int p0)] [(.int p0)])) (by intro t k; exact XS.iloadN X0.here hx rfl (hb hby d2_14) rfl k) ?_
      show Run _ _ _ _ _ _ _ s₁ (mkF m 15 #[.val (.int p0)] [(.int p0)])
      refine go (T' := s₁) (f' := (mkF m 17 #[.val (.int p0)] [(.int (62 : Int32)), (.int p0)])) (by intro t k; exact XS.bipush X0.here hx rfl (hb hby d2_15) k) ?_
      show Run _ _ _ _ _ _ _ s₁ (mkF m 17 #[.val (.int p0)] [(.int (62 : Int32)), (.int p0)])
      by_cases hc17 : p0 = (62 : Int32)
      · refine go (T' := s₁) (f' := (mkF m 26 #[.val (.int p0)] [])) (by intro t k; exact XS.icmpYes X0.here hx rfl (pc0 := 17) (pc' := 26) rfl (hb hby d2_17) rfl (teq hc17).1 (by decide) (by decide) k) ?_
        show Run _ _ _ _ _ _ _ s₁ (mkF m 26 #[.val (.int p0)] [])
        refine go (T' := s₁) (f' := (mkF m 27 #[.val (.int p0)] [(.int (0 : Int32))])) (by intro t k; exact XS.iconst X0.here hx rfl (hb hby d2_26) k) ?_
        show Run _ _ _ _ _ _ _ s₁ (mkF m 27 #[.val (.int p0)] [(.int (0 : Int32))])
        refine retZ X0 hx (t := .boolean) Bd.returns (by simp) (hb hby d2_27) hlk (by decide) (by decide) ?_
        show Q2 Z p0 h0 n0 _ s₁.heap _
        rw [e0]
        have hv' : (nar .boolean (0 : Int32)) = (own_exp p0) := by
          subst_vars
          unfold own_exp
          first | rfl | ((repeat' split) <;> first | rfl | contradiction) | simp [nar, *]
        have hv : (some (.int (nar .boolean (0 : Int32))) : Option Value) = some (.int (own_exp p0)) := congrArg (fun z => (some (.int z) : Option Value)) hv'
        exact ⟨hv, N0, rfl⟩
      · refine go (T' := s₁) (f' := (mkF m 20 #[.val (.int p0)] [])) (by intro t k; exact XS.icmpNo X0.here hx rfl (hb hby d2_17) rfl (feq hc17).1 k) ?_
        show Run _ _ _ _ _ _ _ s₁ (mkF m 20 #[.val (.int p0)] [])
        refine go (T' := s₁) (f' := (mkF m 21 #[.val (.int p0)] [(.int p0)])) (by intro t k; exact XS.iloadN X0.here hx rfl (hb hby d2_20) rfl k) ?_
        show Run _ _ _ _ _ _ _ s₁ (mkF m 21 #[.val (.int p0)] [(.int p0)])
        refine go (T' := s₁) (f' := (mkF m 23 #[.val (.int p0)] [(.int (34 : Int32)), (.int p0)])) (by intro t k; exact XS.bipush X0.here hx rfl (hb hby d2_21) k) ?_
        show Run _ _ _ _ _ _ _ s₁ (mkF m 23 #[.val (.int p0)] [(.int (34 : Int32)), (.int p0)])
        by_cases hc23 : p0 = (34 : Int32)
        · refine go (T' := s₁) (f' := (mkF m 26 #[.val (.int p0)] [])) (by intro t k; exact XS.icmpNo X0.here hx rfl (hb hby d2_23) rfl (teq hc23).2 k) ?_
          show Run _ _ _ _ _ _ _ s₁ (mkF m 26 #[.val (.int p0)] [])
          refine go (T' := s₁) (f' := (mkF m 27 #[.val (.int p0)] [(.int (0 : Int32))])) (by intro t k; exact XS.iconst X0.here hx rfl (hb hby d2_26) k) ?_
          show Run _ _ _ _ _ _ _ s₁ (mkF m 27 #[.val (.int p0)] [(.int (0 : Int32))])
          refine retZ X0 hx (t := .boolean) Bd.returns (by simp) (hb hby d2_27) hlk (by decide) (by decide) ?_
          show Q2 Z p0 h0 n0 _ s₁.heap _
          rw [e0]
          have hv' : (nar .boolean (0 : Int32)) = (own_exp p0) := by
            subst_vars
            unfold own_exp
            first | rfl | ((repeat' split) <;> first | rfl | contradiction) | simp [nar, *]
          have hv : (some (.int (nar .boolean (0 : Int32))) : Option Value) = some (.int (own_exp p0)) := congrArg (fun z => (some (.int z) : Option Value)) hv'
          exact ⟨hv, N0, rfl⟩
        · refine go (T' := s₁) (f' := (mkF m 28 #[.val (.int p0)] [])) (by intro t k; exact XS.icmpYes X0.here hx rfl (pc0 := 23) (pc' := 28) rfl (hb hby d2_23) rfl (feq hc23).2 (by decide) (by decide) k) ?_
          show Run _ _ _ _ _ _ _ s₁ (mkF m 28 #[.val (.int p0)] [])
          refine go (T' := s₁) (f' := (mkF m 29 #[.val (.int p0)] [(.int p0)])) (by intro t k; exact XS.iloadN X0.here hx rfl (hb hby d2_28) rfl k) ?_
          show Run _ _ _ _ _ _ _ s₁ (mkF m 29 #[.val (.int p0)] [(.int p0)])
          refine go (T' := s₁) (f' := (mkF m 31 #[.val (.int p0)] [(.int (123 : Int32)), (.int p0)])) (by intro t k; exact XS.bipush X0.here hx rfl (hb hby d2_29) k) ?_
          show Run _ _ _ _ _ _ _ s₁ (mkF m 31 #[.val (.int p0)] [(.int (123 : Int32)), (.int p0)])
          by_cases hc31 : p0 = (123 : Int32)
          · refine go (T' := s₁) (f' := (mkF m 46 #[.val (.int p0)] [])) (by intro t k; exact XS.icmpYes X0.here hx rfl (pc0 := 31) (pc' := 46) rfl (hb hby d2_31) rfl (teq hc31).1 (by decide) (by decide) k) ?_
            show Run _ _ _ _ _ _ _ s₁ (mkF m 46 #[.val (.int p0)] [])
            refine go (T' := s₁) (f' := (mkF m 47 #[.val (.int p0)] [(.int (0 : Int32))])) (by intro t k; exact XS.iconst X0.here hx rfl (hb hby d2_46) k) ?_
            show Run _ _ _ _ _ _ _ s₁ (mkF m 47 #[.val (.int p0)] [(.int (0 : Int32))])
            refine retZ X0 hx (t := .boolean) Bd.returns (by simp) (hb hby d2_47) hlk (by decide) (by decide) ?_
            show Q2 Z p0 h0 n0 _ s₁.heap _
            rw [e0]
            have hv' : (nar .boolean (0 : Int32)) = (own_exp p0) := by
              subst_vars
              unfold own_exp
              first | rfl | ((repeat' split) <;> first | rfl | contradiction) | simp [nar, *]
            have hv : (some (.int (nar .boolean (0 : Int32))) : Option Value) = some (.int (own_exp p0)) := congrArg (fun z => (some (.int z) : Option Value)) hv'
            exact ⟨hv, N0, rfl⟩
          · refine go (T' := s₁) (f' := (mkF m 34 #[.val (.int p0)] [])) (by intro t k; exact XS.icmpNo X0.here hx rfl (hb hby d2_31) rfl (feq hc31).1 k) ?_
            show Run _ _ _ _ _ _ _ s₁ (mkF m 34 #[.val (.int p0)] [])
            refine go (T' := s₁) (f' := (mkF m 35 #[.val (.int p0)] [(.int p0)])) (by intro t k; exact XS.iloadN X0.here hx rfl (hb hby d2_34) rfl k) ?_
            show Run _ _ _ _ _ _ _ s₁ (mkF m 35 #[.val (.int p0)] [(.int p0)])
            refine go (T' := s₁) (f' := (mkF m 37 #[.val (.int p0)] [(.int (125 : Int32)), (.int p0)])) (by intro t k; exact XS.bipush X0.here hx rfl (hb hby d2_35) k) ?_
            show Run _ _ _ _ _ _ _ s₁ (mkF m 37 #[.val (.int p0)] [(.int (125 : Int32)), (.int p0)])
            by_cases hc37 : p0 = (125 : Int32)
            · refine go (T' := s₁) (f' := (mkF m 46 #[.val (.int p0)] [])) (by intro t k; exact XS.icmpYes X0.here hx rfl (pc0 := 37) (pc' := 46) rfl (hb hby d2_37) rfl (teq hc37).1 (by decide) (by decide) k) ?_
              show Run _ _ _ _ _ _ _ s₁ (mkF m 46 #[.val (.int p0)] [])
              refine go (T' := s₁) (f' := (mkF m 47 #[.val (.int p0)] [(.int (0 : Int32))])) (by intro t k; exact XS.iconst X0.here hx rfl (hb hby d2_46) k) ?_
              show Run _ _ _ _ _ _ _ s₁ (mkF m 47 #[.val (.int p0)] [(.int (0 : Int32))])
              refine retZ X0 hx (t := .boolean) Bd.returns (by simp) (hb hby d2_47) hlk (by decide) (by decide) ?_
              show Q2 Z p0 h0 n0 _ s₁.heap _
              rw [e0]
              have hv' : (nar .boolean (0 : Int32)) = (own_exp p0) := by
                subst_vars
                unfold own_exp
                first | rfl | ((repeat' split) <;> first | rfl | contradiction) | simp [nar, *]
              have hv : (some (.int (nar .boolean (0 : Int32))) : Option Value) = some (.int (own_exp p0)) := congrArg (fun z => (some (.int z) : Option Value)) hv'
              exact ⟨hv, N0, rfl⟩
            · refine go (T' := s₁) (f' := (mkF m 40 #[.val (.int p0)] [])) (by intro t k; exact XS.icmpNo X0.here hx rfl (hb hby d2_37) rfl (feq hc37).1 k) ?_
              show Run _ _ _ _ _ _ _ s₁ (mkF m 40 #[.val (.int p0)] [])
              refine go (T' := s₁) (f' := (mkF m 41 #[.val (.int p0)] [(.int p0)])) (by intro t k; exact XS.iloadN X0.here hx rfl (hb hby d2_40) rfl k) ?_
              show Run _ _ _ _ _ _ _ s₁ (mkF m 41 #[.val (.int p0)] [(.int p0)])
              refine go (T' := s₁) (f' := (mkF m 43 #[.val (.int p0)] [(.int (124 : Int32)), (.int p0)])) (by intro t k; exact XS.bipush X0.here hx rfl (hb hby d2_41) k) ?_
              show Run _ _ _ _ _ _ _ s₁ (mkF m 43 #[.val (.int p0)] [(.int (124 : Int32)), (.int p0)])
              by_cases hc43 : p0 = (124 : Int32)
              · refine go (T' := s₁) (f' := (mkF m 46 #[.val (.int p0)] [])) (by intro t k; exact XS.icmpNo X0.here hx rfl (hb hby d2_43) rfl (teq hc43).2 k) ?_
                show Run _ _ _ _ _ _ _ s₁ (mkF m 46 #[.val (.int p0)] [])
                refine go (T' := s₁) (f' := (mkF m 47 #[.val (.int p0)] [(.int (0 : Int32))])) (by intro t k; exact XS.iconst X0.here hx rfl (hb hby d2_46) k) ?_
                show Run _ _ _ _ _ _ _ s₁ (mkF m 47 #[.val (.int p0)] [(.int (0 : Int32))])
                refine retZ X0 hx (t := .boolean) Bd.returns (by simp) (hb hby d2_47) hlk (by decide) (by decide) ?_
                show Q2 Z p0 h0 n0 _ s₁.heap _
                rw [e0]
                have hv' : (nar .boolean (0 : Int32)) = (own_exp p0) := by
                  subst_vars
                  unfold own_exp
                  first | rfl | ((repeat' split) <;> first | rfl | contradiction) | simp [nar, *]
                have hv : (some (.int (nar .boolean (0 : Int32))) : Option Value) = some (.int (own_exp p0)) := congrArg (fun z => (some (.int z) : Option Value)) hv'
                exact ⟨hv, N0, rfl⟩
              · refine go (T' := s₁) (f' := (mkF m 48 #[.val (.int p0)] [])) (by intro t k; exact XS.icmpYes X0.here hx rfl (pc0 := 43) (pc' := 48) rfl (hb hby d2_43) rfl (feq hc43).2 (by decide) (by decide) k) ?_
                show Run _ _ _ _ _ _ _ s₁ (mkF m 48 #[.val (.int p0)] [])
                refine go (T' := s₁) (f' := (mkF m 49 #[.val (.int p0)] [(.int p0)])) (by intro t k; exact XS.iloadN X0.here hx rfl (hb hby d2_48) rfl k) ?_
                show Run _ _ _ _ _ _ _ s₁ (mkF m 49 #[.val (.int p0)] [(.int p0)])
                refine go (T' := s₁) (f' := (mkF m 51 #[.val (.int p0)] [(.int (94 : Int32)), (.int p0)])) (by intro t k; exact XS.bipush X0.here hx rfl (hb hby d2_49) k) ?_
                show Run _ _ _ _ _ _ _ s₁ (mkF m 51 #[.val (.int p0)] [(.int (94 : Int32)), (.int p0)])
                by_cases hc51 : p0 = (94 : Int32)
                · refine go (T' := s₁) (f' := (mkF m 66 #[.val (.int p0)] [])) (by intro t k; exact XS.icmpYes X0.here hx rfl (pc0 := 51) (pc' := 66) rfl (hb hby d2_51) rfl (teq hc51).1 (by decide) (by decide) k) ?_
                  show Run _ _ _ _ _ _ _ s₁ (mkF m 66 #[.val (.int p0)] [])
                  refine go (T' := s₁) (f' := (mkF m 67 #[.val (.int p0)] [(.int (0 : Int32))])) (by intro t k; exact XS.iconst X0.here hx rfl (hb hby d2_66) k) ?_
                  show Run _ _ _ _ _ _ _ s₁ (mkF m 67 #[.val (.int p0)] [(.int (0 : Int32))])
                  refine retZ X0 hx (t := .boolean) Bd.returns (by simp) (hb hby d2_67) hlk (by decide) (by decide) ?_
                  show Q2 Z p0 h0 n0 _ s₁.heap _
                  rw [e0]
                  have hv' : (nar .boolean (0 : Int32)) = (own_exp p0) := by
                    subst_vars
                    unfold own_exp
                    first | rfl | ((repeat' split) <;> first | rfl | contradiction) | simp [nar, *]
                  have hv : (some (.int (nar .boolean (0 : Int32))) : Option Value) = some (.int (own_exp p0)) := congrArg (fun z => (some (.int z) : Option Value)) hv'
                  exact ⟨hv, N0, rfl⟩
                · refine go (T' := s₁) (f' := (mkF m 54 #[.val (.int p0)] [])) (by intro t k; exact XS.icmpNo X0.here hx rfl (hb hby d2_51) rfl (feq hc51).1 k) ?_
                  show Run _ _ _ _ _ _ _ s₁ (mkF m 54 #[.val (.int p0)] [])
                  refine go (T' := s₁) (f' := (mkF m 55 #[.val (.int p0)] [(.int p0)])) (by intro t k; exact XS.iloadN X0.here hx rfl (hb hby d2_54) rfl k) ?_
                  show Run _ _ _ _ _ _ _ s₁ (mkF m 55 #[.val (.int p0)] [(.int p0)])
                  refine go (T' := s₁) (f' := (mkF m 57 #[.val (.int p0)] [(.int (96 : Int32)), (.int p0)])) (by intro t k; exact XS.bipush X0.here hx rfl (hb hby d2_55) k) ?_
                  show Run _ _ _ _ _ _ _ s₁ (mkF m 57 #[.val (.int p0)] [(.int (96 : Int32)), (.int p0)])
                  by_cases hc57 : p0 = (96 : Int32)
                  · refine go (T' := s₁) (f' := (mkF m 66 #[.val (.int p0)] [])) (by intro t k; exact XS.icmpYes X0.here hx rfl (pc0 := 57) (pc' := 66) rfl (hb hby d2_57) rfl (teq hc57).1 (by decide) (by decide) k) ?_
                    show Run _ _ _ _ _ _ _ s₁ (mkF m 66 #[.val (.int p0)] [])
                    refine go (T' := s₁) (f' := (mkF m 67 #[.val (.int p0)] [(.int (0 : Int32))])) (by intro t k; exact XS.iconst X0.here hx rfl (hb hby d2_66) k) ?_
                    show Run _ _ _ _ _ _ _ s₁ (mkF m 67 #[.val (.int p0)] [(.int (0 : Int32))])
                    refine retZ X0 hx (t := .boolean) Bd.returns (by simp) (hb hby d2_67) hlk (by decide) (by decide) ?_
                    show Q2 Z p0 h0 n0 _ s₁.heap _
                    rw [e0]
                    have hv' : (nar .boolean (0 : Int32)) = (own_exp p0) := by
                      subst_vars
                      unfold own_exp
                      first | rfl | ((repeat' split) <;> first | rfl | contradiction) | simp [nar, *]
                    have hv : (some (.int (nar .boolean (0 : Int32))) : Option Value) = some (.int (own_exp p0)) := congrArg (fun z => (some (.int z) : Option Value)) hv'
                    exact ⟨hv, N0, rfl⟩
                  · refine go (T' := s₁) (f' := (mkF m 60 #[.val (.int p0)] [])) (by intro t k; exact XS.icmpNo X0.here hx rfl (hb hby d2_57) rfl (feq hc57).1 k) ?_
                    show Run _ _ _ _ _ _ _ s₁ (mkF m 60 #[.val (.int p0)] [])
                    refine go (T' := s₁) (f' := (mkF m 61 #[.val (.int p0)] [(.int p0)])) (by intro t k; exact XS.iloadN X0.here hx rfl (hb hby d2_60) rfl k) ?_
                    show Run _ _ _ _ _ _ _ s₁ (mkF m 61 #[.val (.int p0)] [(.int p0)])
                    refine go (T' := s₁) (f' := (mkF m 63 #[.val (.int p0)] [(.int (92 : Int32)), (.int p0)])) (by intro t k; exact XS.bipush X0.here hx rfl (hb hby d2_61) k) ?_
                    show Run _ _ _ _ _ _ _ s₁ (mkF m 63 #[.val (.int p0)] [(.int (92 : Int32)), (.int p0)])
                    by_cases hc63 : p0 = (92 : Int32)
                    · refine go (T' := s₁) (f' := (mkF m 66 #[.val (.int p0)] [])) (by intro t k; exact XS.icmpNo X0.here hx rfl (hb hby d2_63) rfl (teq hc63).2 k) ?_
                      show Run _ _ _ _ _ _ _ s₁ (mkF m 66 #[.val (.int p0)] [])
                      refine go (T' := s₁) (f' := (mkF m 67 #[.val (.int p0)] [(.int (0 : Int32))])) (by intro t k; exact XS.iconst X0.here hx rfl (hb hby d2_66) k) ?_
                      show Run _ _ _ _ _ _ _ s₁ (mkF m 67 #[.val (.int p0)] [(.int (0 : Int32))])
                      refine retZ X0 hx (t := .boolean) Bd.returns (by simp) (hb hby d2_67) hlk (by decide) (by decide) ?_
                      show Q2 Z p0 h0 n0 _ s₁.heap _
                      rw [e0]
                      have hv' : (nar .boolean (0 : Int32)) = (own_exp p0) := by
                        subst_vars
                        unfold own_exp
                        first | rfl | ((repeat' split) <;> first | rfl | contradiction) | simp [nar, *]
                      have hv : (some (.int (nar .boolean (0 : Int32))) : Option Value) = some (.int (own_exp p0)) := congrArg (fun z => (some (.int z) : Option Value)) hv'
                      exact ⟨hv, N0, rfl⟩
                    · refine go (T' := s₁) (f' := (mkF m 68 #[.val (.int p0)] [])) (by intro t k; exact XS.icmpYes X0.here hx rfl (pc0 := 63) (pc' := 68) rfl (hb hby d2_63) rfl (feq hc63).2 (by decide) (by decide) k) ?_
                      show Run _ _ _ _ _ _ _ s₁ (mkF m 68 #[.val (.int p0)] [])
                      refine go (T' := s₁) (f' := (mkF m 69 #[.val (.int p0)] [(.int (1 : Int32))])) (by intro t k; exact XS.iconst X0.here hx rfl (hb hby d2_68) k) ?_
                      show Run _ _ _ _ _ _ _ s₁ (mkF m 69 #[.val (.int p0)] [(.int (1 : Int32))])
                      refine retZ X0 hx (t := .boolean) Bd.returns (by simp) (hb hby d2_69) hlk (by decide) (by decide) ?_
                      show Q2 Z p0 h0 n0 _ s₁.heap _
                      rw [e0]
                      have hv' : (nar .boolean (1 : Int32)) = (own_exp p0) := by
                        subst_vars
                        unfold own_exp
                        first | rfl | ((repeat' split) <;> first | rfl | contradiction) | simp [nar, *]
                      have hv : (some (.int (nar .boolean (1 : Int32))) : Option Value) = some (.int (own_exp p0)) := congrArg (fun z => (some (.int z) : Option Value)) hv'
                      exact ⟨hv, N0, rfl⟩
  · refine go (T' := s₁) (f' := (mkF m 6 #[.val (.int p0)] [])) (by intro t k; exact XS.icmpNo X0.here hx rfl (hb hby d2_3) rfl (flt hc3).2.2.1 k) ?_
    show Run _ _ _ _ _ _ _ s₁ (mkF m 6 #[.val (.int p0)] [])
    refine go (T' := s₁) (f' := (mkF m 7 #[.val (.int p0)] [(.int (0 : Int32))])) (by intro t k; exact XS.iconst X0.here hx rfl (hb hby d2_6) k) ?_
    show Run _ _ _ _ _ _ _ s₁ (mkF m 7 #[.val (.int p0)] [(.int (0 : Int32))])
    refine retZ X0 hx (t := .boolean) Bd.returns (by simp) (hb hby d2_7) hlk (by decide) (by decide) ?_
    show Q2 Z p0 h0 n0 _ s₁.heap _
    rw [e0]
    have hv' : (nar .boolean (0 : Int32)) = (own_exp p0) := by
      subst_vars
      unfold own_exp
      first | rfl | ((repeat' split) <;> first | rfl | contradiction) | simp [nar, *]
    have hv : (some (.int (nar .boolean (0 : Int32))) : Option Value) = some (.int (own_exp p0)) := congrArg (fun z => (some (.int z) : Option Value)) hv'
    exact ⟨hv, N0, rfl⟩
theorem own_fin : ∀ n : Fin 256, own_iri (Int32.ofNat n.1) = own_exp (Int32.ofNat n.1) := by decide +kernel
theorem own_law (p : Int32) : own_iri p = own_exp p := by
  by_cases h0 : (32 : Int32) < p
  · by_cases h1 : (255 : Int32) < p
    · have hp : ¬ p < 0 := by
        rw [Int32.lt_iff_toInt_lt] at *
        have a : (0 : Int32).toInt = 0 := rfl
        have b : (255 : Int32).toInt = 255 := rfl
        omega
      have e : own_li p = -1 := by
        unfold own_li own_can
        simp only [if_neg hp, if_pos h1, if_true]
      have ne : ∀ k : Int32, k.toInt ≤ 255 → ¬ p = k := fun k hk q => by
        rw [q, Int32.lt_iff_toInt_lt] at h1
        have b : (255 : Int32).toInt = 255 := rfl
        omega
      unfold own_iri own_exp
      rw [if_pos h0, e]
      simp only [if_pos h0, if_neg (ne 60 (by decide)), if_neg (ne 62 (by decide)), if_neg (ne 34 (by decide)), if_neg (ne 123 (by decide)), if_neg (ne 125 (by decide)), if_neg (ne 124 (by decide)), if_neg (ne 94 (by decide)), if_neg (ne 96 (by decide)), if_neg (ne 92 (by decide))]
      decide
    · have hb : 0 ≤ p.toInt ∧ p.toInt < 256 := by
        rw [Int32.lt_iff_toInt_lt] at *
        have a : (32 : Int32).toInt = 32 := rfl
        have b : (255 : Int32).toInt = 255 := rfl
        omega
      have e : Int32.ofNat p.toInt.toNat = p := by rw [← Int32.ofInt_eq_ofNat, Int.toNat_of_nonneg hb.1, Int32.ofInt_toInt]
      have q := own_fin ⟨p.toInt.toNat, by omega⟩
      rw [e] at q
      exact q
  · unfold own_iri own_exp
    simp only [if_neg h0]
theorem ef_0 (m : MethodId) (x0 : Int32) (x1 : Int32) : entryFrame m #[(.int x0), (.int x1)] maxLocals = mkF m 0 #[.val (.int x0), .val (.int x1), .unset] [] := by first | (simp [entryFrame, mkF, argsToLocals, Value.category, maxLocals]; done) | rfl
def Q0 (Z : State) (p0 : Int32) (p1 : Int32) (cs : Int32) (h0 : Heap) (n0 : Nat) (v : Option Value) (h : Heap) (L : List Loc) : Prop := v = some (.int (1 : Int32)) ∧ Fr n0 L
set_option maxRecDepth 65536 in
set_option maxHeartbeats 40000000 in
theorem rm0 (l : Launch) (Z : State) (aw : Array Value) (hw : ∀ d ∈ tables_1, d.before aw Z = true) (ws : List Jvm.Cond) (p0 : Int32) (p1 : Int32) (cs : Int32) (h0 : Heap) (n0 : Nat) (Z0 : n0 ≤ h0.size) (O0 : Old Z n0 h0) (S_cs : Sta Z Z.heap "java/lang/String" "COMPACT_STRINGS" "Z" (.int cs)) (hcs : ¬ (cs = (0 : Int32))) :
    MetFree l x (head1 (Jvm.Cond.code x code maxLocals ret :: ws) room_1) (fun a U => a = #[(.int p0), (.int p1)] ∧ Z.Warmed39 U.vm ∧ U.heap = h0 ∧ CHv Z consts_1 U.vm h0) (fun _ _ _ _ _ => True) (fun _ U o U' => ∃ v L, o = .returned v ∧ Q0 Z p0 p1 cs h0 n0 v U'.heap L ∧ CHr Z consts_1 U.vm U.heap U'.vm U'.heap ∧ ReturnedEndW U o U' L room_1.cells room_1.slots) := by
  refine MetFree.of_bodySF (plainFor_of_name pn_2) hisR ?_
  intro p e s m args below meth c s₁ Bd hml0 hP hK
  obtain ⟨rfl, hZ, hh, hC⟩ := hP
  have hx := Bd.exec
  have hby := Bd.bytes
  have hml : c.maxLocals = 3 := hml0
  have hown : s.vm.findClass "com/example/backchain/backchain/io/DlgpReaderIsIriCharacterPinLaw" = some m.cls := findClass_of_methodNamed Bd.named
  have hnm := (name_of_methodNamed Bd.named Bd.method).1
  have hlk : meth.locks = false := BodyLoose.notSynchronized Bd
  have X0 : Stand p l e room_1 s m #[(.int p0), (.int p1)] below meth c s₁ [] 0 0 := Stand.of_body Bd
  have e0 : s₁.heap = h0 := by rw [← hh, Bd.state]; rfl
  have N0 := Fr.nil n0
  have hEL : EW Z aw consts_1 := (EW.cons (hw _ (List.mem_of_getElem? (i := 8) rfl)) (by decide) EW.nil : EW Z aw [("com/example/backchain/backchain/io/DlgpReader", 155)])
  show RunH Z consts_1 p e s below (Q0 Z p0 p1 cs h0 n0) room_1.cells room_1.slots s₁ (entryFrame m #[(.int p0), (.int p1)] maxLocals)
  rw [ef_0]
  show RunH _ _ _ _ _ _ _ _ _ s₁ (mkF m 0 #[.val (.int p0), .val (.int p1), .unset] [])
  refine goH (T' := s₁) (f' := (mkF m 1 #[.val (.int p0), .val (.int p1), .unset] [(.int p1)])) (by intro t k; exact XS.iloadN X0.here hx rfl (hb hby at_0) rfl k) ?_
  show RunH _ _ _ _ _ _ _ _ _ s₁ (mkF m 1 #[.val (.int p0), .val (.int p1), .unset] [(.int p1)])
  refine goH (T' := s₁) (f' := (mkF m 3 #[.val (.int p0), .val (.int p1), .unset] [(.int (127 : Int32)), (.int p1)])) (by intro t k; exact XS.bipush X0.here hx rfl (hb hby at_1) k) ?_
  show RunH _ _ _ _ _ _ _ _ _ s₁ (mkF m 3 #[.val (.int p0), .val (.int p1), .unset] [(.int (127 : Int32)), (.int p1)])
  refine goH (T' := s₁) (f' := (mkF m 4 #[.val (.int p0), .val (.int p1), .unset] [(.int (p1 &&& (127 : Int32)))])) (by intro t k; exact XS.iand X0.here hx rfl (hb hby at_3) rfl k) ?_
  show RunH _ _ _ _ _ _ _ _ _ s₁ (mkF m 4 #[.val (.int p0), .val (.int p1), .unset] [(.int (p1 &&& (127 : Int32)))])
  refine goH (T' := s₁) (f' := (mkF m 5 #[.val (.int p0), .val (.int p1), .val (.int (p1 &&& (127 : Int32)))] [])) (by intro t k; exact XS.istoreN X0.here hx rfl (hb hby at_4) rfl (l' := #[.val (.int p0), .val (.int p1), .val (.int (p1 &&& (127 : Int32)))]) rfl k) ?_
  show RunH _ _ _ _ _ _ _ _ _ s₁ (mkF m 5 #[.val (.int p0), .val (.int p1), .val (.int (p1 &&& (127 : Int32)))] [])
  refine goH (T' := s₁) (f' := (mkF m 6 #[.val (.int p0), .val (.int p1), .val (.int (p1 &&& (127 : Int32)))] [(.int p0)])) (by intro t k; exact XS.iloadN X0.here hx rfl (hb hby at_5) rfl k) ?_
  show RunH _ _ _ _ _ _ _ _ _ s₁ (mkF m 6 #[.val (.int p0), .val (.int p1), .val (.int (p1 &&& (127 : Int32)))] [(.int p0)])
  obtain ⟨_, _, ⟨T1, Lz1, kz1, nz1⟩, -, X1', hT1, hg1, ⟨Lc1, hQ1, lz1, yz1, zz1, C1⟩, st1⟩ := callSS (s := s.setVm s.vm) X0 hx (y := (⟨"com/example/backchain/backchain/io/DlgpReader", "isIriCharacter", "(I)Z"⟩ : MethodName)) hown (mvT hZ (hw _ (List.mem_of_getElem? (i := 0) rfl))) (mvT hZ (hw _ (List.mem_of_getElem? (i := 1) rfl))) (mvT hZ (hw _ (List.mem_of_getElem? (i := 2) rfl))) (mvT hZ (hw _ (List.mem_of_getElem? (i := 3) rfl))) (by decide) (backOfSH (s := s) (vm0 := s.vm) (EL := consts_1) (W := 0) (rm1 l Z aw hw [] p0 cs h0 n0 Z0 O0 S_cs hcs) hZ (hw _ (List.mem_of_getElem? (i := 3) rfl)) (hw _ (List.mem_of_getElem? (i := 2) rfl)) (by decide) (by decide) hEL (CHr.refl hC).1) (g := (mkF m 6 #[.val (.int p0), .val (.int p1), .val (.int (p1 &&& (127 : Int32)))] [(.int p0)])) rfl (by rw [hml]; rfl) (argsL := [(.int p0)]) (rest := []) (lenOf pd_28I29Z rfl) rfl (by show 2 * 0 + _ ≤ _; exact Nat.le_of_eq rfl) (hb hby at_6) (fun _ _ => ⟨rfl, e0, (by decide : 0 + 2 ≤ _), (by decide : 0 + 40 ≤ _)⟩)
  dsimp only [Pt.U, Pt.locs, Pt.cells, Pt.slots] at X1' lz1 yz1 zz1 st1 hQ1 hT1 hg1 C1
  subst lz1 yz1 zz1
  obtain ⟨X1, hS1, hZ1, hown1⟩ := rebS ((State.WarmedH.refl s).since 0) (Nat.zero_le _) X1' hT1 hg1 hZ hown
  have hZ := hZ1
  have hown := hown1
  have CR1 := (CHr.refl hC).trans C1
  obtain ⟨rfl, N1q, K1⟩ := hQ1
  have O1 : Old Z n0 T1.heap := O0.keep K1 all0
  have Z1 : n0 ≤ T1.heap.size := Nat.le_trans Z0 K1.1
  have N1 := Fr.app N0 N1q
  refine goH (fun _ k => st1.trans k) ?_
  show RunH _ _ _ _ _ _ _ _ _ T1 (mkF m 9 #[.val (.int p0), .val (.int p1), .val (.int (p1 &&& (127 : Int32)))] [(.int (own_iri p0))])
  refine goH (T' := T1) (f' := (mkF m 10 #[.val (.int p0), .val (.int p1), .val (.int (p1 &&& (127 : Int32)))] [(.int p0), (.int (own_iri p0))])) (by intro t k; exact XS.iloadN X1.here hx rfl (hb hby at_9) rfl k) ?_
  show RunH _ _ _ _ _ _ _ _ _ T1 (mkF m 10 #[.val (.int p0), .val (.int p1), .val (.int (p1 &&& (127 : Int32)))] [(.int p0), (.int (own_iri p0))])
  obtain ⟨_, _, ⟨T2, Lz2, kz2, nz2⟩, -, X2, ⟨Lc2, hQ2, lz2, yz2, zz2⟩, st2⟩ := Jvm.LawKit.callS X1 hx (y := (⟨"com/example/backchain/backchain/io/DlgpReaderIsIriCharacterPinLaw", "expected", "(I)Z"⟩ : MethodName)) hown (mvT hZ (hw _ (List.mem_of_getElem? (i := 4) rfl))) (mvT hZ (hw _ (List.mem_of_getElem? (i := 5) rfl))) (mvT hZ (hw _ (List.mem_of_getElem? (i := 6) rfl))) (mvT hZ (hw _ (List.mem_of_getElem? (i := 7) rfl))) (by decide) (backOf (W := 1) (rm2 l Z aw hw [] p0  T1.heap n0 Z1 ) hZ (hw _ (List.mem_of_getElem? (i := 7) rfl)) (hw _ (List.mem_of_getElem? (i := 6) rfl)) (by decide) (by decide)) (g := (mkF m 10 #[.val (.int p0), .val (.int p1), .val (.int (p1 &&& (127 : Int32)))] [(.int p0), (.int (own_iri p0))])) rfl (by rw [hml]; rfl) (argsL := [(.int p0)]) (rest := [(.int (own_iri p0))]) (lenOf pd_28I29Z rfl) rfl (by show 2 * 0 + _ ≤ _; exact Nat.le_of_eq rfl) (hb hby at_10) (fun _ _ => ⟨rfl, rfl, (by decide : 2 + 0 ≤ _), (by decide : 40 + 0 ≤ _)⟩)
  dsimp only [Pt.U, Pt.locs, Pt.cells, Pt.slots] at X2 lz2 yz2 zz2 st2 hQ2
  subst lz2 yz2 zz2
  obtain ⟨rfl, N2q, e2⟩ := hQ2
  have N2 := Fr.app N1 N2q
  refine goH st2 ?_
  show RunH _ _ _ _ _ _ _ _ _ T2 (mkF m 13 #[.val (.int p0), .val (.int p1), .val (.int (p1 &&& (127 : Int32)))] [(.int (own_exp p0)), (.int (own_iri p0))])
  refine goH (T' := T2) (f' := (mkF m 16 #[.val (.int p0), .val (.int p1), .val (.int (p1 &&& (127 : Int32)))] [])) (by intro t k; exact XS.icmpNo X2.here hx rfl (hb hby at_13) rfl (teq (own_law _ : (own_iri p0) = (own_exp p0))).2 k) ?_
  show RunH _ _ _ _ _ _ _ _ _ T2 (mkF m 16 #[.val (.int p0), .val (.int p1), .val (.int (p1 &&& (127 : Int32)))] [])
  refine goH (T' := T2) (f' := (mkF m 17 #[.val (.int p0), .val (.int p1), .val (.int (p1 &&& (127 : Int32)))] [(.int (p1 &&& (127 : Int32)))])) (by intro t k; exact XS.iloadN X2.here hx rfl (hb hby at_16) rfl k) ?_
  show RunH _ _ _ _ _ _ _ _ _ T2 (mkF m 17 #[.val (.int p0), .val (.int p1), .val (.int (p1 &&& (127 : Int32)))] [(.int (p1 &&& (127 : Int32)))])
  obtain ⟨_, _, ⟨T3, Lz3, kz3, nz3⟩, -, X3', hT3, hg3, ⟨Lc3, hQ3, lz3, yz3, zz3, C3⟩, st3⟩ := callSS (s := s.setVm T1.vm) X2 hx (y := (⟨"com/example/backchain/backchain/io/DlgpReader", "isIriCharacter", "(I)Z"⟩ : MethodName)) hown (mvT hZ (hw _ (List.mem_of_getElem? (i := 0) rfl))) (mvT hZ (hw _ (List.mem_of_getElem? (i := 1) rfl))) (mvT hZ (hw _ (List.mem_of_getElem? (i := 2) rfl))) (mvT hZ (hw _ (List.mem_of_getElem? (i := 3) rfl))) (by decide) (backOfSH (s := s) (vm0 := T1.vm) (EL := consts_1) (W := 0) (rm1 l Z aw hw [] (p1 &&& (127 : Int32)) cs T1.heap n0 Z1 O1 S_cs hcs) hZ (hw _ (List.mem_of_getElem? (i := 3) rfl)) (hw _ (List.mem_of_getElem? (i := 2) rfl)) (by decide) (by decide) hEL CR1.1) (g := (mkF m 17 #[.val (.int p0), .val (.int p1), .val (.int (p1 &&& (127 : Int32)))] [(.int (p1 &&& (127 : Int32)))])) rfl (by rw [hml]; rfl) (argsL := [(.int (p1 &&& (127 : Int32)))]) (rest := []) (lenOf pd_28I29Z rfl) rfl (by show 2 * 0 + _ ≤ _; exact Nat.le_of_eq rfl) (hb hby at_17) (fun _ _ => ⟨rfl, e2, (by decide : 2 + 2 ≤ _), (by decide : 40 + 40 ≤ _)⟩)
  dsimp only [Pt.U, Pt.locs, Pt.cells, Pt.slots] at X3' lz3 yz3 zz3 st3 hQ3 hT3 hg3 C3
  subst lz3 yz3 zz3
  obtain ⟨X3, hS3, hZ3, hown3⟩ := rebS hS1 (by rw [e2]; exact (Nat.le_refl _)) X3' hT3 hg3 hZ hown
  have hZ := hZ3
  have hown := hown3
  have CR3 := CR1.trans C3
  obtain ⟨rfl, N3q, K3⟩ := hQ3
  have O3 : Old Z n0 T3.heap := O1.keep K3 all0
  have Z3 : n0 ≤ T3.heap.size := Nat.le_trans Z1 K3.1
  have N3 := Fr.app N2 N3q
  refine goH (fun _ k => st3.trans k) ?_
  show RunH _ _ _ _ _ _ _ _ _ T3 (mkF m 20 #[.val (.int p0), .val (.int p1), .val (.int (p1 &&& (127 : Int32)))] [(.int (own_iri (p1 &&& (127 : Int32))))])
  refine goH (T' := T3) (f' := (mkF m 21 #[.val (.int p0), .val (.int p1), .val (.int (p1 &&& (127 : Int32)))] [(.int (p1 &&& (127 : Int32))), (.int (own_iri (p1 &&& (127 : Int32))))])) (by intro t k; exact XS.iloadN X3.here hx rfl (hb hby at_20) rfl k) ?_
  show RunH _ _ _ _ _ _ _ _ _ T3 (mkF m 21 #[.val (.int p0), .val (.int p1), .val (.int (p1 &&& (127 : Int32)))] [(.int (p1 &&& (127 : Int32))), (.int (own_iri (p1 &&& (127 : Int32))))])
  obtain ⟨_, _, ⟨T4, Lz4, kz4, nz4⟩, -, X4, ⟨Lc4, hQ4, lz4, yz4, zz4⟩, st4⟩ := Jvm.LawKit.callS X3 hx (y := (⟨"com/example/backchain/backchain/io/DlgpReaderIsIriCharacterPinLaw", "expected", "(I)Z"⟩ : MethodName)) hown (mvT hZ (hw _ (List.mem_of_getElem? (i := 4) rfl))) (mvT hZ (hw _ (List.mem_of_getElem? (i := 5) rfl))) (mvT hZ (hw _ (List.mem_of_getElem? (i := 6) rfl))) (mvT hZ (hw _ (List.mem_of_getElem? (i := 7) rfl))) (by decide) (backOf (W := 1) (rm2 l Z aw hw [] (p1 &&& (127 : Int32))  T3.heap n0 Z3 ) hZ (hw _ (List.mem_of_getElem? (i := 7) rfl)) (hw _ (List.mem_of_getElem? (i := 6) rfl)) (by decide) (by decide)) (g := (mkF m 21 #[.val (.int p0), .val (.int p1), .val (.int (p1 &&& (127 : Int32)))] [(.int (p1 &&& (127 : Int32))), (.int (own_iri (p1 &&& (127 : Int32))))])) rfl (by rw [hml]; rfl) (argsL := [(.int (p1 &&& (127 : Int32)))]) (rest := [(.int (own_iri (p1 &&& (127 : Int32))))]) (lenOf pd_28I29Z rfl) rfl (by show 2 * 0 + _ ≤ _; exact Nat.le_of_eq rfl) (hb hby at_21) (fun _ _ => ⟨rfl, rfl, (by decide : 4 + 0 ≤ _), (by decide : 80 + 0 ≤ _)⟩)
  dsimp only [Pt.U, Pt.locs, Pt.cells, Pt.slots] at X4 lz4 yz4 zz4 st4 hQ4
  subst lz4 yz4 zz4
  obtain ⟨rfl, N4q, e4⟩ := hQ4
  have N4 := Fr.app N3 N4q
  refine goH st4 ?_
  show RunH _ _ _ _ _ _ _ _ _ T4 (mkF m 24 #[.val (.int p0), .val (.int p1), .val (.int (p1 &&& (127 : Int32)))] [(.int (own_exp (p1 &&& (127 : Int32)))), (.int (own_iri (p1 &&& (127 : Int32))))])
  refine goH (T' := T4) (f' := (mkF m 27 #[.val (.int p0), .val (.int p1), .val (.int (p1 &&& (127 : Int32)))] [])) (by intro t k; exact XS.icmpNo X4.here hx rfl (hb hby at_24) rfl (teq (own_law _ : (own_iri (p1 &&& (127 : Int32))) = (own_exp (p1 &&& (127 : Int32))))).2 k) ?_
  show RunH _ _ _ _ _ _ _ _ _ T4 (mkF m 27 #[.val (.int p0), .val (.int p1), .val (.int (p1 &&& (127 : Int32)))] [])
  refine goH (T' := T4) (f' := (mkF m 28 #[.val (.int p0), .val (.int p1), .val (.int (p1 &&& (127 : Int32)))] [(.int (1 : Int32))])) (by intro t k; exact XS.iconst X4.here hx rfl (hb hby at_27) k) ?_
  show RunH _ _ _ _ _ _ _ _ _ T4 (mkF m 28 #[.val (.int p0), .val (.int p1), .val (.int (p1 &&& (127 : Int32)))] [(.int (1 : Int32))])
  refine goH (T' := T4) (f' := (mkF m 32 #[.val (.int p0), .val (.int p1), .val (.int (p1 &&& (127 : Int32)))] [(.int (1 : Int32))])) (by intro t k; exact XS.goto X4.here hx rfl (pc0 := 28) (pc' := 32) rfl (hb hby at_28) (by decide) (by decide) k) ?_
  show RunH _ _ _ _ _ _ _ _ _ T4 (mkF m 32 #[.val (.int p0), .val (.int p1), .val (.int (p1 &&& (127 : Int32)))] [(.int (1 : Int32))])
  refine retZH (vm₁ := T3.vm) (aw := aw) (h := T3.heap) X4 hS3 (by rw [e4]; exact (Nat.le_refl _)) hh e4 CR3 hEL hZ hx (t := .boolean) Bd.returns (by simp) (hb hby at_32) hlk (by decide) (by decide) ?_
  show Q0 Z p0 p1 cs h0 n0 _ T4.heap _
  rw [e4]
  have hv' : (nar .boolean (1 : Int32)) = (1 : Int32) := by
    rfl
  have hv : (some (.int (nar .boolean (1 : Int32))) : Option Value) = some (.int (1 : Int32)) := congrArg (fun z => (some (.int z) : Option Value)) hv'
  exact ⟨hv, N4⟩
theorem own_ne0 {args : Array Value} {s : State} {t : Term} {x : Int32} (e : t.eval args s none [] s = some (.int x)) (h : (Jvm.Cond.not (Jvm.Cond.eq t (Jvm.Term.int (0 : Int32)))).value args s none s [] = some true) : ¬ (x = (0 : Int32)) := fun q => by
  have := not_v h
  simp [Cond.value, Term.eval, e, q] at this
set_option maxRecDepth 65536 in
set_option maxHeartbeats 40000000 in
theorem comes_1 {Post : Tables → Env → Array Value → State → Outcome → State → Prop} (hpost : ∀ tb e args s v u, (limb_1_1.after args s (.returned v) u = true ∧ limb_1_2.after args s (.returned v) u = true ∧ True) → ReturnedEndW s (.returned v) u (Jvm.fieldLocs frame_1_writes args s ++ Jvm.arrayLocs frame_1_arrays args s ++ Jvm.staticLocs frame_1_statics s) 8 1088 → Post tb e args s (.returned v) u) :
    ArmFor flags0 classFile x code maxLocals ret World_1 tables_1 room_1 Calls_1 rest_1 Pre_1 Post := by
  intro l hfl _ _ p e ha hc hk s m args below hf hA hF happ hP
  obtain ⟨hcalls, hrest, hpre⟩ := hP
  obtain ⟨-, -, -, hnamed, -, -, -, hat⟩ := (Spec.applies_iff hf).mp happ
  obtain ⟨hg, hn⟩ := and_e (Cond.before_iff.mp (show (Jvm.Cond.and given_1 narrow_1).before args s = true from hpre))
  obtain ⟨g1, g2⟩ := and_e hg
  obtain ⟨g3, g4⟩ := and_e g2
  obtain ⟨w0, w1, rfl⟩ : ∃ w0 w1 : Value, args = #[w0, w1] := by
    have hs : args.size = 2 := by simpa [Cond.value, given_1] using g1
    obtain ⟨L⟩ := args
    match L, hs with
    | [w0, w1], _ => exact ⟨w0, w1, rfl⟩
  have hw := fun d (hd : d ∈ tables_1) => atoms_spec (ws := Jvm.Cond.code x code maxLocals ret :: tables_1) hat d (List.mem_cons_of_mem _ hd)
  have hfit : Fit s := fun {y c} hc i hi => by
    obtain ⟨ha, rfl⟩ := Array.getElem?_eq_some_iff.mp hc
    have q := List.all_eq_true.mp ((Array.all_eq_true_iff_forall_mem.mp hF) _ (Array.getElem_mem ha)) i (List.mem_range.mpr hi)
    simpa [Array.getElem?_eq_getElem hi] using q
  obtain ⟨hsets, hown0⟩ := atoms_of _ (rest_1_c_eq ▸ (show rest_1_c.before _ s = true from hrest))
  have hr0 := Cond.before_iff.mp hown0
  obtain ⟨i0, ei0⟩ := is_v g3
  obtain rfl : w0 = (.int i0) := Option.some.inj ei0
  obtain ⟨i1, ei1⟩ := is_v g4
  obtain rfl : w1 = (.int i1) := Option.some.inj ei1
  obtain ⟨cs, ecs⟩ := is_v (Cond.before_iff.mp (hsets _ (List.mem_of_getElem? (i := 1) rfl)))
  have S_cs := Sta.start ecs (Or.inl (hsets _ (List.mem_of_getElem? (i := 0) rfl)))
  have hcs : ¬ (cs = (0 : Int32)) := own_ne0 ecs (Cond.before_iff.mp (hsets _ (List.mem_of_getElem? (i := 2) rfl)))
  have hCH : CHv s consts_1 s.vm s.heap := CHv.start ((EW.cons (hw _ (List.mem_of_getElem? (i := 8) rfl)) (by decide) EW.nil : EW s #[.int i0, .int i1] [("com/example/backchain/backchain/io/DlgpReader", 155)])) hcalls.1 (hsets _ (List.mem_of_getElem? (i := 2) rfl)) (hw _ (List.mem_of_getElem? (i := 11) rfl)) (hw _ (List.mem_of_getElem? (i := 10) rfl))
  obtain ⟨n, o, h1, h2, h3, _, L, rfl, ⟨rfl, N⟩, -, hq⟩ := rm0 l s _ hw tables_1 i0 i1 cs s.heap s.heap.size (Nat.le_refl _) (Old.start s) S_cs hcs p e ha hc hk s m _ below hf ((Spec.applies_iff_loose hf).mp happ).1 ⟨rfl, State.Warmed39.refl s, rfl, hCH⟩ trivial
  refine ⟨n, _, h1, h2, h3, hpost _ _ _ _ _ _ ⟨Cond.after_iff.mpr rfl, Cond.after_iff.mpr (eq_i res_at (Term.int_eval (1)) rfl), trivial⟩ ⟨hq.1, hq.2.1, hq.2.2.1, (hq.2.2.2.sift fun y hy => Or.inr (N y hy)).mono (by decide) (by decide)⟩⟩
theorem main_1_1 : Claimed_1_1 := comes_1 fun _ _ _ _ _ _ h hF => ⟨h.1, hF⟩
theorem main_1_2 : Claimed_1_2 := comes_1 fun _ _ _ _ _ _ h hF => ⟨h.2.1, hF⟩
end Jvm.Pilot.@@N@@
namespace Jvm.Pilot.@@N@@
open Jvm Jvm.ClassFile Sem Op Lib Jvm.Free Jvm.Stand Jvm.Pilot.@@N@@.Jvm.D
/-! MADE BY PROGRAM (witnessworld.py) out of the Statement's table words and the real class files: 18 classes; the members and pool entries that the words name. The judged class is class 1, her method 2. -/
namespace start1
open Jvm.ClassFile
def u (s : String) : CpInfo := .utf8 (stringToUtf16 s)
/-- a pool by its gaps: so many unusable entries, then the entry; so many at the end -/
def gap : Nat → List CpInfo → List CpInfo
  | 0, r => r
  | n + 1, r => .unusable :: gap n r
def poolList (es : List (Nat × CpInfo)) (last : Nat) : List CpInfo := es.foldr (fun e r => gap e.1 (e.2 :: r)) (gap last [])
def pool (es : List (Nat × CpInfo)) (last : Nat) : Array CpInfo := ⟨poolList es last⟩
def fileOf (pool : Array CpInfo) (this : Nat) (attrs : Array Attribute := #[]) (ms : Array MethodInfo := #[]) (fl : Nat := 33) (sup : Nat := 0) (ifs : Array Nat := #[]) (fds : Array FieldInfo := #[]) : ClassFile where
  minorVersion := 0
  majorVersion := 65
  constantPool := pool
  accessFlags := fl
  thisClass := this
  superClass := sup
  interfaces := ifs
  fields := fds
  methods := ms
  attributes := attrs
def plain (name : String) (sup : Option ClassId) : Class where
  name := name
  kind := .ordinary
  loader := none
  accessFlags := 33
  super := sup
  interfaces := #[]
  cf := none
  fields := #[]
  methods := #[]
  instanceTypes := #[]
  staticTypes := #[]
  resolved := #[]
  callSites := []
  init := .initialized
  statics := none
  mirror := none

def pool0 : Array CpInfo := pool [(5, u "<init>"), (0, u "()V"), (1, .class_ 10), (1, u "java/lang/Object")] 113

def k0m0 : Method := { name := "<init>", desc := "()V", sig := { parameters := [], returnType := none }, accessFlags := 1, code := none }
/-- java/lang/Object -/
def k0 : Class := { plain "java/lang/Object" none with
  accessFlags := 33
  interfaces := #[]
  cf := some (fileOf pool0 8 #[] #[{ accessFlags := 1, nameIndex := 5, descriptorIndex := 6, attributes := #[] }] 33 0 #[] #[])
  fields := #[]
  methods := #[k0m0]
  instanceTypes := #[]
  staticTypes := #[]
  resolved := Array.replicate 124 none
  statics := none }

def pool1 : Array CpInfo := pool [(2, .class_ 4), (1, u "java/lang/Object"), (0, u "<init>"), (0, u "()V"), (0, .methodref 8 9), (0, .class_ 10), (0, .nameAndType 11 12), (0, u "com/example/backchain/backchain/io/DlgpReader"), (0, u "isIriCharacter"), (0, u "(I)Z"), (0, .methodref 14 15), (0, .class_ 16), (0, .nameAndType 17 12), (0, u "com/example/backchain/backchain/io/DlgpReaderIsIriCharacterPinLaw"), (0, u "expected"), (3, u "law"), (0, u "(II)Z")] 2

def k1m0 : Method := { name := "<init>", desc := "()V", sig := { parameters := [], returnType := none }, accessFlags := 2, code := none }
def k1c1 : Code := { maxStack := 2, maxLocals := 1, code := method_2_code, exceptionTable := #[], attributes := #[] }
def k1m1 : Method := { name := "expected", desc := "(I)Z", sig := { parameters := [.int], returnType := some .boolean }, accessFlags := 10, code := some k1c1 }
def k1c2 : Code := { maxStack := 2, maxLocals := 3, code := code, exceptionTable := #[], attributes := #[] }
def k1m2 : Method := { name := "law", desc := "(II)Z", sig := { parameters := [.int, .int], returnType := some .boolean }, accessFlags := 9, code := some k1c2 }
/-- com/example/backchain/backchain/io/DlgpReaderIsIriCharacterPinLaw -/
def k1 : Class := { plain "com/example/backchain/backchain/io/DlgpReaderIsIriCharacterPinLaw" (some 0) with
  accessFlags := 49
  interfaces := #[]
  cf := some (fileOf pool1 14 #[] #[{ accessFlags := 2, nameIndex := 5, descriptorIndex := 6, attributes := #[] }, { accessFlags := 10, nameIndex := 17, descriptorIndex := 12, attributes := #[] }, { accessFlags := 9, nameIndex := 21, descriptorIndex := 22, attributes := #[] }] 49 2 #[] #[])
  fields := #[]
  methods := #[k1m0, k1m1, k1m2]
  instanceTypes := #[]
  staticTypes := #[]
  resolved := Array.replicate 25 none
  statics := none }

def pool2 : Array CpInfo := pool [(5, u "<init>"), (0, u "()V"), (1, .class_ 10), (1, u "com/example/backchain/backchain/io/DlgpReader"), (2, .class_ 14), (0, u "java/lang/Object"), (2, u "builder"), (0, u "Lcom/example/backchain/backchain/io/KnowledgeBaseBuilder;"), (20, .class_ 40), (0, u "com/example/backchain/backchain/io/DlgpReader$Parser"), (0, .class_ 42), (0, u "com/example/backchain/backchain/io/DlgpReader$Cursor"), (111, u "(I)Z"), (0, .string 156), (0, u "<>\"{}|^`\\"), (0, .methodref 158 159), (0, .class_ 160), (0, .nameAndType 161 162), (0, u "java/lang/String"), (0, u "indexOf"), (0, u "(I)I"), (26, .class_ 191), (1, u "com/example/backchain/backchain/io/DlgpReader$Marked"), (18, u "SECTIONS"), (0, u "Ljava/util/Set;"), (10, u "NUMBER"), (0, u "Ljava/util/regex/Pattern;"), (17, u "isIriCharacter"), (8, .class_ 251), (0, u "com/example/backchain/backchain/io/DlgpReader$Mark")] 32

def k2m0 : Method := { name := "<init>", desc := "()V", sig := { parameters := [], returnType := none }, accessFlags := 1, code := none }
def k2c1 : Code := { maxStack := 2, maxLocals := 1, code := prog_8_method_9_code, exceptionTable := #[], attributes := #[] }
def k2m1 : Method := { name := "isIriCharacter", desc := "(I)Z", sig := { parameters := [.int], returnType := some .boolean }, accessFlags := 8, code := some k2c1 }
/-- com/example/backchain/backchain/io/DlgpReader -/
def k2 : Class := { plain "com/example/backchain/backchain/io/DlgpReader" (some 0) with
  accessFlags := 33
  interfaces := #[]
  cf := some (fileOf pool2 8 #[.nestMembers #[189, 250, 41, 39]] #[{ accessFlags := 1, nameIndex := 5, descriptorIndex := 6, attributes := #[] }, { accessFlags := 8, nameIndex := 241, descriptorIndex := 154, attributes := #[] }] 33 13 #[] #[{ accessFlags := 26, nameIndex := 210, descriptorIndex := 211, attributes := #[] }, { accessFlags := 26, nameIndex := 222, descriptorIndex := 223, attributes := #[] }, { accessFlags := 18, nameIndex := 17, descriptorIndex := 18, attributes := #[] }])
  fields := #[{ name := "SECTIONS", type := (.object "java/util/Set"), accessFlags := 26, slot := 0, constantValue := 0 }, { name := "NUMBER", type := (.object "java/util/regex/Pattern"), accessFlags := 26, slot := 1, constantValue := 0 }, { name := "builder", type := (.object "com/example/backchain/backchain/io/KnowledgeBaseBuilder"), accessFlags := 18, slot := 0, constantValue := 0 }]
  methods := #[k2m0, k2m1]
  instanceTypes := #[(.object "com/example/backchain/backchain/io/KnowledgeBaseBuilder")]
  staticTypes := #[(.object "java/util/Set"), (.object "java/util/regex/Pattern")]
  resolved := Array.replicate 284 none
  statics := none }

def pool3 : Array CpInfo := pool [(1, .class_ 2), (0, u "java/io/Serializable"), (0, .class_ 4), (0, u "java/lang/Object")] 2

/-- java/io/Serializable -/
def k3 : Class := { plain "java/io/Serializable" (some 0) with
  accessFlags := 1537
  interfaces := #[]
  cf := some (fileOf pool3 1 #[] #[] 1537 3 #[] #[])
  fields := #[]
  methods := #[]
  instanceTypes := #[]
  staticTypes := #[]
  resolved := Array.replicate 7 none
  statics := none }

def pool4 : Array CpInfo := pool [(1, .class_ 2), (0, u "java/lang/Comparable"), (0, .class_ 4), (0, u "java/lang/Object")] 7

/-- java/lang/Comparable -/
def k4 : Class := { plain "java/lang/Comparable" (some 0) with
  accessFlags := 1537
  interfaces := #[]
  cf := some (fileOf pool4 1 #[] #[] 1537 3 #[] #[])
  fields := #[]
  methods := #[]
  instanceTypes := #[]
  staticTypes := #[]
  resolved := Array.replicate 12 none
  statics := none }

def pool5 : Array CpInfo := pool [(2, .class_ 4), (1, u "java/lang/CharSequence"), (42, .class_ 48), (0, u "java/lang/CharSequence$1CodePointIterator"), (10, .class_ 60), (0, u "java/lang/CharSequence$1CharIterator"), (5, .class_ 67), (0, u "java/lang/Object")] 63

/-- java/lang/CharSequence -/
def k5 : Class := { plain "java/lang/CharSequence" (some 0) with
  accessFlags := 1537
  interfaces := #[]
  cf := some (fileOf pool5 2 #[.nestMembers #[47, 59]] #[] 1537 66 #[] #[])
  fields := #[]
  methods := #[]
  instanceTypes := #[]
  staticTypes := #[]
  resolved := Array.replicate 131 none
  statics := none }

def pool6 : Array CpInfo := pool [(1, .class_ 2), (0, u "java/lang/constant/Constable"), (0, .class_ 4), (0, u "java/lang/Object")] 6

/-- java/lang/constant/Constable -/
def k6 : Class := { plain "java/lang/constant/Constable" (some 0) with
  accessFlags := 1537
  interfaces := #[]
  cf := some (fileOf pool6 1 #[] #[] 1537 3 #[] #[])
  fields := #[]
  methods := #[]
  instanceTypes := #[]
  staticTypes := #[]
  resolved := Array.replicate 11 none
  statics := none }

def pool7 : Array CpInfo := pool [(1, .class_ 2), (0, u "java/lang/constant/ConstantDesc"), (0, .class_ 4), (0, u "java/lang/Object")] 32

/-- java/lang/constant/ConstantDesc -/
def k7 : Class := { plain "java/lang/constant/ConstantDesc" (some 0) with
  accessFlags := 1537
  interfaces := #[]
  cf := some (fileOf pool7 1 #[] #[] 1537 3 #[] #[])
  fields := #[]
  methods := #[]
  instanceTypes := #[]
  staticTypes := #[]
  resolved := Array.replicate 37 none
  statics := none }

def pool8 : Array CpInfo := pool [(2, .class_ 4), (1, u "java/lang/Object"), (0, u "<init>"), (0, u "()V"), (2, .fieldref 10 11), (0, .class_ 12), (0, .nameAndType 13 14), (0, u "java/lang/String"), (0, u "value"), (0, u "[B"), (0, .fieldref 10 16), (0, .nameAndType 17 18), (0, u "coder"), (0, u "B"), (2, u "hash"), (0, u "I"), (2, u "hashIsZero"), (0, u "Z"), (11, .fieldref 10 39), (0, .nameAndType 40 26), (0, u "COMPACT_STRINGS"), (66, .class_ 109), (1, u "java/lang/StringLatin1"), (32, u "()Z"), (191, u "()I"), (0, .methodref 10 336), (0, .nameAndType 17 337), (0, u "()B"), (154, .methodref 10 493), (0, .nameAndType 494 142), (0, u "isLatin1"), (10, .methodref 10 506), (0, .nameAndType 507 334), (0, u "length"), (67, .class_ 576), (0, u "java/lang/CharSequence"), (22, u "CASE_INSENSITIVE_ORDER"), (0, u "Ljava/util/Comparator;"), (32, .methodref 10 634), (0, .nameAndType 635 636), (0, u "indexOf"), (0, u "(II)I"), (0, .methodref 107 638), (0, .nameAndType 635 639), (0, u "([BIII)I"), (125, u "(I)I"), (335, u "serialPersistentFields"), (0, u "[Ljava/io/ObjectStreamField;"), (0, .class_ 1104), (0, u "java/lang/String$CaseInsensitiveComparator"), (1, .class_ 1107), (0, u "java/io/Serializable"), (0, .class_ 1109), (0, u "java/lang/Comparable"), (0, .class_ 1111), (0, u "java/lang/constant/Constable"), (0, .class_ 1113), (0, u "java/lang/constant/ConstantDesc"), (2, u "serialVersionUID"), (0, u "J"), (3, u "REPL"), (0, u "C"), (2, u "LATIN1"), (1, u "UTF16")] 323

def k8m0 : Method := { name := "<init>", desc := "()V", sig := { parameters := [], returnType := none }, accessFlags := 1, code := none }
def k8c1 : Code := { maxStack := 2, maxLocals := 1, code := jdk_42_method_54_code, exceptionTable := #[], attributes := #[] }
def k8m1 : Method := { name := "length", desc := "()I", sig := { parameters := [], returnType := some .int }, accessFlags := 1, code := some k8c1 }
def k8c2 : Code := { maxStack := 3, maxLocals := 2, code := jdk_42_method_79_code, exceptionTable := #[], attributes := #[] }
def k8m2 : Method := { name := "indexOf", desc := "(I)I", sig := { parameters := [.int], returnType := some .int }, accessFlags := 1, code := some k8c2 }
def k8c3 : Code := { maxStack := 4, maxLocals := 3, code := jdk_42_method_80_code, exceptionTable := #[], attributes := #[] }
def k8m3 : Method := { name := "indexOf", desc := "(II)I", sig := { parameters := [.int, .int], returnType := some .int }, accessFlags := 1, code := some k8c3 }
def k8c4 : Code := { maxStack := 1, maxLocals := 1, code := jdk_42_method_152_code, exceptionTable := #[], attributes := #[] }
def k8m4 : Method := { name := "coder", desc := "()B", sig := { parameters := [], returnType := some .byte }, accessFlags := 0, code := some k8c4 }
def k8c5 : Code := { maxStack := 1, maxLocals := 1, code := jdk_42_method_154_code, exceptionTable := #[], attributes := #[] }
def k8m5 : Method := { name := "isLatin1", desc := "()Z", sig := { parameters := [], returnType := some .boolean }, accessFlags := 0, code := some k8c5 }
/-- java/lang/String -/
def k8 : Class := { plain "java/lang/String" (some 0) with
  accessFlags := 49
  interfaces := #[3, 4, 5, 6, 7]
  cf := some (fileOf pool8 10 #[.nestMembers #[1103]] #[{ accessFlags := 1, nameIndex := 5, descriptorIndex := 6, attributes := #[] }, { accessFlags := 1, nameIndex := 507, descriptorIndex := 334, attributes := #[] }, { accessFlags := 1, nameIndex := 635, descriptorIndex := 765, attributes := #[] }, { accessFlags := 1, nameIndex := 635, descriptorIndex := 636, attributes := #[] }, { accessFlags := 0, nameIndex := 17, descriptorIndex := 337, attributes := #[] }, { accessFlags := 0, nameIndex := 494, descriptorIndex := 142, attributes := #[] }] 49 2 #[1106, 1108, 575, 1110, 1112] #[{ accessFlags := 18, nameIndex := 13, descriptorIndex := 14, attributes := #[] }, { accessFlags := 18, nameIndex := 17, descriptorIndex := 18, attributes := #[] }, { accessFlags := 2, nameIndex := 21, descriptorIndex := 22, attributes := #[] }, { accessFlags := 2, nameIndex := 25, descriptorIndex := 26, attributes := #[] }, { accessFlags := 26, nameIndex := 1116, descriptorIndex := 1117, attributes := #[] }, { accessFlags := 24, nameIndex := 40, descriptorIndex := 26, attributes := #[] }, { accessFlags := 26, nameIndex := 1101, descriptorIndex := 1102, attributes := #[] }, { accessFlags := 26, nameIndex := 1121, descriptorIndex := 1122, attributes := #[] }, { accessFlags := 25, nameIndex := 599, descriptorIndex := 600, attributes := #[] }, { accessFlags := 24, nameIndex := 1125, descriptorIndex := 18, attributes := #[] }, { accessFlags := 24, nameIndex := 1127, descriptorIndex := 18, attributes := #[] }])
  fields := #[{ name := "value", type := (.array .byte), accessFlags := 18, slot := 0, constantValue := 0 }, { name := "coder", type := .byte, accessFlags := 18, slot := 1, constantValue := 0 }, { name := "hash", type := .int, accessFlags := 2, slot := 2, constantValue := 0 }, { name := "hashIsZero", type := .boolean, accessFlags := 2, slot := 3, constantValue := 0 }, { name := "serialVersionUID", type := .long, accessFlags := 26, slot := 0, constantValue := 0 }, { name := "COMPACT_STRINGS", type := .boolean, accessFlags := 24, slot := 1, constantValue := 0 }, { name := "serialPersistentFields", type := (.array (.object "java/io/ObjectStreamField")), accessFlags := 26, slot := 2, constantValue := 0 }, { name := "REPL", type := .char, accessFlags := 26, slot := 3, constantValue := 0 }, { name := "CASE_INSENSITIVE_ORDER", type := (.object "java/util/Comparator"), accessFlags := 25, slot := 4, constantValue := 0 }, { name := "LATIN1", type := .byte, accessFlags := 24, slot := 5, constantValue := 0 }, { name := "UTF16", type := .byte, accessFlags := 24, slot := 6, constantValue := 0 }]
  methods := #[k8m0, k8m1, k8m2, k8m3, k8m4, k8m5]
  instanceTypes := #[(.array .byte), .byte, .int, .boolean]
  staticTypes := #[.long, .boolean, (.array (.object "java/io/ObjectStreamField")), .char, (.object "java/util/Comparator"), .byte, .byte]
  resolved := Array.replicate 1451 none
  statics := some 0 }

def pool9 : Array CpInfo := pool [(4, .class_ 6), (1, u "java/lang/Object"), (0, u "<init>"), (0, u "()V"), (5, .class_ 16), (1, u "java/lang/StringLatin1"), (21, .methodref 39 40), (0, .class_ 41), (0, .nameAndType 42 43), (0, u "java/lang/Math"), (0, u "min"), (0, u "(II)I"), (44, .methodref 14 89), (0, .nameAndType 90 91), (0, u "canEncode"), (0, u "(I)Z"), (0, .methodref 39 93), (0, .nameAndType 94 43), (0, u "max"), (0, .methodref 14 96), (0, .nameAndType 97 98), (0, u "indexOfChar"), (0, u "([BIII)I"), (2, u "indexOf"), (19, u "$assertionsDisabled"), (0, u "Z"), (98, .class_ 223), (1, u "java/lang/StringLatin1$LinesSpliterator"), (166, .class_ 391), (0, u "java/lang/StringLatin1$CharsSpliterator")] 3

def k9m0 : Method := { name := "<init>", desc := "()V", sig := { parameters := [], returnType := none }, accessFlags := 0, code := none }
def k9c1 : Code := { maxStack := 2, maxLocals := 1, code := jdk_43_method_4_code, exceptionTable := #[], attributes := #[] }
def k9m1 : Method := { name := "canEncode", desc := "(I)Z", sig := { parameters := [.int], returnType := some .boolean }, accessFlags := 9, code := some k9c1 }
def k9c2 : Code := { maxStack := 4, maxLocals := 4, code := jdk_43_method_22_code, exceptionTable := #[], attributes := #[] }
def k9m2 : Method := { name := "indexOf", desc := "([BIII)I", sig := { parameters := [(.array .byte), .int, .int, .int], returnType := some .int }, accessFlags := 9, code := some k9c2 }
def k9c3 : Code := { maxStack := 2, maxLocals := 6, code := jdk_43_method_23_code, exceptionTable := #[], attributes := #[] }
def k9m3 : Method := { name := "indexOfChar", desc := "([BIII)I", sig := { parameters := [(.array .byte), .int, .int, .int], returnType := some .int }, accessFlags := 10, code := some k9c3 }
/-- java/lang/StringLatin1 -/
def k9 : Class := { plain "java/lang/StringLatin1" (some 0) with
  accessFlags := 48
  interfaces := #[]
  cf := some (fileOf pool9 14 #[.nestMembers #[390, 221]] #[{ accessFlags := 0, nameIndex := 7, descriptorIndex := 8, attributes := #[] }, { accessFlags := 9, nameIndex := 90, descriptorIndex := 91, attributes := #[] }, { accessFlags := 9, nameIndex := 101, descriptorIndex := 98, attributes := #[] }, { accessFlags := 10, nameIndex := 97, descriptorIndex := 98, attributes := #[] }] 48 4 #[] #[{ accessFlags := 4120, nameIndex := 121, descriptorIndex := 122, attributes := #[] }])
  fields := #[{ name := "$assertionsDisabled", type := .boolean, accessFlags := 4120, slot := 0, constantValue := 0 }]
  methods := #[k9m0, k9m1, k9m2, k9m3]
  instanceTypes := #[]
  staticTypes := #[.boolean]
  resolved := Array.replicate 395 none
  statics := none }

def pool10 : Array CpInfo := pool [(1, .class_ 2), (0, u "java/lang/Math"), (1, .class_ 6), (1, u "java/lang/Object"), (0, u "<init>"), (0, u "()V"), (89, .class_ 100), (1, u "java/lang/Math$RandomNumberGeneratorHolder"), (71, u "negativeZeroFloatBits"), (0, u "J"), (2, u "negativeZeroDoubleBits"), (21, u "max"), (2, u "min"), (43, u "$assertionsDisabled"), (0, u "Z"), (88, u "(II)I"), (2, u "twoToTheDoubleScaleDown"), (0, u "D"), (4, u "twoToTheDoubleScaleUp"), (9, u "E"), (3, u "PI"), (2, u "TAU"), (2, u "DEGREES_TO_RADIANS"), (0, u "RADIANS_TO_DEGREES")] 94

def k10m0 : Method := { name := "<init>", desc := "()V", sig := { parameters := [], returnType := none }, accessFlags := 2, code := none }
def k10c1 : Code := { maxStack := 2, maxLocals := 2, code := jdk_29_method_65_code, exceptionTable := #[], attributes := #[] }
def k10m1 : Method := { name := "max", desc := "(II)I", sig := { parameters := [.int, .int], returnType := some .int }, accessFlags := 9, code := some k10c1 }
def k10c2 : Code := { maxStack := 2, maxLocals := 2, code := jdk_29_method_69_code, exceptionTable := #[], attributes := #[] }
def k10m2 : Method := { name := "min", desc := "(II)I", sig := { parameters := [.int, .int], returnType := some .int }, accessFlags := 9, code := some k10c2 }
/-- java/lang/Math -/
def k10 : Class := { plain "java/lang/Math" (some 0) with
  accessFlags := 49
  interfaces := #[]
  cf := some (fileOf pool10 1 #[.nestMembers #[98]] #[{ accessFlags := 2, nameIndex := 7, descriptorIndex := 8, attributes := #[] }, { accessFlags := 9, nameIndex := 198, descriptorIndex := 335, attributes := #[] }, { accessFlags := 9, nameIndex := 201, descriptorIndex := 335, attributes := #[] }] 49 4 #[] #[{ accessFlags := 25, nameIndex := 354, descriptorIndex := 339, attributes := #[] }, { accessFlags := 25, nameIndex := 358, descriptorIndex := 339, attributes := #[] }, { accessFlags := 25, nameIndex := 361, descriptorIndex := 339, attributes := #[] }, { accessFlags := 26, nameIndex := 364, descriptorIndex := 339, attributes := #[] }, { accessFlags := 26, nameIndex := 365, descriptorIndex := 339, attributes := #[] }, { accessFlags := 26, nameIndex := 172, descriptorIndex := 173, attributes := #[] }, { accessFlags := 26, nameIndex := 176, descriptorIndex := 173, attributes := #[] }, { accessFlags := 8, nameIndex := 344, descriptorIndex := 339, attributes := #[] }, { accessFlags := 8, nameIndex := 338, descriptorIndex := 339, attributes := #[] }, { accessFlags := 4120, nameIndex := 245, descriptorIndex := 246, attributes := #[] }])
  fields := #[{ name := "E", type := .double, accessFlags := 25, slot := 0, constantValue := 0 }, { name := "PI", type := .double, accessFlags := 25, slot := 1, constantValue := 0 }, { name := "TAU", type := .double, accessFlags := 25, slot := 2, constantValue := 0 }, { name := "DEGREES_TO_RADIANS", type := .double, accessFlags := 26, slot := 3, constantValue := 0 }, { name := "RADIANS_TO_DEGREES", type := .double, accessFlags := 26, slot := 4, constantValue := 0 }, { name := "negativeZeroFloatBits", type := .long, accessFlags := 26, slot := 5, constantValue := 0 }, { name := "negativeZeroDoubleBits", type := .long, accessFlags := 26, slot := 6, constantValue := 0 }, { name := "twoToTheDoubleScaleUp", type := .double, accessFlags := 8, slot := 7, constantValue := 0 }, { name := "twoToTheDoubleScaleDown", type := .double, accessFlags := 8, slot := 8, constantValue := 0 }, { name := "$assertionsDisabled", type := .boolean, accessFlags := 4120, slot := 9, constantValue := 0 }]
  methods := #[k10m0, k10m1, k10m2]
  instanceTypes := #[]
  staticTypes := #[.double, .double, .double, .double, .double, .long, .long, .double, .double, .boolean]
  resolved := Array.replicate 460 none
  statics := none }

def pool11 : Array CpInfo := pool [(2, .class_ 4), (1, u "java/lang/Object"), (0, u "<init>"), (0, u "()V"), (17, .class_ 26), (1, u "jdk/internal/util/Preconditions"), (28, .class_ 56), (0, u "jdk/internal/util/Preconditions$4"), (57, .class_ 115), (0, u "jdk/internal/util/Preconditions$1"), (7, u "SIOOBE_FORMATTER"), (0, u "Ljava/util/function/BiFunction;"), (0, .class_ 126), (0, u "jdk/internal/util/Preconditions$2"), (3, u "AIOOBE_FORMATTER"), (0, .class_ 132), (0, u "jdk/internal/util/Preconditions$3"), (3, u "IOOBE_FORMATTER")] 57

def k11m0 : Method := { name := "<init>", desc := "()V", sig := { parameters := [], returnType := none }, accessFlags := 1, code := none }
/-- jdk/internal/util/Preconditions -/
def k11 : Class := { plain "jdk/internal/util/Preconditions" (some 0) with
  accessFlags := 33
  interfaces := #[]
  cf := some (fileOf pool11 24 #[.nestMembers #[55, 131, 125, 114]] #[{ accessFlags := 1, nameIndex := 5, descriptorIndex := 6, attributes := #[] }] 33 2 #[] #[{ accessFlags := 25, nameIndex := 123, descriptorIndex := 124, attributes := #[] }, { accessFlags := 25, nameIndex := 130, descriptorIndex := 124, attributes := #[] }, { accessFlags := 25, nameIndex := 136, descriptorIndex := 124, attributes := #[] }])
  fields := #[{ name := "SIOOBE_FORMATTER", type := (.object "java/util/function/BiFunction"), accessFlags := 25, slot := 0, constantValue := 0 }, { name := "AIOOBE_FORMATTER", type := (.object "java/util/function/BiFunction"), accessFlags := 25, slot := 1, constantValue := 0 }, { name := "IOOBE_FORMATTER", type := (.object "java/util/function/BiFunction"), accessFlags := 25, slot := 2, constantValue := 0 }]
  methods := #[k11m0]
  instanceTypes := #[]
  staticTypes := #[(.object "java/util/function/BiFunction"), (.object "java/util/function/BiFunction"), (.object "java/util/function/BiFunction")]
  resolved := Array.replicate 194 none
  statics := some 1 }

def pool12 : Array CpInfo := pool [(9, u "<init>"), (6, .class_ 18), (1, u "java/lang/Object"), (0, u "()V"), (1, .class_ 23), (1, u "jdk/internal/util/ArraysSupport"), (0, u "LOG2_ARRAY_LONG_INDEX_SCALE"), (0, u "I"), (2, u "U"), (0, u "Ljdk/internal/misc/Unsafe;"), (8, u "BIG_ENDIAN"), (0, u "Z"), (8, u "LOG2_BYTE_BIT_SIZE"), (4, u "LOG2_ARRAY_INT_INDEX_SCALE"), (54, u "JLA"), (0, u "Ljdk/internal/access/JavaLangAccess;"), (11, u "LOG2_ARRAY_BOOLEAN_INDEX_SCALE"), (9, u "LOG2_ARRAY_BYTE_INDEX_SCALE"), (5, u "LOG2_ARRAY_CHAR_INDEX_SCALE"), (5, u "LOG2_ARRAY_SHORT_INDEX_SCALE"), (18, u "LOG2_ARRAY_FLOAT_INDEX_SCALE"), (24, u "LOG2_ARRAY_DOUBLE_INDEX_SCALE"), (89, u "T_BOOLEAN"), (2, u "T_CHAR"), (1, u "T_FLOAT"), (1, u "T_DOUBLE"), (1, u "T_BYTE"), (1, u "T_SHORT"), (1, u "T_INT"), (1, u "T_LONG"), (1, u "SOFT_MAX_ARRAY_LENGTH")] 83

def k12m0 : Method := { name := "<init>", desc := "()V", sig := { parameters := [], returnType := none }, accessFlags := 2, code := none }
/-- jdk/internal/util/ArraysSupport -/
def k12 : Class := { plain "jdk/internal/util/ArraysSupport" (some 0) with
  accessFlags := 33
  interfaces := #[]
  cf := some (fileOf pool12 21 #[] #[{ accessFlags := 2, nameIndex := 9, descriptorIndex := 19, attributes := #[] }] 33 16 #[] #[{ accessFlags := 24, nameIndex := 28, descriptorIndex := 29, attributes := #[] }, { accessFlags := 26, nameIndex := 38, descriptorIndex := 39, attributes := #[] }, { accessFlags := 25, nameIndex := 121, descriptorIndex := 25, attributes := #[] }, { accessFlags := 25, nameIndex := 131, descriptorIndex := 25, attributes := #[] }, { accessFlags := 25, nameIndex := 137, descriptorIndex := 25, attributes := #[] }, { accessFlags := 25, nameIndex := 143, descriptorIndex := 25, attributes := #[] }, { accessFlags := 25, nameIndex := 53, descriptorIndex := 25, attributes := #[] }, { accessFlags := 25, nameIndex := 24, descriptorIndex := 25, attributes := #[] }, { accessFlags := 25, nameIndex := 162, descriptorIndex := 25, attributes := #[] }, { accessFlags := 25, nameIndex := 187, descriptorIndex := 25, attributes := #[] }, { accessFlags := 26, nameIndex := 48, descriptorIndex := 25, attributes := #[] }, { accessFlags := 25, nameIndex := 277, descriptorIndex := 25, attributes := #[] }, { accessFlags := 25, nameIndex := 280, descriptorIndex := 25, attributes := #[] }, { accessFlags := 25, nameIndex := 282, descriptorIndex := 25, attributes := #[] }, { accessFlags := 25, nameIndex := 284, descriptorIndex := 25, attributes := #[] }, { accessFlags := 25, nameIndex := 286, descriptorIndex := 25, attributes := #[] }, { accessFlags := 25, nameIndex := 288, descriptorIndex := 25, attributes := #[] }, { accessFlags := 25, nameIndex := 290, descriptorIndex := 25, attributes := #[] }, { accessFlags := 25, nameIndex := 292, descriptorIndex := 25, attributes := #[] }, { accessFlags := 26, nameIndex := 108, descriptorIndex := 109, attributes := #[] }, { accessFlags := 25, nameIndex := 294, descriptorIndex := 25, attributes := #[] }])
  fields := #[{ name := "U", type := (.object "jdk/internal/misc/Unsafe"), accessFlags := 24, slot := 0, constantValue := 0 }, { name := "BIG_ENDIAN", type := .boolean, accessFlags := 26, slot := 1, constantValue := 0 }, { name := "LOG2_ARRAY_BOOLEAN_INDEX_SCALE", type := .int, accessFlags := 25, slot := 2, constantValue := 0 }, { name := "LOG2_ARRAY_BYTE_INDEX_SCALE", type := .int, accessFlags := 25, slot := 3, constantValue := 0 }, { name := "LOG2_ARRAY_CHAR_INDEX_SCALE", type := .int, accessFlags := 25, slot := 4, constantValue := 0 }, { name := "LOG2_ARRAY_SHORT_INDEX_SCALE", type := .int, accessFlags := 25, slot := 5, constantValue := 0 }, { name := "LOG2_ARRAY_INT_INDEX_SCALE", type := .int, accessFlags := 25, slot := 6, constantValue := 0 }, { name := "LOG2_ARRAY_LONG_INDEX_SCALE", type := .int, accessFlags := 25, slot := 7, constantValue := 0 }, { name := "LOG2_ARRAY_FLOAT_INDEX_SCALE", type := .int, accessFlags := 25, slot := 8, constantValue := 0 }, { name := "LOG2_ARRAY_DOUBLE_INDEX_SCALE", type := .int, accessFlags := 25, slot := 9, constantValue := 0 }, { name := "LOG2_BYTE_BIT_SIZE", type := .int, accessFlags := 26, slot := 10, constantValue := 0 }, { name := "T_BOOLEAN", type := .int, accessFlags := 25, slot := 11, constantValue := 0 }, { name := "T_CHAR", type := .int, accessFlags := 25, slot := 12, constantValue := 0 }, { name := "T_FLOAT", type := .int, accessFlags := 25, slot := 13, constantValue := 0 }, { name := "T_DOUBLE", type := .int, accessFlags := 25, slot := 14, constantValue := 0 }, { name := "T_BYTE", type := .int, accessFlags := 25, slot := 15, constantValue := 0 }, { name := "T_SHORT", type := .int, accessFlags := 25, slot := 16, constantValue := 0 }, { name := "T_INT", type := .int, accessFlags := 25, slot := 17, constantValue := 0 }, { name := "T_LONG", type := .int, accessFlags := 25, slot := 18, constantValue := 0 }, { name := "JLA", type := (.object "jdk/internal/access/JavaLangAccess"), accessFlags := 26, slot := 19, constantValue := 0 }, { name := "SOFT_MAX_ARRAY_LENGTH", type := .int, accessFlags := 25, slot := 20, constantValue := 0 }]
  methods := #[k12m0]
  instanceTypes := #[]
  staticTypes := #[(.object "jdk/internal/misc/Unsafe"), .boolean, .int, .int, .int, .int, .int, .int, .int, .int, .int, .int, .int, .int, .int, .int, .int, .int, .int, (.object "jdk/internal/access/JavaLangAccess"), .int]
  resolved := Array.replicate 378 none
  statics := none }

def pool13 : Array CpInfo := pool [(1, u "java/lang/Cloneable"), (0, .class_ 1), (0, u "java/lang/Object"), (0, .class_ 3)] 3

/-- java/lang/Cloneable -/
def k13 : Class := { plain "java/lang/Cloneable" (some 0) with
  accessFlags := 1537
  interfaces := #[]
  cf := some (fileOf pool13 2 #[] #[] 1537 4 #[] #[])
  fields := #[]
  methods := #[]
  instanceTypes := #[]
  staticTypes := #[]
  resolved := Array.replicate 8 none
  statics := none }

/-- the primitive byte -/
def k14 : Class := { plain "byte" none with kind := .primitive 'B', accessFlags := 0x411 }
/-- [B -/
def k15 : Class := { plain "[B" (some 0) with kind := .array 14 .byte, interfaces := #[13, 3], accessFlags := 1041 }

/-- the primitive int -/
def k16 : Class := { plain "int" none with kind := .primitive 'I', accessFlags := 0x411 }
/-- [I -/
def k17 : Class := { plain "[I" (some 0) with kind := .array 16 .int, interfaces := #[13, 3], accessFlags := 1041 }

def heap : Heap := #[{ cls := 8, slots := #[.long 0, .int 1, .null, .int 0, .null, .int 0, .int 0], vm := .statics 8 },
  { cls := 11, slots := #[.null, .null, .null], vm := .statics 11 }]
def classes : Array Class := #[k0, k1, k2, k3, k4, k5, k6, k7, k8, k9, k10, k11, k12, k13, k14, k15, k16, k17]
def interned : List (Array UInt16 × Addr) := []
def slotsUsed : Nat := 10
def theMethod : MethodId := ⟨1, 2⟩
def args0 : Array Value := #[.int 65, .int 2]
def aboutOver (below : List Frame) : State where
  vm := { classes := classes, interned := interned.toArray }
  heap := heap
  slotsUsed := slotsUsed
  threads := #[{ frames := .invoking theMethod args0 :: below }]
def below0 : List Frame := [.native { method := ⟨0, 0⟩, args := #[] }]
def about1 : State := aboutOver below0
def p0 : Program := .bare "" "" ""
def e0 : Env := launch0.env 0 0 0
theorem w_frames : about1.frames = Frame.invoking theMethod args0 :: below0 := rfl
set_option maxRecDepth 65536 in
theorem w_args : argsFit about1.vm theMethod args0 = true := by decide +kernel
set_option maxRecDepth 65536 in
theorem w_heap : heapFits about1 = true := by decide +kernel
set_option maxRecDepth 65536 in
theorem w_runnable : about1.curStatus? = some .runnable := by decide +kernel
set_option maxRecDepth 65536 in
theorem w_alone : about1.alone = true := by decide +kernel
set_option maxRecDepth 65536 in
theorem w_named : about1.methodNamed? x = some theMethod := by decide +kernel
set_option maxRecDepth 65536 in
theorem w_hears : about1.hears theMethod below0 = true := by decide +kernel
set_option maxRecDepth 65536 in
theorem w_ripe : about1.ripe theMethod args0 below0 = true := by decide +kernel
theorem w_running : about1.status = .running := rfl
set_option maxRecDepth 65536 in
theorem w_room : about1.hasRoom e0.platform room_1 = true :=
  launch0.hasRoom_least _ room_1 (by decide +kernel) (by decide +kernel) (by decide +kernel) (by decide +kernel) (by decide +kernel) (by decide +kernel)
theorem allAtoms_all (ts : List Jvm.Cond) (a : Array Jvm.Value) (st : Jvm.State) : (allAtoms ts).before a st = ts.all (fun c => c.before a st) := by
  induction ts with
  | nil => rfl
  | cons c t ih =>
    show (Jvm.Cond.and c (allAtoms t)).before a st = _
    rw [Jvm.Cond.before_and, ih, List.all_cons]
def words1 : List Jvm.Cond := Jvm.Cond.code x code maxLocals ret :: tables_1
/-- a 'code' word, met by the world's own term for the bytes: nothing is compared byte by byte -/
theorem code_word {y : MethodName} {bytes : ByteArray} {mx : Nat} {rt : Option FieldType} {a : Array Value} {s : State} {m : MethodId} {meth : Method} {c : Code} (h1 : s.methodNamed? y = some m) (h2 : s.vm.method? m = some meth) (h3 : meth.code = some c) (h4 : c.code = bytes)
    (h5 : (c.maxLocals == mx && c.exceptionTable.isEmpty && decide (c.maxStack ≤ mostOperands) && decide (meth.sig.returnType = rt) && !meth.locks && decide (parseMethodDescriptor y.desc = some meth.sig)) = true) : (Jvm.Cond.code y bytes mx rt).before a s = true := by
  simp only [Bool.and_eq_true, beq_iff_eq, Bool.not_eq_true', decide_eq_true_eq] at h5
  obtain ⟨⟨⟨⟨⟨g1, g2⟩, g3⟩, g4⟩, g5⟩, g6⟩ := h5
  simp [Cond.before, Cond.holds, Cond.value, h1, h2, h3, h4, g1, g2, g3, g4, g5, g6]
def isCode : Jvm.Cond → Bool
  | .code _ _ _ _ => true
  | _ => false
theorem all_split {L : List Jvm.Cond} {P : Jvm.Cond → Bool} (h1 : L.all (fun c => isCode c || P c) = true) (h2 : ∀ c ∈ L.filter isCode, P c = true) : L.all P = true := by
  refine List.all_eq_true.mpr fun c hc => ?_
  have h := List.all_eq_true.mp h1 c hc
  rcases Bool.eq_false_or_eq_true (isCode c) with hi | hi
  · exact h2 c (List.mem_filter.mpr ⟨hc, hi⟩)
  · simpa [hi] using h
set_option maxRecDepth 65536 in
theorem w_c0 : (Jvm.Cond.code x code maxLocals ret).before args0 about1 = true := code_word (m := ⟨1, 2⟩) (meth := k1m2) (c := k1c2) (by decide +kernel) rfl rfl rfl (by decide +kernel)
set_option maxRecDepth 65536 in
theorem w_c1 : (Jvm.Cond.code ({ cls := "com/example/backchain/backchain/io/DlgpReader", name := "isIriCharacter", desc := "(I)Z" } : Jvm.MethodName) prog_8_method_9_code (1 : Nat) (Option.some Jvm.ClassFile.FieldType.boolean)).before args0 about1 = true := code_word (m := ⟨2, 1⟩) (meth := k2m1) (c := k2c1) (by decide +kernel) rfl rfl rfl (by decide +kernel)
set_option maxRecDepth 65536 in
theorem w_c2 : (Jvm.Cond.code ({ cls := "com/example/backchain/backchain/io/DlgpReaderIsIriCharacterPinLaw", name := "expected", desc := "(I)Z" } : Jvm.MethodName) method_2_code (1 : Nat) (Option.some Jvm.ClassFile.FieldType.boolean)).before args0 about1 = true := code_word (m := ⟨1, 1⟩) (meth := k1m1) (c := k1c1) (by decide +kernel) rfl rfl rfl (by decide +kernel)
set_option maxRecDepth 65536 in
theorem w_c3 : (Jvm.Cond.code ({ cls := "java/lang/String", name := "indexOf", desc := "(I)I" } : Jvm.MethodName) jdk_42_method_79_code (2 : Nat) (Option.some Jvm.ClassFile.FieldType.int)).before args0 about1 = true := code_word (m := ⟨8, 2⟩) (meth := k8m2) (c := k8c2) (by decide +kernel) rfl rfl rfl (by decide +kernel)
set_option maxRecDepth 65536 in
theorem w_c4 : (Jvm.Cond.code ({ cls := "java/lang/String", name := "indexOf", desc := "(II)I" } : Jvm.MethodName) jdk_42_method_80_code (3 : Nat) (Option.some Jvm.ClassFile.FieldType.int)).before args0 about1 = true := code_word (m := ⟨8, 3⟩) (meth := k8m3) (c := k8c3) (by decide +kernel) rfl rfl rfl (by decide +kernel)
set_option maxRecDepth 65536 in
theorem w_c5 : (Jvm.Cond.code ({ cls := "java/lang/String", name := "isLatin1", desc := "()Z" } : Jvm.MethodName) jdk_42_method_154_code (1 : Nat) (Option.some Jvm.ClassFile.FieldType.boolean)).before args0 about1 = true := code_word (m := ⟨8, 5⟩) (meth := k8m5) (c := k8c5) (by decide +kernel) rfl rfl rfl (by decide +kernel)
set_option maxRecDepth 65536 in
theorem w_c6 : (Jvm.Cond.code ({ cls := "java/lang/String", name := "length", desc := "()I" } : Jvm.MethodName) jdk_42_method_54_code (1 : Nat) (Option.some Jvm.ClassFile.FieldType.int)).before args0 about1 = true := code_word (m := ⟨8, 1⟩) (meth := k8m1) (c := k8c1) (by decide +kernel) rfl rfl rfl (by decide +kernel)
set_option maxRecDepth 65536 in
theorem w_c7 : (Jvm.Cond.code ({ cls := "java/lang/String", name := "coder", desc := "()B" } : Jvm.MethodName) jdk_42_method_152_code (1 : Nat) (Option.some Jvm.ClassFile.FieldType.byte)).before args0 about1 = true := code_word (m := ⟨8, 4⟩) (meth := k8m4) (c := k8c4) (by decide +kernel) rfl rfl rfl (by decide +kernel)
set_option maxRecDepth 65536 in
theorem w_c8 : (Jvm.Cond.code ({ cls := "java/lang/StringLatin1", name := "indexOf", desc := "([BIII)I" } : Jvm.MethodName) jdk_43_method_22_code (4 : Nat) (Option.some Jvm.ClassFile.FieldType.int)).before args0 about1 = true := code_word (m := ⟨9, 2⟩) (meth := k9m2) (c := k9c2) (by decide +kernel) rfl rfl rfl (by decide +kernel)
set_option maxRecDepth 65536 in
theorem w_c9 : (Jvm.Cond.code ({ cls := "java/lang/StringLatin1", name := "canEncode", desc := "(I)Z" } : Jvm.MethodName) jdk_43_method_4_code (1 : Nat) (Option.some Jvm.ClassFile.FieldType.boolean)).before args0 about1 = true := code_word (m := ⟨9, 1⟩) (meth := k9m1) (c := k9c1) (by decide +kernel) rfl rfl rfl (by decide +kernel)
set_option maxRecDepth 65536 in
theorem w_c10 : (Jvm.Cond.code ({ cls := "java/lang/Math", name := "max", desc := "(II)I" } : Jvm.MethodName) jdk_29_method_65_code (2 : Nat) (Option.some Jvm.ClassFile.FieldType.int)).before args0 about1 = true := code_word (m := ⟨10, 1⟩) (meth := k10m1) (c := k10c1) (by decide +kernel) rfl rfl rfl (by decide +kernel)
set_option maxRecDepth 65536 in
theorem w_c11 : (Jvm.Cond.code ({ cls := "java/lang/Math", name := "min", desc := "(II)I" } : Jvm.MethodName) jdk_29_method_69_code (2 : Nat) (Option.some Jvm.ClassFile.FieldType.int)).before args0 about1 = true := code_word (m := ⟨10, 2⟩) (meth := k10m2) (c := k10c2) (by decide +kernel) rfl rfl rfl (by decide +kernel)
set_option maxRecDepth 65536 in
theorem w_c12 : (Jvm.Cond.code ({ cls := "java/lang/StringLatin1", name := "indexOfChar", desc := "([BIII)I" } : Jvm.MethodName) jdk_43_method_23_code (6 : Nat) (Option.some Jvm.ClassFile.FieldType.int)).before args0 about1 = true := code_word (m := ⟨9, 3⟩) (meth := k9m3) (c := k9c3) (by decide +kernel) rfl rfl rfl (by decide +kernel)
def codes1 : List Jvm.Cond := [Jvm.Cond.code x code maxLocals ret, Jvm.Cond.code ({ cls := "com/example/backchain/backchain/io/DlgpReader", name := "isIriCharacter", desc := "(I)Z" } : Jvm.MethodName) prog_8_method_9_code (1 : Nat) (Option.some Jvm.ClassFile.FieldType.boolean), Jvm.Cond.code ({ cls := "com/example/backchain/backchain/io/DlgpReaderIsIriCharacterPinLaw", name := "expected", desc := "(I)Z" } : Jvm.MethodName) method_2_code (1 : Nat) (Option.some Jvm.ClassFile.FieldType.boolean), Jvm.Cond.code ({ cls := "java/lang/String", name := "indexOf", desc := "(I)I" } : Jvm.MethodName) jdk_42_method_79_code (2 : Nat) (Option.some Jvm.ClassFile.FieldType.int), Jvm.Cond.code ({ cls := "java/lang/String", name := "indexOf", desc := "(II)I" } : Jvm.MethodName) jdk_42_method_80_code (3 : Nat) (Option.some Jvm.ClassFile.FieldType.int), Jvm.Cond.code ({ cls := "java/lang/String", name := "isLatin1", desc := "()Z" } : Jvm.MethodName) jdk_42_method_154_code (1 : Nat) (Option.some Jvm.ClassFile.FieldType.boolean), Jvm.Cond.code ({ cls := "java/lang/String", name := "length", desc := "()I" } : Jvm.MethodName) jdk_42_method_54_code (1 : Nat) (Option.some Jvm.ClassFile.FieldType.int), Jvm.Cond.code ({ cls := "java/lang/String", name := "coder", desc := "()B" } : Jvm.MethodName) jdk_42_method_152_code (1 : Nat) (Option.some Jvm.ClassFile.FieldType.byte), Jvm.Cond.code ({ cls := "java/lang/StringLatin1", name := "indexOf", desc := "([BIII)I" } : Jvm.MethodName) jdk_43_method_22_code (4 : Nat) (Option.some Jvm.ClassFile.FieldType.int), Jvm.Cond.code ({ cls := "java/lang/StringLatin1", name := "canEncode", desc := "(I)Z" } : Jvm.MethodName) jdk_43_method_4_code (1 : Nat) (Option.some Jvm.ClassFile.FieldType.boolean), Jvm.Cond.code ({ cls := "java/lang/Math", name := "max", desc := "(II)I" } : Jvm.MethodName) jdk_29_method_65_code (2 : Nat) (Option.some Jvm.ClassFile.FieldType.int), Jvm.Cond.code ({ cls := "java/lang/Math", name := "min", desc := "(II)I" } : Jvm.MethodName) jdk_29_method_69_code (2 : Nat) (Option.some Jvm.ClassFile.FieldType.int), Jvm.Cond.code ({ cls := "java/lang/StringLatin1", name := "indexOfChar", desc := "([BIII)I" } : Jvm.MethodName) jdk_43_method_23_code (6 : Nat) (Option.some Jvm.ClassFile.FieldType.int)]
set_option maxRecDepth 65536 in
theorem codes_eq : words1.filter isCode = codes1 := rfl
theorem w_codes : ∀ c ∈ words1.filter isCode, c.before args0 about1 = true := by
  rw [codes_eq]
  intro c hc
  simp only [codes1, List.mem_cons, List.not_mem_nil, or_false] at hc
  rcases hc with rfl | rfl | rfl | rfl | rfl | rfl | rfl | rfl | rfl | rfl | rfl | rfl | rfl
  · exact w_c0
  · exact w_c1
  · exact w_c2
  · exact w_c3
  · exact w_c4
  · exact w_c5
  · exact w_c6
  · exact w_c7
  · exact w_c8
  · exact w_c9
  · exact w_c10
  · exact w_c11
  · exact w_c12
set_option maxRecDepth 65536 in
theorem w_t1 : (words1.take 24).all (fun c => isCode c || c.before args0 about1) = true := by decide +kernel
set_option maxRecDepth 65536 in
theorem w_t2 : ((words1.drop 24).take 24).all (fun c => isCode c || c.before args0 about1) = true := by decide +kernel
set_option maxRecDepth 65536 in
theorem w_t3 : ((words1.drop 24).drop 24).all (fun c => isCode c || c.before args0 about1) = true := by decide +kernel
theorem w_tables : (allAtoms (Jvm.Cond.code x code maxLocals ret :: tables_1)).before args0 about1 = true := by
  rw [allAtoms_all]
  show words1.all (fun c => c.before args0 about1) = true
  refine all_split ?_ w_codes
  rw [← List.take_append_drop 24 words1, List.all_append, w_t1, ← List.take_append_drop 24 (words1.drop 24), List.all_append, w_t2, w_t3]
  rfl
set_option maxRecDepth 65536 in
theorem w_rest : rest_1_c.before args0 about1 = true := by decide +kernel
set_option maxRecDepth 65536 in
theorem w_case : (Jvm.Cond.and given_1 narrow_1).before args0 about1 = true := by decide +kernel
set_option maxRecDepth 65536 in
theorem w_consts : constsHeld consts_1 about1 := Jvm.Lit.constsHeldB_iff.mp (by decide +kernel)
theorem w_applies : (headSpec (Jvm.Cond.code x code maxLocals ret :: tables_1) room_1).applies x e0.platform about1 = true :=
  (Spec.applies_iff w_frames).mpr ⟨w_running, w_runnable, w_alone, w_named, w_hears, w_ripe, w_room, w_tables⟩
theorem atStart : AtStart classFile x code maxLocals ret World_1 tables_1 room_1 Calls_1 rest_1 Pre_1 launch0 p0 e0 about1 theMethod args0 below0 :=
  ⟨lists_1, trivial, launch0.admits_env _ _ _, launch0.least_env, fairChoices_fair.cas, fairChoices_fair.clock, w_frames, w_args, w_heap, w_applies, ⟨w_consts, trivial⟩, w_rest, w_case⟩
end start1
theorem witness_1 : WitnessClaimed_1 := ⟨start1.p0, start1.e0, start1.about1, start1.theMethod, start1.args0, start1.below0, start1.atStart⟩
end Jvm.Pilot.@@N@@
