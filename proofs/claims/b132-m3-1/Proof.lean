import JvmDerived
import JvmDerived.Pilot.@@N@@Statement
import JvmDerived.Pilot.@@N@@Code
set_option linter.unusedVariables false
set_option linter.unusedSimpArgs false
namespace Jvm.Own
open Sem ClassFile Op Lib Jvm.Stand Jvm.Free Jvm.LawKit Jvm.RoadKit
/-- from the frame f over T the run ends in a return that Q speaks of -/
def Run (p : Program) (e : Env) (s : State) (below : List Frame) (Q : Option Value → Heap → List Loc → Prop) (cm sm : Nat) (T : State) (f : JFrame) : Prop :=
  ∃ s₂ o, Steps p.tables e below (T.setTop f) s₂ ∧ s₂.status = .running ∧ Ended s₂ below o ∧ ∃ v L, o = .returned v ∧ Q v s₂.heap L ∧ FrameEnd s o s₂ L cm sm
section Own
variable {p : Program} {l : Launch} {e : Env} {R : Room} {s : State} {m : MethodId} {args : Array Value} {below : List Frame} {meth : Method} {c : Code} {T : State} {locs : List Loc} {cells slots : Nat} {Q : Option Value → Heap → List Loc → Prop} {cm sm : Nat}
theorem go {T' : State} {f f' : JFrame} (st : ∀ target, Steps p.tables e below (T'.setTop f') target → Steps p.tables e below (T.setTop f) target) (k : Run p e s below Q cm sm T' f') : Run p e s below Q cm sm T f := by
  obtain ⟨s₂, o, h, r⟩ := k
  exact ⟨s₂, o, st _ h, r⟩
theorem retZ (X : Stand p l e R s m args below meth c T locs cells slots) (hx : p.tables.exec = Jvm.exec) {pc : Nat} {Ls : Array Slot} {z : Int32} {t : FieldType} {rest : List Value} (hret : meth.sig.returnType = some t) (ht : t = .boolean ∨ t = .byte ∨ t = .char ∨ t = .short)
    (hd : decode c.code pc = .ok (.ireturn, 1)) (hlk : meth.locks = false) (hc : cells ≤ cm) (hs : slots ≤ sm) (hq : Q (some (.int (nar t z))) T.heap locs) : Run p e s below Q cm sm T (mkF m pc Ls (.int z :: rest)) := by
  obtain ⟨fs, hr, hrun, hended, hW, hsame⟩ := X.leave (v := some (.int (nar t z))) (fun h => by rw [hret] at h; cases h) hlk
  exact ⟨_, _, retN X hx hret ht hd hr, hrun, hended, _, _, rfl, hq, ⟨_, rfl⟩, hW, hsame.mono hc hs⟩
theorem retW (X : Stand p l e R s m args below meth c T locs cells slots) (hx : p.tables.exec = Jvm.exec) {pc : Nat} {Ls : Array Slot} {w : Value} {t : FieldType} {i : Instr} {rest : List Value} (hret : meth.sig.returnType = some t) (hn : narrow t w = w)
    (hi : (i = .ireturn ∧ (t = .int ∨ t = .boolean ∨ t = .byte ∨ t = .char ∨ t = .short) ∧ ∃ z, w = .int z) ∨ (i = .lreturn ∧ t = .long ∧ ∃ z, w = .long z) ∨ (i = .dreturn ∧ t = .double ∧ ∃ z, w = .double z) ∨ (i = .freturn ∧ t = .float ∧ ∃ z, w = .float z) ∨ (i = .areturn ∧ t.isReference = true ∧ w.isRef = true))
    (hd : decode c.code pc = .ok (i, 1)) (hlk : meth.locks = false) (hc : cells ≤ cm) (hs : slots ≤ sm) (hq : Q (some w) T.heap locs) : Run p e s below Q cm sm T (mkF m pc Ls (w :: rest)) := by
  obtain ⟨fs, hr, hrun, hended, hW, hsame⟩ := X.leave (v := some w) (fun h => by rw [hret] at h; cases h) hlk
  exact ⟨_, _, retOut X hx hret hn hi hd hr, hrun, hended, _, _, rfl, hq, ⟨_, rfl⟩, hW, hsame.mono hc hs⟩
theorem retV (X : Stand p l e R s m args below meth c T locs cells slots) (hx : p.tables.exec = Jvm.exec) {pc : Nat} {Ls : Array Slot} (hret : meth.sig.returnType = none)
    (hd : decode c.code pc = .ok (.return_, 1)) (hlk : meth.locks = false) (hc : cells ≤ cm) (hs : slots ≤ sm) (hq : Q none T.heap locs) : Run p e s below Q cm sm T (mkF m pc Ls []) := by
  obtain ⟨fs, hr, hrun, hended, hW, hsame⟩ := X.leave (v := none) (fun _ => rfl) hlk
  exact ⟨_, _, X.returnOut hx hret hd hr, hrun, hended, _, _, rfl, hq, ⟨_, rfl⟩, hW, hsame.mono hc hs⟩
end Own
section Heap
variable {Z : State} {h h' h0 : Heap} {a b : Addr} {ty : FieldType} {vs : List Value} {ws ws' : List Addr} {v : Value} {k : ClassId} {z j : Int32}
/-- an array and all that it holds -/
def Ary (Z : State) (h : Heap) (a : Addr) (ty : FieldType) (vs : List Value) : Prop := ∃ c : Cell, Arr Z h a c ty ∧ c.slots.toList = vs ∧ vs.length < 2147483648 ∧ ∀ v ∈ vs, fits ty v = true
theorem Ary.lt (A : Ary Z h a ty vs) : a < h.size := by obtain ⟨c, A, -⟩ := A; exact A.lt
theorem Ary.ext (A : Ary Z h a ty vs) (E : Ext h h') : Ary Z h' a ty vs := by obtain ⟨c, A, r⟩ := A; exact ⟨c, A.ext E, r⟩
theorem Ary.keep (A : Ary Z h a ty vs) (K : Keep h h' ws) (q : a ∉ ws) : Ary Z h' a ty vs := by obtain ⟨c, A, r⟩ := A; exact ⟨c, ⟨K.2.1 a c A.1 q, A.2⟩, r⟩
theorem Ary.set (A : Ary Z h a ty vs) {i : Nat} (W : Wr h h' a i v) (hv : fits ty v = true) : Ary Z h' a ty (vs.set i v) := by
  obtain ⟨c, A, e, l, f⟩ := A
  refine ⟨_, A.same W, by simp [Cell.setSlot, e], by simpa using l, fun w hw => ?_⟩
  rcases List.mem_or_eq_of_mem_set hw with q | rfl
  · exact f w q
  · exact hv
theorem Ary.ld (A : Ary Z h a ty vs) (hj : ¬ j < 0) (hv : vs[j.toNatClampNeg]? = some v) : ∃ c : Cell, Arr Z h a c ty ∧ ¬ (j < 0 ∨ c.slots.size ≤ j.toNatClampNeg) ∧ c.slots[j.toNatClampNeg]? = some v := by
  obtain ⟨c, A, e, l, f⟩ := A
  have q : c.slots[j.toNatClampNeg]? = some v := by rw [← Array.getElem?_toList, e]; exact hv
  exact ⟨c, A, fun r => r.elim hj fun y => absurd (Array.getElem?_eq_some_iff.mp q).1 (Nat.not_lt.mpr y), q⟩
theorem Ary.st (A : Ary Z h a ty vs) (hj : ¬ j < 0) (hl : j.toNatClampNeg < vs.length) : ∃ c : Cell, Arr Z h a c ty ∧ ¬ (j < 0 ∨ c.slots.size ≤ j.toNatClampNeg) := by
  obtain ⟨c, A, e, l, f⟩ := A
  refine ⟨c, A, fun r => r.elim hj fun y => ?_⟩
  rw [← e, Array.length_toList] at hl
  omega
theorem Ary.len (A : Ary Z h a ty vs) : ∃ c : Cell, Arr Z h a c ty ∧ c.slots.size.toInt32 = vs.length.toInt32 := by
  obtain ⟨c, A, e, l, f⟩ := A
  exact ⟨c, A, by rw [← e, Array.length_toList]⟩
theorem Ary.new (A : Arr Z h a (newA k ty z) ty) : Ary Z h a ty (List.replicate z.toNatClampNeg (defaultValue ty)) := by
  refine ⟨_, A, by simp [newA], ?_, fun v hv => ?_⟩
  · rw [List.length_replicate]
    have := Int32.toInt_lt z
    simp only [Int32.toNatClampNeg]
    omega
  · rw [List.eq_of_mem_replicate hv]
    cases ty <;> rfl
theorem Ary.fit (A : Ary Z h a ty vs) : ∃ c : Cell, Arr Z h a c ty ∧ FitC Z c ∧ c.slots.toList = vs ∧ c.slots.size = vs.length ∧ (Arr Z h' b (cloneOf c) ty → Ary Z h' b ty vs) := by
  obtain ⟨c, A, e, l, f⟩ := A
  refine ⟨c, A, fitC_of A fun i hi v hv => ?_, e, by rw [← e, Array.length_toList], fun B => ⟨_, B, e, l, f⟩⟩
  refine f v ?_
  rw [← e]
  exact List.mem_of_getElem? (by rw [Array.getElem?_toList]; exact hv)
theorem ldI {p : Program} {l : Launch} {e : Env} {R : Room} {s : State} {m : MethodId} {args : Array Value} {below : List Frame} {meth : Method} {c : Code} {T : State} {locs : List Loc} {cells slots : Nat} (X : Stand p l e R s m args below meth c T locs cells slots) (hx : p.tables.exec = Jvm.exec) (hZ : Z.Warmed39 s.vm) (eT : T.heap = h) (A : Ary Z h a .int vs) (hj : ¬ j < 0) (hv : vs[j.toNatClampNeg]? = some v) {g : JFrame} (hg : g.method = m) {rest : List Value} (hs : g.stack = .int j :: .ref a :: rest) (hd : decode c.code g.pc = .ok (.iaload, 1)) (target : State)
    (hr : Steps p.tables e below (T.setTop { g with pc := g.pc + 1, stack := v :: rest }) target) : Steps p.tables e below (T.setTop g) target := by
  obtain ⟨cl, Ar, hin, hat⟩ := A.ld hj hv
  exact X.iaload hx (by rw [eT]; exact Ar.1) (State.isArrayOf_alike hZ.alike Ar.2.1) Ar.2.2 hin hat hg hs hd target hr
theorem ldJ {p : Program} {l : Launch} {e : Env} {R : Room} {s : State} {m : MethodId} {args : Array Value} {below : List Frame} {meth : Method} {c : Code} {T : State} {locs : List Loc} {cells slots : Nat} (X : Stand p l e R s m args below meth c T locs cells slots) (hx : p.tables.exec = Jvm.exec) (hZ : Z.Warmed39 s.vm) (eT : T.heap = h) (A : Ary Z h a .long vs) (hj : ¬ j < 0) (hv : vs[j.toNatClampNeg]? = some v) {g : JFrame} (hg : g.method = m) {rest : List Value} (hs : g.stack = .int j :: .ref a :: rest) (hd : decode c.code g.pc = .ok (.laload, 1)) (target : State)
    (hr : Steps p.tables e below (T.setTop { g with pc := g.pc + 1, stack := v :: rest }) target) : Steps p.tables e below (T.setTop g) target := by
  obtain ⟨cl, Ar, hin, hat⟩ := A.ld hj hv
  exact X.laload hx (by rw [eT]; exact Ar.1) (State.isArrayOf_alike hZ.alike Ar.2.1) Ar.2.2 hin hat hg hs hd target hr
theorem ldC {p : Program} {l : Launch} {e : Env} {R : Room} {s : State} {m : MethodId} {args : Array Value} {below : List Frame} {meth : Method} {c : Code} {T : State} {locs : List Loc} {cells slots : Nat} (X : Stand p l e R s m args below meth c T locs cells slots) (hx : p.tables.exec = Jvm.exec) (hZ : Z.Warmed39 s.vm) (eT : T.heap = h) (A : Ary Z h a .char vs) (hj : ¬ j < 0) (hv : vs[j.toNatClampNeg]? = some v) {g : JFrame} (hg : g.method = m) {rest : List Value} (hs : g.stack = .int j :: .ref a :: rest) (hd : decode c.code g.pc = .ok (.caload, 1)) (target : State)
    (hr : Steps p.tables e below (T.setTop { g with pc := g.pc + 1, stack := v :: rest }) target) : Steps p.tables e below (T.setTop g) target := by
  obtain ⟨cl, Ar, hin, hat⟩ := A.ld hj hv
  exact X.caload hx (by rw [eT]; exact Ar.1) (State.isArrayOf_alike hZ.alike Ar.2.1) Ar.2.2 hin hat hg hs hd target hr
theorem ldB {p : Program} {l : Launch} {e : Env} {R : Room} {s : State} {m : MethodId} {args : Array Value} {below : List Frame} {meth : Method} {c : Code} {T : State} {locs : List Loc} {cells slots : Nat} (X : Stand p l e R s m args below meth c T locs cells slots) (hx : p.tables.exec = Jvm.exec) (hZ : Z.Warmed39 s.vm) (eT : T.heap = h) (A : Ary Z h a .byte vs) (hj : ¬ j < 0) (hv : vs[j.toNatClampNeg]? = some v) {g : JFrame} (hg : g.method = m) {rest : List Value} (hs : g.stack = .int j :: .ref a :: rest) (hd : decode c.code g.pc = .ok (.baload, 1)) (target : State)
    (hr : Steps p.tables e below (T.setTop { g with pc := g.pc + 1, stack := v :: rest }) target) : Steps p.tables e below (T.setTop g) target := by
  obtain ⟨cl, Ar, hin, hat⟩ := A.ld hj hv
  exact X.baloadBytes hx (by rw [eT]; exact Ar.1) (State.isArrayOf_alike hZ.alike Ar.2.1) Ar.2.2 hin hat hg hs hd target hr
theorem ldZ {p : Program} {l : Launch} {e : Env} {R : Room} {s : State} {m : MethodId} {args : Array Value} {below : List Frame} {meth : Method} {c : Code} {T : State} {locs : List Loc} {cells slots : Nat} (X : Stand p l e R s m args below meth c T locs cells slots) (hx : p.tables.exec = Jvm.exec) (hZ : Z.Warmed39 s.vm) (eT : T.heap = h) (A : Ary Z h a .boolean vs) (hj : ¬ j < 0) (hv : vs[j.toNatClampNeg]? = some v) {g : JFrame} (hg : g.method = m) {rest : List Value} (hs : g.stack = .int j :: .ref a :: rest) (hd : decode c.code g.pc = .ok (.baload, 1)) (target : State)
    (hr : Steps p.tables e below (T.setTop { g with pc := g.pc + 1, stack := v :: rest }) target) : Steps p.tables e below (T.setTop g) target := by
  obtain ⟨cl, Ar, hin, hat⟩ := A.ld hj hv
  exact X.baloadBooleans hx (by rw [eT]; exact Ar.1) (State.isArrayOf_alike hZ.alike Ar.2.1) Ar.2.2 hin hat hg hs hd target hr
theorem ldR {p : Program} {l : Launch} {e : Env} {R : Room} {s : State} {m : MethodId} {args : Array Value} {below : List Frame} {meth : Method} {c : Code} {T : State} {locs : List Loc} {cells slots : Nat} (X : Stand p l e R s m args below meth c T locs cells slots) (hx : p.tables.exec = Jvm.exec) (hZ : Z.Warmed39 s.vm) (eT : T.heap = h) (A : Ary Z h a ty vs) (ht : ty.isReference = true) (hj : ¬ j < 0) (hv : vs[j.toNatClampNeg]? = some v) {g : JFrame} (hg : g.method = m) {rest : List Value} (hs : g.stack = .int j :: .ref a :: rest) (hd : decode c.code g.pc = .ok (.aaload, 1)) (target : State)
    (hr : Steps p.tables e below (T.setTop { g with pc := g.pc + 1, stack := v :: rest }) target) : Steps p.tables e below (T.setTop g) target := by
  obtain ⟨cl, Ar, hin, hat⟩ := A.ld hj hv
  exact X.aaload hx (by rw [eT]; exact Ar.1) (State.isArrayOf_alike hZ.alike Ar.2.1) ht Ar.2.2 hin hat hg hs hd target hr
theorem alen {p : Program} {l : Launch} {e : Env} {R : Room} {s : State} {m : MethodId} {args : Array Value} {below : List Frame} {meth : Method} {c : Code} {T : State} {locs : List Loc} {cells slots : Nat} (X : Stand p l e R s m args below meth c T locs cells slots) (hx : p.tables.exec = Jvm.exec) (hZ : Z.Warmed39 s.vm) (eT : T.heap = h) (A : Ary Z h a ty vs) (hn : vs.length.toInt32 = z) {g : JFrame} (hg : g.method = m) {rest : List Value} (hs : g.stack = .ref a :: rest) (hd : decode c.code g.pc = .ok (.arraylength, 1)) (target : State)
    (hr : Steps p.tables e below (T.setTop { g with pc := g.pc + 1, stack := .int z :: rest }) target) : Steps p.tables e below (T.setTop g) target := by
  obtain ⟨cl, Ar, ln⟩ := A.len
  exact X.arraylength hx (by rw [eT]; exact Ar.1) (State.isArrayOf_alike hZ.alike Ar.2.1) hg hs hd target (by rw [ln.trans hn]; exact hr)
theorem getI {xs : List Int32} {i : Nat} (q : i < xs.length) : (xs.map Value.int)[i]? = some (.int (xs.getD i 0)) := by
  simp [List.getElem?_map, List.getD_eq_getElem?_getD, List.getElem?_eq_getElem q]
theorem setI {xs : List Int32} {i : Nat} {x : Int32} : (xs.map Value.int).set i (.int x) = (xs.set i x).map Value.int := List.map_set.symm
/-- an array made over the class C -/
def OvA (Z : State) (h : Heap) (a : Addr) (C : String) : Prop := ∃ c : Cell, h[a]? = some c ∧ Ovr Z c.cls C
theorem OvA.keep {C : String} (O : OvA Z h a C) (K : Keep h h' ws) : OvA Z h' a C := by
  obtain ⟨c, e, o⟩ := O
  obtain ⟨c', q, r1, -, -⟩ := K.2.2 a c e
  exact ⟨c', q, r1 ▸ o⟩
theorem stA {C : String} {y : Addr} (O : OvA Z h a C) (A : Ary Z h a ty vs) (I : Ins Z h y C true) : Sto Z h a (.ref y) := by
  obtain ⟨c, A, -⟩ := A
  obtain ⟨c', e, o⟩ := O
  cases A.1.symm.trans e
  exact Sto.of A o I
theorem eqi_v {args : Array Value} {first s : State} {o : Option Outcome} {idx : List Nat} {t : Term} {k : Int32} (q : (Cond.eq t (.int k)).value args first o s idx = some true) : t.eval args first o idx s = some (.int k) := by
  simp only [Cond.value, Term.eval] at q
  cases ht : t.eval args first o idx s with
  | none => simp [ht] at q
  | some x => cases x <;> simp [ht] at q ⊢; exact q
theorem nin1 {x y : Addr} (q : x ≠ y) : x ∉ [y] := ninS q nin0
end Heap
end Jvm.Own
namespace Jvm.Pilot.@@N@@
open Jvm Jvm.ClassFile Sem Op Lib Jvm.Free Jvm.Stand Jvm.LawKit Jvm.RoadKit Jvm.Own Bundle Jvm.Pilot.@@N@@.Jvm.D
def own_sz (p0 : Int32) (q1 : Int64) (p2 : Int32) : Int64 := (if p2 = (0 : Int32) then ((((12 : Int64) * ((p0).toInt64)) + (4 : Int64)) + ((12 : Int64) * q1)) else ((((28 : Int64) * ((p0).toInt64)) + (4 : Int64)) + ((12 : Int64) * q1)))
theorem d1_0 : decode prog_30_method_2_code 0 = .ok (.iload_n 3, 1) := by decide +kernel
theorem d1_1 : decode prog_30_method_2_code 1 = .ok (.ifCond .eq 9, 3) := by decide +kernel
theorem d1_10 : decode prog_30_method_2_code 10 = .ok (.ldc2_w 53, 3) := by decide +kernel
theorem d1_4 : decode prog_30_method_2_code 4 = .ok (.ldc2_w 51, 3) := by decide +kernel
theorem d1_7 : decode prog_30_method_2_code 7 = .ok (.goto 6, 3) := by decide +kernel
theorem d1_13 : decode prog_30_method_2_code 13 = .ok (.lstore 4, 2) := by decide +kernel
theorem d1_15 : decode prog_30_method_2_code 15 = .ok (.lload 4, 2) := by decide +kernel
theorem d1_17 : decode prog_30_method_2_code 17 = .ok (.iload_n 0, 1) := by decide +kernel
theorem d1_18 : decode prog_30_method_2_code 18 = .ok (.i2l, 1) := by decide +kernel
theorem d1_19 : decode prog_30_method_2_code 19 = .ok (.lmul, 1) := by decide +kernel
theorem d1_20 : decode prog_30_method_2_code 20 = .ok (.ldc2_w 55, 3) := by decide +kernel
theorem d1_23 : decode prog_30_method_2_code 23 = .ok (.ladd, 1) := by decide +kernel
theorem d1_24 : decode prog_30_method_2_code 24 = .ok (.ldc2_w 53, 3) := by decide +kernel
theorem d1_27 : decode prog_30_method_2_code 27 = .ok (.lload_n 1, 1) := by decide +kernel
theorem d1_28 : decode prog_30_method_2_code 28 = .ok (.lmul, 1) := by decide +kernel
theorem d1_29 : decode prog_30_method_2_code 29 = .ok (.ladd, 1) := by decide +kernel
theorem d1_30 : decode prog_30_method_2_code 30 = .ok (.lreturn, 1) := by decide +kernel
theorem pn_1 : plainName "com/example/wayshard/wayshard/model/RoadGraph" = true := by first | (simp [plainName, overriddenIn]; done) | decide +kernel
theorem ef_1 (m : MethodId) (x0 : Int32) (x1 : Int64) (x2 : Int32) : entryFrame m #[(.int x0), (.long x1), (.int x2)] 6 = mkF m 0 #[.val (.int x0), .val (.long x1), .second, .val (.int x2), .unset, .unset] [] := by first | (simp [entryFrame, mkF, argsToLocals, Value.category]; done) | rfl
def Q1 (Z : State) (p0 : Int32) (q1 : Int64) (p2 : Int32) (h0 : Heap) (n0 : Nat) (v : Option Value) (h : Heap) (L : List Loc) : Prop := v = some (.long (own_sz p0 q1 p2)) ∧ Fr n0 L ∧ h = h0
set_option maxRecDepth 65536 in
set_option maxHeartbeats 40000000 in
theorem rm1 (l : Launch) (Z : State) (a0 : Array Value) (hw : ∀ d ∈ tables_1, d.before a0 Z = true) (ws : List Jvm.Cond) (p0 : Int32) (q1 : Int64) (p2 : Int32) (h0 : Heap) (n0 : Nat) (Z0 : n0 ≤ h0.size) :
    MetFree l (⟨"com/example/wayshard/wayshard/model/RoadGraph", "sizeInBytes", "(IJZ)J"⟩ : MethodName) (head1 (Jvm.Cond.code (⟨"com/example/wayshard/wayshard/model/RoadGraph", "sizeInBytes", "(IJZ)J"⟩ : MethodName) prog_30_method_2_code 6 (some .long) :: ws) ({ frames := 0, cells := 0, slots := 0, locals := 0 } : Room)) (fun a U => a = #[(.int p0), (.long q1), (.int p2)] ∧ Z.Warmed39 U.vm ∧ U.heap = h0) (fun _ _ _ _ _ => True) (fun _ U o U' => ∃ v L, o = .returned v ∧ Q1 Z p0 q1 p2 h0 n0 v U'.heap L ∧ FrameEnd U o U' L ({ frames := 0, cells := 0, slots := 0, locals := 0 } : Room).cells ({ frames := 0, cells := 0, slots := 0, locals := 0 } : Room).slots) := by
  refine MetFree.of_bodySF (plainFor_of_name pn_1) hisR ?_
  intro p e s m args below meth c s₁ Bd hml0 hP hK
  obtain ⟨rfl, hZ, hh⟩ := hP
  have hx := Bd.exec
  have hby := Bd.bytes
  have hml : c.maxLocals = 6 := hml0
  have hown : s.vm.findClass "com/example/wayshard/wayshard/model/RoadGraph" = some m.cls := findClass_of_methodNamed Bd.named
  have hnm := (name_of_methodNamed Bd.named Bd.method).1
  have hlk : meth.locks = false := BodyLoose.notSynchronized Bd
  have X0 : Stand p l e ({ frames := 0, cells := 0, slots := 0, locals := 0 } : Room) s m #[(.int p0), (.long q1), (.int p2)] below meth c s₁ [] 0 0 := Stand.of_body Bd
  have e0 : s₁.heap = h0 := by rw [← hh, Bd.state]; rfl
  have N0 := Fr.nil n0
  show Run p e s below (Q1 Z p0 q1 p2 h0 n0) ({ frames := 0, cells := 0, slots := 0, locals := 0 } : Room).cells ({ frames := 0, cells := 0, slots := 0, locals := 0 } : Room).slots s₁ (entryFrame m #[(.int p0), (.long q1), (.int p2)] 6)
  rw [ef_1]
  show Run _ _ _ _ _ _ _ s₁ (mkF m 0 #[.val (.int p0), .val (.long q1), .second, .val (.int p2), .unset, .unset] [])
  refine go (T' := s₁) (f' := (mkF m 1 #[.val (.int p0), .val (.long q1), .second, .val (.int p2), .unset, .unset] [(.int p2)])) (by intro t k; exact XS.iloadN X0.here hx rfl (hb hby d1_0) rfl k) ?_
  show Run _ _ _ _ _ _ _ s₁ (mkF m 1 #[.val (.int p0), .val (.long q1), .second, .val (.int p2), .unset, .unset] [(.int p2)])
  obtain ⟨z1, hz1⟩ : ∃ z : Int64, z = (if p2 = (0 : Int32) then (12 : Int64) else (28 : Int64)) := ⟨_, rfl⟩
  have J1 : Run p e s below (Q1 Z p0 q1 p2 h0 n0) ({ frames := 0, cells := 0, slots := 0, locals := 0 } : Room).cells ({ frames := 0, cells := 0, slots := 0, locals := 0 } : Room).slots s₁ (mkF m 13 #[.val (.int p0), .val (.long q1), .second, .val (.int p2), .unset, .unset] [(.long z1)]) := by
    show Run _ _ _ _ _ _ _ s₁ (mkF m 13 #[.val (.int p0), .val (.long q1), .second, .val (.int p2), .unset, .unset] [(.long z1)])
    refine go (T' := s₁) (f' := (mkF m 15 #[.val (.int p0), .val (.long q1), .second, .val (.int p2), .val (.long z1), .second] [])) (by intro t k; exact XS.lstore X0.here hx rfl (hb hby d1_13) rfl (l' := #[.val (.int p0), .val (.long q1), .second, .val (.int p2), .val (.long z1), .second]) rfl k) ?_
    show Run _ _ _ _ _ _ _ s₁ (mkF m 15 #[.val (.int p0), .val (.long q1), .second, .val (.int p2), .val (.long z1), .second] [])
    refine go (T' := s₁) (f' := (mkF m 17 #[.val (.int p0), .val (.long q1), .second, .val (.int p2), .val (.long z1), .second] [(.long z1)])) (by intro t k; exact XS.lload X0.here hx rfl (hb hby d1_15) rfl k) ?_
    show Run _ _ _ _ _ _ _ s₁ (mkF m 17 #[.val (.int p0), .val (.long q1), .second, .val (.int p2), .val (.long z1), .second] [(.long z1)])
    refine go (T' := s₁) (f' := (mkF m 18 #[.val (.int p0), .val (.long q1), .second, .val (.int p2), .val (.long z1), .second] [(.int p0), (.long z1)])) (by intro t k; exact XS.iloadN X0.here hx rfl (hb hby d1_17) rfl k) ?_
    show Run _ _ _ _ _ _ _ s₁ (mkF m 18 #[.val (.int p0), .val (.long q1), .second, .val (.int p2), .val (.long z1), .second] [(.int p0), (.long z1)])
    refine go (T' := s₁) (f' := (mkF m 19 #[.val (.int p0), .val (.long q1), .second, .val (.int p2), .val (.long z1), .second] [(.long ((p0).toInt64)), (.long z1)])) (by intro t k; exact XS.i2l X0.here hx rfl (hb hby d1_18) rfl k) ?_
    show Run _ _ _ _ _ _ _ s₁ (mkF m 19 #[.val (.int p0), .val (.long q1), .second, .val (.int p2), .val (.long z1), .second] [(.long ((p0).toInt64)), (.long z1)])
    refine go (T' := s₁) (f' := (mkF m 20 #[.val (.int p0), .val (.long q1), .second, .val (.int p2), .val (.long z1), .second] [(.long (z1 * ((p0).toInt64)))])) (by intro t k; exact XS.lmul X0.here hx rfl (hb hby d1_19) rfl k) ?_
    show Run _ _ _ _ _ _ _ s₁ (mkF m 20 #[.val (.int p0), .val (.long q1), .second, .val (.int p2), .val (.long z1), .second] [(.long (z1 * ((p0).toInt64)))])
    refine go (T' := s₁) (f' := (mkF m 23 #[.val (.int p0), .val (.long q1), .second, .val (.int p2), .val (.long z1), .second] [(.long (4 : Int64)), (.long (z1 * ((p0).toInt64)))])) (by intro t k; exact X0.ldc2Long hx hown (mvT hZ (hw _ (List.mem_of_getElem? (i := 7) rfl))) (g := (mkF m 20 #[.val (.int p0), .val (.long q1), .second, .val (.int p2), .val (.long z1), .second] [(.long (z1 * ((p0).toInt64)))])) rfl (hb hby d1_20) _ k) ?_
    show Run _ _ _ _ _ _ _ s₁ (mkF m 23 #[.val (.int p0), .val (.long q1), .second, .val (.int p2), .val (.long z1), .second] [(.long (4 : Int64)), (.long (z1 * ((p0).toInt64)))])
    refine go (T' := s₁) (f' := (mkF m 24 #[.val (.int p0), .val (.long q1), .second, .val (.int p2), .val (.long z1), .second] [(.long ((z1 * ((p0).toInt64)) + (4 : Int64)))])) (by intro t k; exact XS.ladd X0.here hx rfl (hb hby d1_23) rfl k) ?_
    show Run _ _ _ _ _ _ _ s₁ (mkF m 24 #[.val (.int p0), .val (.long q1), .second, .val (.int p2), .val (.long z1), .second] [(.long ((z1 * ((p0).toInt64)) + (4 : Int64)))])
    refine go (T' := s₁) (f' := (mkF m 27 #[.val (.int p0), .val (.long q1), .second, .val (.int p2), .val (.long z1), .second] [(.long (12 : Int64)), (.long ((z1 * ((p0).toInt64)) + (4 : Int64)))])) (by intro t k; exact X0.ldc2Long hx hown (mvT hZ (hw _ (List.mem_of_getElem? (i := 8) rfl))) (g := (mkF m 24 #[.val (.int p0), .val (.long q1), .second, .val (.int p2), .val (.long z1), .second] [(.long ((z1 * ((p0).toInt64)) + (4 : Int64)))])) rfl (hb hby d1_24) _ k) ?_
    show Run _ _ _ _ _ _ _ s₁ (mkF m 27 #[.val (.int p0), .val (.long q1), .second, .val (.int p2), .val (.long z1), .second] [(.long (12 : Int64)), (.long ((z1 * ((p0).toInt64)) + (4 : Int64)))])
    refine go (T' := s₁) (f' := (mkF m 28 #[.val (.int p0), .val (.long q1), .second, .val (.int p2), .val (.long z1), .second] [(.long q1), (.long (12 : Int64)), (.long ((z1 * ((p0).toInt64)) + (4 : Int64)))])) (by intro t k; exact XS.lloadN X0.here hx rfl (hb hby d1_27) rfl k) ?_
    show Run _ _ _ _ _ _ _ s₁ (mkF m 28 #[.val (.int p0), .val (.long q1), .second, .val (.int p2), .val (.long z1), .second] [(.long q1), (.long (12 : Int64)), (.long ((z1 * ((p0).toInt64)) + (4 : Int64)))])
    refine go (T' := s₁) (f' := (mkF m 29 #[.val (.int p0), .val (.long q1), .second, .val (.int p2), .val (.long z1), .second] [(.long ((12 : Int64) * q1)), (.long ((z1 * ((p0).toInt64)) + (4 : Int64)))])) (by intro t k; exact XS.lmul X0.here hx rfl (hb hby d1_28) rfl k) ?_
    show Run _ _ _ _ _ _ _ s₁ (mkF m 29 #[.val (.int p0), .val (.long q1), .second, .val (.int p2), .val (.long z1), .second] [(.long ((12 : Int64) * q1)), (.long ((z1 * ((p0).toInt64)) + (4 : Int64)))])
    refine go (T' := s₁) (f' := (mkF m 30 #[.val (.int p0), .val (.long q1), .second, .val (.int p2), .val (.long z1), .second] [(.long (((z1 * ((p0).toInt64)) + (4 : Int64)) + ((12 : Int64) * q1)))])) (by intro t k; exact XS.ladd X0.here hx rfl (hb hby d1_29) rfl k) ?_
    show Run _ _ _ _ _ _ _ s₁ (mkF m 30 #[.val (.int p0), .val (.long q1), .second, .val (.int p2), .val (.long z1), .second] [(.long (((z1 * ((p0).toInt64)) + (4 : Int64)) + ((12 : Int64) * q1)))])
    refine retW X0 hx (t := .long) Bd.returns rfl (Or.inr (Or.inl ⟨rfl, rfl, _, rfl⟩)) (hb hby d1_30) hlk (by decide) (by decide) ?_
    show Q1 Z p0 q1 p2 h0 n0 _ s₁.heap _
    rw [e0]
    have hv' : (((z1 * ((p0).toInt64)) + (4 : Int64)) + ((12 : Int64) * q1)) = (own_sz p0 q1 p2) := by
      subst_vars
      unfold own_sz
      first | rfl | ((repeat' split) <;> first | rfl | contradiction) | simp [nar, *]
    have hv : (some (.long (((z1 * ((p0).toInt64)) + (4 : Int64)) + ((12 : Int64) * q1))) : Option Value) = some (.long (own_sz p0 q1 p2)) := by rw [hv']
    exact ⟨hv, N0, rfl⟩
  show Run _ _ _ _ _ _ _ s₁ (mkF m 1 #[.val (.int p0), .val (.long q1), .second, .val (.int p2), .unset, .unset] [(.int p2)])
  by_cases hc1 : p2 = (0 : Int32)
  · refine go (T' := s₁) (f' := (mkF m 10 #[.val (.int p0), .val (.long q1), .second, .val (.int p2), .unset, .unset] [])) (by intro t k; exact XS.ifYes X0.here hx rfl (pc0 := 1) (pc' := 10) rfl (hb hby d1_1) rfl ((if0 _ _).trans (teq hc1).1) (by decide) (by decide) k) ?_
    show Run _ _ _ _ _ _ _ s₁ (mkF m 10 #[.val (.int p0), .val (.long q1), .second, .val (.int p2), .unset, .unset] [])
    refine go (T' := s₁) (f' := (mkF m 13 #[.val (.int p0), .val (.long q1), .second, .val (.int p2), .unset, .unset] [(.long (12 : Int64))])) (by intro t k; exact X0.ldc2Long hx hown (mvT hZ (hw _ (List.mem_of_getElem? (i := 8) rfl))) (g := (mkF m 10 #[.val (.int p0), .val (.long q1), .second, .val (.int p2), .unset, .unset] [])) rfl (hb hby d1_10) _ k) ?_
    have ez1 : z1 = (12 : Int64) := (hz1).trans (if_pos hc1)
    subst ez1
    exact J1
  · refine go (T' := s₁) (f' := (mkF m 4 #[.val (.int p0), .val (.long q1), .second, .val (.int p2), .unset, .unset] [])) (by intro t k; exact XS.ifNo X0.here hx rfl (hb hby d1_1) rfl ((if0 _ _).trans (feq hc1).1) k) ?_
    show Run _ _ _ _ _ _ _ s₁ (mkF m 4 #[.val (.int p0), .val (.long q1), .second, .val (.int p2), .unset, .unset] [])
    refine go (T' := s₁) (f' := (mkF m 7 #[.val (.int p0), .val (.long q1), .second, .val (.int p2), .unset, .unset] [(.long (28 : Int64))])) (by intro t k; exact X0.ldc2Long hx hown (mvT hZ (hw _ (List.mem_of_getElem? (i := 6) rfl))) (g := (mkF m 4 #[.val (.int p0), .val (.long q1), .second, .val (.int p2), .unset, .unset] [])) rfl (hb hby d1_4) _ k) ?_
    show Run _ _ _ _ _ _ _ s₁ (mkF m 7 #[.val (.int p0), .val (.long q1), .second, .val (.int p2), .unset, .unset] [(.long (28 : Int64))])
    refine go (T' := s₁) (f' := (mkF m 13 #[.val (.int p0), .val (.long q1), .second, .val (.int p2), .unset, .unset] [(.long (28 : Int64))])) (by intro t k; exact XS.goto X0.here hx rfl (pc0 := 7) (pc' := 13) rfl (hb hby d1_7) (by decide) (by decide) k) ?_
    have ez1 : z1 = (28 : Int64) := (hz1).trans (if_neg hc1)
    subst ez1
    exact J1
theorem own_l1 (v a : Int64) : (12 : Int64) * v + 4 + 12 * a = 8 * v + 4 * (v + 1) + 4 * a + 8 * a + 0 + 0 := by
  have e1 : (12 : Int64) = 8 + 4 := by decide
  have e2 : (12 : Int64) * a = 4 * a + 8 * a := by rw [show (12 : Int64) = 4 + 8 by decide, Int64.add_mul]
  have e3 : (12 : Int64) * v = 8 * v + 4 * v := by rw [show (12 : Int64) = 8 + 4 by decide, Int64.add_mul]
  rw [e2, e3, Int64.mul_add, Int64.mul_one, Int64.add_zero, Int64.add_zero]
  ac_rfl
theorem own_l2 (v a : Int64) : (28 : Int64) * v + 4 + 12 * a = 8 * v + 4 * (v + 1) + 4 * a + 8 * a + 8 * v + 8 * v := by
  have e2 : (12 : Int64) * a = 4 * a + 8 * a := by rw [show (12 : Int64) = 4 + 8 by decide, Int64.add_mul]
  have e3 : (28 : Int64) * v = 8 * v + 4 * v + 8 * v + 8 * v := by rw [show (28 : Int64) = 8 + 4 + 8 + 8 by decide, Int64.add_mul, Int64.add_mul, Int64.add_mul]
  rw [e2, e3, Int64.mul_add, Int64.mul_one]
  ac_rfl
theorem pd_28IJZ29J : parseMethodDescriptor "(IJZ)J" = some ⟨[.int, .long, .boolean], some .long⟩ := by decide +kernel
theorem pn_0 : plainName "com/example/wayshard/wayshard/model/RoadGraphSizeInBytesPinLaw" = true := by first | (simp [plainName, overriddenIn]; done) | decide +kernel
theorem ef_0 (m : MethodId) (x0 : Int32) (x1 : Int64) (x2 : Int32) : entryFrame m #[(.int x0), (.long x1), (.int x2)] maxLocals = mkF m 0 #[.val (.int x0), .val (.long x1), .second, .val (.int x2), .unset, .unset, .unset, .unset, .unset, .unset, .unset, .unset, .unset, .unset, .unset, .unset, .unset, .unset, .unset, .unset, .unset] [] := by first | (simp [entryFrame, mkF, argsToLocals, Value.category, maxLocals]; done) | rfl
def Q0 (Z : State) (p0 : Int32) (q1 : Int64) (p2 : Int32) (h0 : Heap) (n0 : Nat) (v : Option Value) (h : Heap) (L : List Loc) : Prop := v = some (.int (1 : Int32)) ∧ Fr n0 L
set_option maxRecDepth 65536 in
set_option maxHeartbeats 40000000 in
theorem rm0 (l : Launch) (Z : State) (a0 : Array Value) (hw : ∀ d ∈ tables_1, d.before a0 Z = true) (ws : List Jvm.Cond) (p0 : Int32) (q1 : Int64) (p2 : Int32) (h0 : Heap) (n0 : Nat) (Z0 : n0 ≤ h0.size) :
    MetFree l x (head1 (Jvm.Cond.code x code maxLocals ret :: ws) room_1) (fun a U => a = #[(.int p0), (.long q1), (.int p2)] ∧ Z.Warmed39 U.vm ∧ U.heap = h0) (fun _ _ _ _ _ => True) (fun _ U o U' => ∃ v L, o = .returned v ∧ Q0 Z p0 q1 p2 h0 n0 v U'.heap L ∧ FrameEnd U o U' L room_1.cells room_1.slots) := by
  refine MetFree.of_bodySF (plainFor_of_name pn_0) hisR ?_
  intro p e s m args below meth c s₁ Bd hml0 hP hK
  obtain ⟨rfl, hZ, hh⟩ := hP
  have hx := Bd.exec
  have hby := Bd.bytes
  have hml : c.maxLocals = 21 := hml0
  have hown : s.vm.findClass "com/example/wayshard/wayshard/model/RoadGraphSizeInBytesPinLaw" = some m.cls := findClass_of_methodNamed Bd.named
  have hnm := (name_of_methodNamed Bd.named Bd.method).1
  have hlk : meth.locks = false := BodyLoose.notSynchronized Bd
  have X0 : Stand p l e room_1 s m #[(.int p0), (.long q1), (.int p2)] below meth c s₁ [] 0 0 := Stand.of_body Bd
  have e0 : s₁.heap = h0 := by rw [← hh, Bd.state]; rfl
  have N0 := Fr.nil n0
  show Run p e s below (Q0 Z p0 q1 p2 h0 n0) room_1.cells room_1.slots s₁ (entryFrame m #[(.int p0), (.long q1), (.int p2)] maxLocals)
  rw [ef_0]
  show Run _ _ _ _ _ _ _ s₁ (mkF m 0 #[.val (.int p0), .val (.long q1), .second, .val (.int p2), .unset, .unset, .unset, .unset, .unset, .unset, .unset, .unset, .unset, .unset, .unset, .unset, .unset, .unset, .unset, .unset, .unset] [])
  refine go (T' := s₁) (f' := (mkF m 1 #[.val (.int p0), .val (.long q1), .second, .val (.int p2), .unset, .unset, .unset, .unset, .unset, .unset, .unset, .unset, .unset, .unset, .unset, .unset, .unset, .unset, .unset, .unset, .unset] [(.int p2)])) (by intro t k; exact XS.iloadN X0.here hx rfl (hb hby at_0) rfl k) ?_
  show Run _ _ _ _ _ _ _ s₁ (mkF m 1 #[.val (.int p0), .val (.long q1), .second, .val (.int p2), .unset, .unset, .unset, .unset, .unset, .unset, .unset, .unset, .unset, .unset, .unset, .unset, .unset, .unset, .unset, .unset, .unset] [(.int p2)])
  refine go (T' := s₁) (f' := (mkF m 2 #[.val (.int p0), .val (.long q1), .second, .val (.int p2), .unset, .unset, .unset, .unset, .unset, .unset, .unset, .unset, .unset, .unset, .unset, .unset, .unset, .unset, .unset, .unset, .unset] [(.int (1 : Int32)), (.int p2)])) (by intro t k; exact XS.iconst X0.here hx rfl (hb hby at_1) k) ?_
  show Run _ _ _ _ _ _ _ s₁ (mkF m 2 #[.val (.int p0), .val (.long q1), .second, .val (.int p2), .unset, .unset, .unset, .unset, .unset, .unset, .unset, .unset, .unset, .unset, .unset, .unset, .unset, .unset, .unset, .unset, .unset] [(.int (1 : Int32)), (.int p2)])
  refine go (T' := s₁) (f' := (mkF m 3 #[.val (.int p0), .val (.long q1), .second, .val (.int p2), .unset, .unset, .unset, .unset, .unset, .unset, .unset, .unset, .unset, .unset, .unset, .unset, .unset, .unset, .unset, .unset, .unset] [(.int (p2 &&& (1 : Int32)))])) (by intro t k; exact XS.iand X0.here hx rfl (hb hby at_2) rfl k) ?_
  show Run _ _ _ _ _ _ _ s₁ (mkF m 3 #[.val (.int p0), .val (.long q1), .second, .val (.int p2), .unset, .unset, .unset, .unset, .unset, .unset, .unset, .unset, .unset, .unset, .unset, .unset, .unset, .unset, .unset, .unset, .unset] [(.int (p2 &&& (1 : Int32)))])
  obtain ⟨z1, hz1⟩ : ∃ z : Int32, z = (if (p2 &&& (1 : Int32)) = (0 : Int32) then (0 : Int32) else (1 : Int32)) := ⟨_, rfl⟩
  have J3 : Run p e s below (Q0 Z p0 q1 p2 h0 n0) room_1.cells room_1.slots s₁ (mkF m 11 #[.val (.int p0), .val (.long q1), .second, .val (.int p2), .unset, .unset, .unset, .unset, .unset, .unset, .unset, .unset, .unset, .unset, .unset, .unset, .unset, .unset, .unset, .unset, .unset] [(.int z1)]) := by
    show Run _ _ _ _ _ _ _ s₁ (mkF m 11 #[.val (.int p0), .val (.long q1), .second, .val (.int p2), .unset, .unset, .unset, .unset, .unset, .unset, .unset, .unset, .unset, .unset, .unset, .unset, .unset, .unset, .unset, .unset, .unset] [(.int z1)])
    refine go (T' := s₁) (f' := (mkF m 13 #[.val (.int p0), .val (.long q1), .second, .val (.int p2), .val (.int z1), .unset, .unset, .unset, .unset, .unset, .unset, .unset, .unset, .unset, .unset, .unset, .unset, .unset, .unset, .unset, .unset] [])) (by intro t k; exact XS.istore X0.here hx rfl (hb hby at_11) rfl (l' := #[.val (.int p0), .val (.long q1), .second, .val (.int p2), .val (.int z1), .unset, .unset, .unset, .unset, .unset, .unset, .unset, .unset, .unset, .unset, .unset, .unset, .unset, .unset, .unset, .unset]) rfl k) ?_
    show Run _ _ _ _ _ _ _ s₁ (mkF m 13 #[.val (.int p0), .val (.long q1), .second, .val (.int p2), .val (.int z1), .unset, .unset, .unset, .unset, .unset, .unset, .unset, .unset, .unset, .unset, .unset, .unset, .unset, .unset, .unset, .unset] [])
    refine go (T' := s₁) (f' := (mkF m 14 #[.val (.int p0), .val (.long q1), .second, .val (.int p2), .val (.int z1), .unset, .unset, .unset, .unset, .unset, .unset, .unset, .unset, .unset, .unset, .unset, .unset, .unset, .unset, .unset, .unset] [(.int p0)])) (by intro t k; exact XS.iloadN X0.here hx rfl (hb hby at_13) rfl k) ?_
    show Run _ _ _ _ _ _ _ s₁ (mkF m 14 #[.val (.int p0), .val (.long q1), .second, .val (.int p2), .val (.int z1), .unset, .unset, .unset, .unset, .unset, .unset, .unset, .unset, .unset, .unset, .unset, .unset, .unset, .unset, .unset, .unset] [(.int p0)])
    refine go (T' := s₁) (f' := (mkF m 15 #[.val (.int p0), .val (.long q1), .second, .val (.int p2), .val (.int z1), .unset, .unset, .unset, .unset, .unset, .unset, .unset, .unset, .unset, .unset, .unset, .unset, .unset, .unset, .unset, .unset] [(.long ((p0).toInt64))])) (by intro t k; exact XS.i2l X0.here hx rfl (hb hby at_14) rfl k) ?_
    show Run _ _ _ _ _ _ _ s₁ (mkF m 15 #[.val (.int p0), .val (.long q1), .second, .val (.int p2), .val (.int z1), .unset, .unset, .unset, .unset, .unset, .unset, .unset, .unset, .unset, .unset, .unset, .unset, .unset, .unset, .unset, .unset] [(.long ((p0).toInt64))])
    refine go (T' := s₁) (f' := (mkF m 17 #[.val (.int p0), .val (.long q1), .second, .val (.int p2), .val (.int z1), .val (.long ((p0).toInt64)), .second, .unset, .unset, .unset, .unset, .unset, .unset, .unset, .unset, .unset, .unset, .unset, .unset, .unset, .unset] [])) (by intro t k; exact XS.lstore X0.here hx rfl (hb hby at_15) rfl (l' := #[.val (.int p0), .val (.long q1), .second, .val (.int p2), .val (.int z1), .val (.long ((p0).toInt64)), .second, .unset, .unset, .unset, .unset, .unset, .unset, .unset, .unset, .unset, .unset, .unset, .unset, .unset, .unset]) rfl k) ?_
    show Run _ _ _ _ _ _ _ s₁ (mkF m 17 #[.val (.int p0), .val (.long q1), .second, .val (.int p2), .val (.int z1), .val (.long ((p0).toInt64)), .second, .unset, .unset, .unset, .unset, .unset, .unset, .unset, .unset, .unset, .unset, .unset, .unset, .unset, .unset] [])
    refine go (T' := s₁) (f' := (mkF m 20 #[.val (.int p0), .val (.long q1), .second, .val (.int p2), .val (.int z1), .val (.long ((p0).toInt64)), .second, .unset, .unset, .unset, .unset, .unset, .unset, .unset, .unset, .unset, .unset, .unset, .unset, .unset, .unset] [(.long (8 : Int64))])) (by intro t k; exact X0.ldc2Long hx hown (mvT hZ (hw _ (List.mem_of_getElem? (i := 0) rfl))) (g := (mkF m 17 #[.val (.int p0), .val (.long q1), .second, .val (.int p2), .val (.int z1), .val (.long ((p0).toInt64)), .second, .unset, .unset, .unset, .unset, .unset, .unset, .unset, .unset, .unset, .unset, .unset, .unset, .unset, .unset] [])) rfl (hb hby at_17) _ k) ?_
    show Run _ _ _ _ _ _ _ s₁ (mkF m 20 #[.val (.int p0), .val (.long q1), .second, .val (.int p2), .val (.int z1), .val (.long ((p0).toInt64)), .second, .unset, .unset, .unset, .unset, .unset, .unset, .unset, .unset, .unset, .unset, .unset, .unset, .unset, .unset] [(.long (8 : Int64))])
    refine go (T' := s₁) (f' := (mkF m 22 #[.val (.int p0), .val (.long q1), .second, .val (.int p2), .val (.int z1), .val (.long ((p0).toInt64)), .second, .unset, .unset, .unset, .unset, .unset, .unset, .unset, .unset, .unset, .unset, .unset, .unset, .unset, .unset] [(.long ((p0).toInt64)), (.long (8 : Int64))])) (by intro t k; exact XS.lload X0.here hx rfl (hb hby at_20) rfl k) ?_
    show Run _ _ _ _ _ _ _ s₁ (mkF m 22 #[.val (.int p0), .val (.long q1), .second, .val (.int p2), .val (.int z1), .val (.long ((p0).toInt64)), .second, .unset, .unset, .unset, .unset, .unset, .unset, .unset, .unset, .unset, .unset, .unset, .unset, .unset, .unset] [(.long ((p0).toInt64)), (.long (8 : Int64))])
    refine go (T' := s₁) (f' := (mkF m 23 #[.val (.int p0), .val (.long q1), .second, .val (.int p2), .val (.int z1), .val (.long ((p0).toInt64)), .second, .unset, .unset, .unset, .unset, .unset, .unset, .unset, .unset, .unset, .unset, .unset, .unset, .unset, .unset] [(.long ((8 : Int64) * ((p0).toInt64)))])) (by intro t k; exact XS.lmul X0.here hx rfl (hb hby at_22) rfl k) ?_
    show Run _ _ _ _ _ _ _ s₁ (mkF m 23 #[.val (.int p0), .val (.long q1), .second, .val (.int p2), .val (.int z1), .val (.long ((p0).toInt64)), .second, .unset, .unset, .unset, .unset, .unset, .unset, .unset, .unset, .unset, .unset, .unset, .unset, .unset, .unset] [(.long ((8 : Int64) * ((p0).toInt64)))])
    refine go (T' := s₁) (f' := (mkF m 25 #[.val (.int p0), .val (.long q1), .second, .val (.int p2), .val (.int z1), .val (.long ((p0).toInt64)), .second, .val (.long ((8 : Int64) * ((p0).toInt64))), .second, .unset, .unset, .unset, .unset, .unset, .unset, .unset, .unset, .unset, .unset, .unset, .unset] [])) (by intro t k; exact XS.lstore X0.here hx rfl (hb hby at_23) rfl (l' := #[.val (.int p0), .val (.long q1), .second, .val (.int p2), .val (.int z1), .val (.long ((p0).toInt64)), .second, .val (.long ((8 : Int64) * ((p0).toInt64))), .second, .unset, .unset, .unset, .unset, .unset, .unset, .unset, .unset, .unset, .unset, .unset, .unset]) rfl k) ?_
    show Run _ _ _ _ _ _ _ s₁ (mkF m 25 #[.val (.int p0), .val (.long q1), .second, .val (.int p2), .val (.int z1), .val (.long ((p0).toInt64)), .second, .val (.long ((8 : Int64) * ((p0).toInt64))), .second, .unset, .unset, .unset, .unset, .unset, .unset, .unset, .unset, .unset, .unset, .unset, .unset] [])
    refine go (T' := s₁) (f' := (mkF m 28 #[.val (.int p0), .val (.long q1), .second, .val (.int p2), .val (.int z1), .val (.long ((p0).toInt64)), .second, .val (.long ((8 : Int64) * ((p0).toInt64))), .second, .unset, .unset, .unset, .unset, .unset, .unset, .unset, .unset, .unset, .unset, .unset, .unset] [(.long (4 : Int64))])) (by intro t k; exact X0.ldc2Long hx hown (mvT hZ (hw _ (List.mem_of_getElem? (i := 1) rfl))) (g := (mkF m 25 #[.val (.int p0), .val (.long q1), .second, .val (.int p2), .val (.int z1), .val (.long ((p0).toInt64)), .second, .val (.long ((8 : Int64) * ((p0).toInt64))), .second, .unset, .unset, .unset, .unset, .unset, .unset, .unset, .unset, .unset, .unset, .unset, .unset] [])) rfl (hb hby at_25) _ k) ?_
    show Run _ _ _ _ _ _ _ s₁ (mkF m 28 #[.val (.int p0), .val (.long q1), .second, .val (.int p2), .val (.int z1), .val (.long ((p0).toInt64)), .second, .val (.long ((8 : Int64) * ((p0).toInt64))), .second, .unset, .unset, .unset, .unset, .unset, .unset, .unset, .unset, .unset, .unset, .unset, .unset] [(.long (4 : Int64))])
    refine go (T' := s₁) (f' := (mkF m 30 #[.val (.int p0), .val (.long q1), .second, .val (.int p2), .val (.int z1), .val (.long ((p0).toInt64)), .second, .val (.long ((8 : Int64) * ((p0).toInt64))), .second, .unset, .unset, .unset, .unset, .unset, .unset, .unset, .unset, .unset, .unset, .unset, .unset] [(.long ((p0).toInt64)), (.long (4 : Int64))])) (by intro t k; exact XS.lload X0.here hx rfl (hb hby at_28) rfl k) ?_
    show Run _ _ _ _ _ _ _ s₁ (mkF m 30 #[.val (.int p0), .val (.long q1), .second, .val (.int p2), .val (.int z1), .val (.long ((p0).toInt64)), .second, .val (.long ((8 : Int64) * ((p0).toInt64))), .second, .unset, .unset, .unset, .unset, .unset, .unset, .unset, .unset, .unset, .unset, .unset, .unset] [(.long ((p0).toInt64)), (.long (4 : Int64))])
    refine go (T' := s₁) (f' := (mkF m 31 #[.val (.int p0), .val (.long q1), .second, .val (.int p2), .val (.int z1), .val (.long ((p0).toInt64)), .second, .val (.long ((8 : Int64) * ((p0).toInt64))), .second, .unset, .unset, .unset, .unset, .unset, .unset, .unset, .unset, .unset, .unset, .unset, .unset] [(.long (1 : Int64)), (.long ((p0).toInt64)), (.long (4 : Int64))])) (by intro t k; exact XS.lconst X0.here hx rfl (hb hby at_30) k) ?_
    show Run _ _ _ _ _ _ _ s₁ (mkF m 31 #[.val (.int p0), .val (.long q1), .second, .val (.int p2), .val (.int z1), .val (.long ((p0).toInt64)), .second, .val (.long ((8 : Int64) * ((p0).toInt64))), .second, .unset, .unset, .unset, .unset, .unset, .unset, .unset, .unset, .unset, .unset, .unset, .unset] [(.long (1 : Int64)), (.long ((p0).toInt64)), (.long (4 : Int64))])
    refine go (T' := s₁) (f' := (mkF m 32 #[.val (.int p0), .val (.long q1), .second, .val (.int p2), .val (.int z1), .val (.long ((p0).toInt64)), .second, .val (.long ((8 : Int64) * ((p0).toInt64))), .second, .unset, .unset, .unset, .unset, .unset, .unset, .unset, .unset, .unset, .unset, .unset, .unset] [(.long (((p0).toInt64) + (1 : Int64))), (.long (4 : Int64))])) (by intro t k; exact XS.ladd X0.here hx rfl (hb hby at_31) rfl k) ?_
    show Run _ _ _ _ _ _ _ s₁ (mkF m 32 #[.val (.int p0), .val (.long q1), .second, .val (.int p2), .val (.int z1), .val (.long ((p0).toInt64)), .second, .val (.long ((8 : Int64) * ((p0).toInt64))), .second, .unset, .unset, .unset, .unset, .unset, .unset, .unset, .unset, .unset, .unset, .unset, .unset] [(.long (((p0).toInt64) + (1 : Int64))), (.long (4 : Int64))])
    refine go (T' := s₁) (f' := (mkF m 33 #[.val (.int p0), .val (.long q1), .second, .val (.int p2), .val (.int z1), .val (.long ((p0).toInt64)), .second, .val (.long ((8 : Int64) * ((p0).toInt64))), .second, .unset, .unset, .unset, .unset, .unset, .unset, .unset, .unset, .unset, .unset, .unset, .unset] [(.long ((4 : Int64) * (((p0).toInt64) + (1 : Int64))))])) (by intro t k; exact XS.lmul X0.here hx rfl (hb hby at_32) rfl k) ?_
    show Run _ _ _ _ _ _ _ s₁ (mkF m 33 #[.val (.int p0), .val (.long q1), .second, .val (.int p2), .val (.int z1), .val (.long ((p0).toInt64)), .second, .val (.long ((8 : Int64) * ((p0).toInt64))), .second, .unset, .unset, .unset, .unset, .unset, .unset, .unset, .unset, .unset, .unset, .unset, .unset] [(.long ((4 : Int64) * (((p0).toInt64) + (1 : Int64))))])
    refine go (T' := s₁) (f' := (mkF m 35 #[.val (.int p0), .val (.long q1), .second, .val (.int p2), .val (.int z1), .val (.long ((p0).toInt64)), .second, .val (.long ((8 : Int64) * ((p0).toInt64))), .second, .val (.long ((4 : Int64) * (((p0).toInt64) + (1 : Int64)))), .second, .unset, .unset, .unset, .unset, .unset, .unset, .unset, .unset, .unset, .unset] [])) (by intro t k; exact XS.lstore X0.here hx rfl (hb hby at_33) rfl (l' := #[.val (.int p0), .val (.long q1), .second, .val (.int p2), .val (.int z1), .val (.long ((p0).toInt64)), .second, .val (.long ((8 : Int64) * ((p0).toInt64))), .second, .val (.long ((4 : Int64) * (((p0).toInt64) + (1 : Int64)))), .second, .unset, .unset, .unset, .unset, .unset, .unset, .unset, .unset, .unset, .unset]) rfl k) ?_
    show Run _ _ _ _ _ _ _ s₁ (mkF m 35 #[.val (.int p0), .val (.long q1), .second, .val (.int p2), .val (.int z1), .val (.long ((p0).toInt64)), .second, .val (.long ((8 : Int64) * ((p0).toInt64))), .second, .val (.long ((4 : Int64) * (((p0).toInt64) + (1 : Int64)))), .second, .unset, .unset, .unset, .unset, .unset, .unset, .unset, .unset, .unset, .unset] [])
    refine go (T' := s₁) (f' := (mkF m 38 #[.val (.int p0), .val (.long q1), .second, .val (.int p2), .val (.int z1), .val (.long ((p0).toInt64)), .second, .val (.long ((8 : Int64) * ((p0).toInt64))), .second, .val (.long ((4 : Int64) * (((p0).toInt64) + (1 : Int64)))), .second, .unset, .unset, .unset, .unset, .unset, .unset, .unset, .unset, .unset, .unset] [(.long (4 : Int64))])) (by intro t k; exact X0.ldc2Long hx hown (mvT hZ (hw _ (List.mem_of_getElem? (i := 1) rfl))) (g := (mkF m 35 #[.val (.int p0), .val (.long q1), .second, .val (.int p2), .val (.int z1), .val (.long ((p0).toInt64)), .second, .val (.long ((8 : Int64) * ((p0).toInt64))), .second, .val (.long ((4 : Int64) * (((p0).toInt64) + (1 : Int64)))), .second, .unset, .unset, .unset, .unset, .unset, .unset, .unset, .unset, .unset, .unset] [])) rfl (hb hby at_35) _ k) ?_
    show Run _ _ _ _ _ _ _ s₁ (mkF m 38 #[.val (.int p0), .val (.long q1), .second, .val (.int p2), .val (.int z1), .val (.long ((p0).toInt64)), .second, .val (.long ((8 : Int64) * ((p0).toInt64))), .second, .val (.long ((4 : Int64) * (((p0).toInt64) + (1 : Int64)))), .second, .unset, .unset, .unset, .unset, .unset, .unset, .unset, .unset, .unset, .unset] [(.long (4 : Int64))])
    refine go (T' := s₁) (f' := (mkF m 39 #[.val (.int p0), .val (.long q1), .second, .val (.int p2), .val (.int z1), .val (.long ((p0).toInt64)), .second, .val (.long ((8 : Int64) * ((p0).toInt64))), .second, .val (.long ((4 : Int64) * (((p0).toInt64) + (1 : Int64)))), .second, .unset, .unset, .unset, .unset, .unset, .unset, .unset, .unset, .unset, .unset] [(.long q1), (.long (4 : Int64))])) (by intro t k; exact XS.lloadN X0.here hx rfl (hb hby at_38) rfl k) ?_
    show Run _ _ _ _ _ _ _ s₁ (mkF m 39 #[.val (.int p0), .val (.long q1), .second, .val (.int p2), .val (.int z1), .val (.long ((p0).toInt64)), .second, .val (.long ((8 : Int64) * ((p0).toInt64))), .second, .val (.long ((4 : Int64) * (((p0).toInt64) + (1 : Int64)))), .second, .unset, .unset, .unset, .unset, .unset, .unset, .unset, .unset, .unset, .unset] [(.long q1), (.long (4 : Int64))])
    refine go (T' := s₁) (f' := (mkF m 40 #[.val (.int p0), .val (.long q1), .second, .val (.int p2), .val (.int z1), .val (.long ((p0).toInt64)), .second, .val (.long ((8 : Int64) * ((p0).toInt64))), .second, .val (.long ((4 : Int64) * (((p0).toInt64) + (1 : Int64)))), .second, .unset, .unset, .unset, .unset, .unset, .unset, .unset, .unset, .unset, .unset] [(.long ((4 : Int64) * q1))])) (by intro t k; exact XS.lmul X0.here hx rfl (hb hby at_39) rfl k) ?_
    show Run _ _ _ _ _ _ _ s₁ (mkF m 40 #[.val (.int p0), .val (.long q1), .second, .val (.int p2), .val (.int z1), .val (.long ((p0).toInt64)), .second, .val (.long ((8 : Int64) * ((p0).toInt64))), .second, .val (.long ((4 : Int64) * (((p0).toInt64) + (1 : Int64)))), .second, .unset, .unset, .unset, .unset, .unset, .unset, .unset, .unset, .unset, .unset] [(.long ((4 : Int64) * q1))])
    refine go (T' := s₁) (f' := (mkF m 42 #[.val (.int p0), .val (.long q1), .second, .val (.int p2), .val (.int z1), .val (.long ((p0).toInt64)), .second, .val (.long ((8 : Int64) * ((p0).toInt64))), .second, .val (.long ((4 : Int64) * (((p0).toInt64) + (1 : Int64)))), .second, .val (.long ((4 : Int64) * q1)), .second, .unset, .unset, .unset, .unset, .unset, .unset, .unset, .unset] [])) (by intro t k; exact XS.lstore X0.here hx rfl (hb hby at_40) rfl (l' := #[.val (.int p0), .val (.long q1), .second, .val (.int p2), .val (.int z1), .val (.long ((p0).toInt64)), .second, .val (.long ((8 : Int64) * ((p0).toInt64))), .second, .val (.long ((4 : Int64) * (((p0).toInt64) + (1 : Int64)))), .second, .val (.long ((4 : Int64) * q1)), .second, .unset, .unset, .unset, .unset, .unset, .unset, .unset, .unset]) rfl k) ?_
    show Run _ _ _ _ _ _ _ s₁ (mkF m 42 #[.val (.int p0), .val (.long q1), .second, .val (.int p2), .val (.int z1), .val (.long ((p0).toInt64)), .second, .val (.long ((8 : Int64) * ((p0).toInt64))), .second, .val (.long ((4 : Int64) * (((p0).toInt64) + (1 : Int64)))), .second, .val (.long ((4 : Int64) * q1)), .second, .unset, .unset, .unset, .unset, .unset, .unset, .unset, .unset] [])
    refine go (T' := s₁) (f' := (mkF m 45 #[.val (.int p0), .val (.long q1), .second, .val (.int p2), .val (.int z1), .val (.long ((p0).toInt64)), .second, .val (.long ((8 : Int64) * ((p0).toInt64))), .second, .val (.long ((4 : Int64) * (((p0).toInt64) + (1 : Int64)))), .second, .val (.long ((4 : Int64) * q1)), .second, .unset, .unset, .unset, .unset, .unset, .unset, .unset, .unset] [(.long (8 : Int64))])) (by intro t k; exact X0.ldc2Long hx hown (mvT hZ (hw _ (List.mem_of_getElem? (i := 0) rfl))) (g := (mkF m 42 #[.val (.int p0), .val (.long q1), .second, .val (.int p2), .val (.int z1), .val (.long ((p0).toInt64)), .second, .val (.long ((8 : Int64) * ((p0).toInt64))), .second, .val (.long ((4 : Int64) * (((p0).toInt64) + (1 : Int64)))), .second, .val (.long ((4 : Int64) * q1)), .second, .unset, .unset, .unset, .unset, .unset, .unset, .unset, .unset] [])) rfl (hb hby at_42) _ k) ?_
    show Run _ _ _ _ _ _ _ s₁ (mkF m 45 #[.val (.int p0), .val (.long q1), .second, .val (.int p2), .val (.int z1), .val (.long ((p0).toInt64)), .second, .val (.long ((8 : Int64) * ((p0).toInt64))), .second, .val (.long ((4 : Int64) * (((p0).toInt64) + (1 : Int64)))), .second, .val (.long ((4 : Int64) * q1)), .second, .unset, .unset, .unset, .unset, .unset, .unset, .unset, .unset] [(.long (8 : Int64))])
    refine go (T' := s₁) (f' := (mkF m 46 #[.val (.int p0), .val (.long q1), .second, .val (.int p2), .val (.int z1), .val (.long ((p0).toInt64)), .second, .val (.long ((8 : Int64) * ((p0).toInt64))), .second, .val (.long ((4 : Int64) * (((p0).toInt64) + (1 : Int64)))), .second, .val (.long ((4 : Int64) * q1)), .second, .unset, .unset, .unset, .unset, .unset, .unset, .unset, .unset] [(.long q1), (.long (8 : Int64))])) (by intro t k; exact XS.lloadN X0.here hx rfl (hb hby at_45) rfl k) ?_
    show Run _ _ _ _ _ _ _ s₁ (mkF m 46 #[.val (.int p0), .val (.long q1), .second, .val (.int p2), .val (.int z1), .val (.long ((p0).toInt64)), .second, .val (.long ((8 : Int64) * ((p0).toInt64))), .second, .val (.long ((4 : Int64) * (((p0).toInt64) + (1 : Int64)))), .second, .val (.long ((4 : Int64) * q1)), .second, .unset, .unset, .unset, .unset, .unset, .unset, .unset, .unset] [(.long q1), (.long (8 : Int64))])
    refine go (T' := s₁) (f' := (mkF m 47 #[.val (.int p0), .val (.long q1), .second, .val (.int p2), .val (.int z1), .val (.long ((p0).toInt64)), .second, .val (.long ((8 : Int64) * ((p0).toInt64))), .second, .val (.long ((4 : Int64) * (((p0).toInt64) + (1 : Int64)))), .second, .val (.long ((4 : Int64) * q1)), .second, .unset, .unset, .unset, .unset, .unset, .unset, .unset, .unset] [(.long ((8 : Int64) * q1))])) (by intro t k; exact XS.lmul X0.here hx rfl (hb hby at_46) rfl k) ?_
    show Run _ _ _ _ _ _ _ s₁ (mkF m 47 #[.val (.int p0), .val (.long q1), .second, .val (.int p2), .val (.int z1), .val (.long ((p0).toInt64)), .second, .val (.long ((8 : Int64) * ((p0).toInt64))), .second, .val (.long ((4 : Int64) * (((p0).toInt64) + (1 : Int64)))), .second, .val (.long ((4 : Int64) * q1)), .second, .unset, .unset, .unset, .unset, .unset, .unset, .unset, .unset] [(.long ((8 : Int64) * q1))])
    refine go (T' := s₁) (f' := (mkF m 49 #[.val (.int p0), .val (.long q1), .second, .val (.int p2), .val (.int z1), .val (.long ((p0).toInt64)), .second, .val (.long ((8 : Int64) * ((p0).toInt64))), .second, .val (.long ((4 : Int64) * (((p0).toInt64) + (1 : Int64)))), .second, .val (.long ((4 : Int64) * q1)), .second, .val (.long ((8 : Int64) * q1)), .second, .unset, .unset, .unset, .unset, .unset, .unset] [])) (by intro t k; exact XS.lstore X0.here hx rfl (hb hby at_47) rfl (l' := #[.val (.int p0), .val (.long q1), .second, .val (.int p2), .val (.int z1), .val (.long ((p0).toInt64)), .second, .val (.long ((8 : Int64) * ((p0).toInt64))), .second, .val (.long ((4 : Int64) * (((p0).toInt64) + (1 : Int64)))), .second, .val (.long ((4 : Int64) * q1)), .second, .val (.long ((8 : Int64) * q1)), .second, .unset, .unset, .unset, .unset, .unset, .unset]) rfl k) ?_
    show Run _ _ _ _ _ _ _ s₁ (mkF m 49 #[.val (.int p0), .val (.long q1), .second, .val (.int p2), .val (.int z1), .val (.long ((p0).toInt64)), .second, .val (.long ((8 : Int64) * ((p0).toInt64))), .second, .val (.long ((4 : Int64) * (((p0).toInt64) + (1 : Int64)))), .second, .val (.long ((4 : Int64) * q1)), .second, .val (.long ((8 : Int64) * q1)), .second, .unset, .unset, .unset, .unset, .unset, .unset] [])
    refine go (T' := s₁) (f' := (mkF m 50 #[.val (.int p0), .val (.long q1), .second, .val (.int p2), .val (.int z1), .val (.long ((p0).toInt64)), .second, .val (.long ((8 : Int64) * ((p0).toInt64))), .second, .val (.long ((4 : Int64) * (((p0).toInt64) + (1 : Int64)))), .second, .val (.long ((4 : Int64) * q1)), .second, .val (.long ((8 : Int64) * q1)), .second, .unset, .unset, .unset, .unset, .unset, .unset] [(.long (0 : Int64))])) (by intro t k; exact XS.lconst X0.here hx rfl (hb hby at_49) k) ?_
    show Run _ _ _ _ _ _ _ s₁ (mkF m 50 #[.val (.int p0), .val (.long q1), .second, .val (.int p2), .val (.int z1), .val (.long ((p0).toInt64)), .second, .val (.long ((8 : Int64) * ((p0).toInt64))), .second, .val (.long ((4 : Int64) * (((p0).toInt64) + (1 : Int64)))), .second, .val (.long ((4 : Int64) * q1)), .second, .val (.long ((8 : Int64) * q1)), .second, .unset, .unset, .unset, .unset, .unset, .unset] [(.long (0 : Int64))])
    refine go (T' := s₁) (f' := (mkF m 52 #[.val (.int p0), .val (.long q1), .second, .val (.int p2), .val (.int z1), .val (.long ((p0).toInt64)), .second, .val (.long ((8 : Int64) * ((p0).toInt64))), .second, .val (.long ((4 : Int64) * (((p0).toInt64) + (1 : Int64)))), .second, .val (.long ((4 : Int64) * q1)), .second, .val (.long ((8 : Int64) * q1)), .second, .val (.long (0 : Int64)), .second, .unset, .unset, .unset, .unset] [])) (by intro t k; exact XS.lstore X0.here hx rfl (hb hby at_50) rfl (l' := #[.val (.int p0), .val (.long q1), .second, .val (.int p2), .val (.int z1), .val (.long ((p0).toInt64)), .second, .val (.long ((8 : Int64) * ((p0).toInt64))), .second, .val (.long ((4 : Int64) * (((p0).toInt64) + (1 : Int64)))), .second, .val (.long ((4 : Int64) * q1)), .second, .val (.long ((8 : Int64) * q1)), .second, .val (.long (0 : Int64)), .second, .unset, .unset, .unset, .unset]) rfl k) ?_
    show Run _ _ _ _ _ _ _ s₁ (mkF m 52 #[.val (.int p0), .val (.long q1), .second, .val (.int p2), .val (.int z1), .val (.long ((p0).toInt64)), .second, .val (.long ((8 : Int64) * ((p0).toInt64))), .second, .val (.long ((4 : Int64) * (((p0).toInt64) + (1 : Int64)))), .second, .val (.long ((4 : Int64) * q1)), .second, .val (.long ((8 : Int64) * q1)), .second, .val (.long (0 : Int64)), .second, .unset, .unset, .unset, .unset] [])
    refine go (T' := s₁) (f' := (mkF m 53 #[.val (.int p0), .val (.long q1), .second, .val (.int p2), .val (.int z1), .val (.long ((p0).toInt64)), .second, .val (.long ((8 : Int64) * ((p0).toInt64))), .second, .val (.long ((4 : Int64) * (((p0).toInt64) + (1 : Int64)))), .second, .val (.long ((4 : Int64) * q1)), .second, .val (.long ((8 : Int64) * q1)), .second, .val (.long (0 : Int64)), .second, .unset, .unset, .unset, .unset] [(.long (0 : Int64))])) (by intro t k; exact XS.lconst X0.here hx rfl (hb hby at_52) k) ?_
    show Run _ _ _ _ _ _ _ s₁ (mkF m 53 #[.val (.int p0), .val (.long q1), .second, .val (.int p2), .val (.int z1), .val (.long ((p0).toInt64)), .second, .val (.long ((8 : Int64) * ((p0).toInt64))), .second, .val (.long ((4 : Int64) * (((p0).toInt64) + (1 : Int64)))), .second, .val (.long ((4 : Int64) * q1)), .second, .val (.long ((8 : Int64) * q1)), .second, .val (.long (0 : Int64)), .second, .unset, .unset, .unset, .unset] [(.long (0 : Int64))])
    refine go (T' := s₁) (f' := (mkF m 55 #[.val (.int p0), .val (.long q1), .second, .val (.int p2), .val (.int z1), .val (.long ((p0).toInt64)), .second, .val (.long ((8 : Int64) * ((p0).toInt64))), .second, .val (.long ((4 : Int64) * (((p0).toInt64) + (1 : Int64)))), .second, .val (.long ((4 : Int64) * q1)), .second, .val (.long ((8 : Int64) * q1)), .second, .val (.long (0 : Int64)), .second, .val (.long (0 : Int64)), .second, .unset, .unset] [])) (by intro t k; exact XS.lstore X0.here hx rfl (hb hby at_53) rfl (l' := #[.val (.int p0), .val (.long q1), .second, .val (.int p2), .val (.int z1), .val (.long ((p0).toInt64)), .second, .val (.long ((8 : Int64) * ((p0).toInt64))), .second, .val (.long ((4 : Int64) * (((p0).toInt64) + (1 : Int64)))), .second, .val (.long ((4 : Int64) * q1)), .second, .val (.long ((8 : Int64) * q1)), .second, .val (.long (0 : Int64)), .second, .val (.long (0 : Int64)), .second, .unset, .unset]) rfl k) ?_
    show Run _ _ _ _ _ _ _ s₁ (mkF m 55 #[.val (.int p0), .val (.long q1), .second, .val (.int p2), .val (.int z1), .val (.long ((p0).toInt64)), .second, .val (.long ((8 : Int64) * ((p0).toInt64))), .second, .val (.long ((4 : Int64) * (((p0).toInt64) + (1 : Int64)))), .second, .val (.long ((4 : Int64) * q1)), .second, .val (.long ((8 : Int64) * q1)), .second, .val (.long (0 : Int64)), .second, .val (.long (0 : Int64)), .second, .unset, .unset] [])
    refine go (T' := s₁) (f' := (mkF m 57 #[.val (.int p0), .val (.long q1), .second, .val (.int p2), .val (.int z1), .val (.long ((p0).toInt64)), .second, .val (.long ((8 : Int64) * ((p0).toInt64))), .second, .val (.long ((4 : Int64) * (((p0).toInt64) + (1 : Int64)))), .second, .val (.long ((4 : Int64) * q1)), .second, .val (.long ((8 : Int64) * q1)), .second, .val (.long (0 : Int64)), .second, .val (.long (0 : Int64)), .second, .unset, .unset] [(.int z1)])) (by intro t k; exact XS.iload X0.here hx rfl (hb hby at_55) rfl k) ?_
    show Run _ _ _ _ _ _ _ s₁ (mkF m 57 #[.val (.int p0), .val (.long q1), .second, .val (.int p2), .val (.int z1), .val (.long ((p0).toInt64)), .second, .val (.long ((8 : Int64) * ((p0).toInt64))), .second, .val (.long ((4 : Int64) * (((p0).toInt64) + (1 : Int64)))), .second, .val (.long ((4 : Int64) * q1)), .second, .val (.long ((8 : Int64) * q1)), .second, .val (.long (0 : Int64)), .second, .val (.long (0 : Int64)), .second, .unset, .unset] [(.int z1)])
    obtain ⟨z2, hz2⟩ : ∃ z : Int64, z = (if z1 = (0 : Int32) then (0 : Int64) else ((8 : Int64) * ((p0).toInt64))) := ⟨_, rfl⟩
    have J57 : Run p e s below (Q0 Z p0 q1 p2 h0 n0) room_1.cells room_1.slots s₁ (mkF m 76 #[.val (.int p0), .val (.long q1), .second, .val (.int p2), .val (.int z1), .val (.long ((p0).toInt64)), .second, .val (.long ((8 : Int64) * ((p0).toInt64))), .second, .val (.long ((4 : Int64) * (((p0).toInt64) + (1 : Int64)))), .second, .val (.long ((4 : Int64) * q1)), .second, .val (.long ((8 : Int64) * q1)), .second, .val (.long z2), .second, .val (.long z2), .second, .unset, .unset] []) := by
      show Run _ _ _ _ _ _ _ s₁ (mkF m 76 #[.val (.int p0), .val (.long q1), .second, .val (.int p2), .val (.int z1), .val (.long ((p0).toInt64)), .second, .val (.long ((8 : Int64) * ((p0).toInt64))), .second, .val (.long ((4 : Int64) * (((p0).toInt64) + (1 : Int64)))), .second, .val (.long ((4 : Int64) * q1)), .second, .val (.long ((8 : Int64) * q1)), .second, .val (.long z2), .second, .val (.long z2), .second, .unset, .unset] [])
      refine go (T' := s₁) (f' := (mkF m 78 #[.val (.int p0), .val (.long q1), .second, .val (.int p2), .val (.int z1), .val (.long ((p0).toInt64)), .second, .val (.long ((8 : Int64) * ((p0).toInt64))), .second, .val (.long ((4 : Int64) * (((p0).toInt64) + (1 : Int64)))), .second, .val (.long ((4 : Int64) * q1)), .second, .val (.long ((8 : Int64) * q1)), .second, .val (.long z2), .second, .val (.long z2), .second, .unset, .unset] [(.long ((8 : Int64) * ((p0).toInt64)))])) (by intro t k; exact XS.lload X0.here hx rfl (hb hby at_76) rfl k) ?_
      show Run _ _ _ _ _ _ _ s₁ (mkF m 78 #[.val (.int p0), .val (.long q1), .second, .val (.int p2), .val (.int z1), .val (.long ((p0).toInt64)), .second, .val (.long ((8 : Int64) * ((p0).toInt64))), .second, .val (.long ((4 : Int64) * (((p0).toInt64) + (1 : Int64)))), .second, .val (.long ((4 : Int64) * q1)), .second, .val (.long ((8 : Int64) * q1)), .second, .val (.long z2), .second, .val (.long z2), .second, .unset, .unset] [(.long ((8 : Int64) * ((p0).toInt64)))])
      refine go (T' := s₁) (f' := (mkF m 80 #[.val (.int p0), .val (.long q1), .second, .val (.int p2), .val (.int z1), .val (.long ((p0).toInt64)), .second, .val (.long ((8 : Int64) * ((p0).toInt64))), .second, .val (.long ((4 : Int64) * (((p0).toInt64) + (1 : Int64)))), .second, .val (.long ((4 : Int64) * q1)), .second, .val (.long ((8 : Int64) * q1)), .second, .val (.long z2), .second, .val (.long z2), .second, .unset, .unset] [(.long ((4 : Int64) * (((p0).toInt64) + (1 : Int64)))), (.long ((8 : Int64) * ((p0).toInt64)))])) (by intro t k; exact XS.lload X0.here hx rfl (hb hby at_78) rfl k) ?_
      show Run _ _ _ _ _ _ _ s₁ (mkF m 80 #[.val (.int p0), .val (.long q1), .second, .val (.int p2), .val (.int z1), .val (.long ((p0).toInt64)), .second, .val (.long ((8 : Int64) * ((p0).toInt64))), .second, .val (.long ((4 : Int64) * (((p0).toInt64) + (1 : Int64)))), .second, .val (.long ((4 : Int64) * q1)), .second, .val (.long ((8 : Int64) * q1)), .second, .val (.long z2), .second, .val (.long z2), .second, .unset, .unset] [(.long ((4 : Int64) * (((p0).toInt64) + (1 : Int64)))), (.long ((8 : Int64) * ((p0).toInt64)))])
      refine go (T' := s₁) (f' := (mkF m 81 #[.val (.int p0), .val (.long q1), .second, .val (.int p2), .val (.int z1), .val (.long ((p0).toInt64)), .second, .val (.long ((8 : Int64) * ((p0).toInt64))), .second, .val (.long ((4 : Int64) * (((p0).toInt64) + (1 : Int64)))), .second, .val (.long ((4 : Int64) * q1)), .second, .val (.long ((8 : Int64) * q1)), .second, .val (.long z2), .second, .val (.long z2), .second, .unset, .unset] [(.long (((8 : Int64) * ((p0).toInt64)) + ((4 : Int64) * (((p0).toInt64) + (1 : Int64)))))])) (by intro t k; exact XS.ladd X0.here hx rfl (hb hby at_80) rfl k) ?_
      show Run _ _ _ _ _ _ _ s₁ (mkF m 81 #[.val (.int p0), .val (.long q1), .second, .val (.int p2), .val (.int z1), .val (.long ((p0).toInt64)), .second, .val (.long ((8 : Int64) * ((p0).toInt64))), .second, .val (.long ((4 : Int64) * (((p0).toInt64) + (1 : Int64)))), .second, .val (.long ((4 : Int64) * q1)), .second, .val (.long ((8 : Int64) * q1)), .second, .val (.long z2), .second, .val (.long z2), .second, .unset, .unset] [(.long (((8 : Int64) * ((p0).toInt64)) + ((4 : Int64) * (((p0).toInt64) + (1 : Int64)))))])
      refine go (T' := s₁) (f' := (mkF m 83 #[.val (.int p0), .val (.long q1), .second, .val (.int p2), .val (.int z1), .val (.long ((p0).toInt64)), .second, .val (.long ((8 : Int64) * ((p0).toInt64))), .second, .val (.long ((4 : Int64) * (((p0).toInt64) + (1 : Int64)))), .second, .val (.long ((4 : Int64) * q1)), .second, .val (.long ((8 : Int64) * q1)), .second, .val (.long z2), .second, .val (.long z2), .second, .unset, .unset] [(.long ((4 : Int64) * q1)), (.long (((8 : Int64) * ((p0).toInt64)) + ((4 : Int64) * (((p0).toInt64) + (1 : Int64)))))])) (by intro t k; exact XS.lload X0.here hx rfl (hb hby at_81) rfl k) ?_
      show Run _ _ _ _ _ _ _ s₁ (mkF m 83 #[.val (.int p0), .val (.long q1), .second, .val (.int p2), .val (.int z1), .val (.long ((p0).toInt64)), .second, .val (.long ((8 : Int64) * ((p0).toInt64))), .second, .val (.long ((4 : Int64) * (((p0).toInt64) + (1 : Int64)))), .second, .val (.long ((4 : Int64) * q1)), .second, .val (.long ((8 : Int64) * q1)), .second, .val (.long z2), .second, .val (.long z2), .second, .unset, .unset] [(.long ((4 : Int64) * q1)), (.long (((8 : Int64) * ((p0).toInt64)) + ((4 : Int64) * (((p0).toInt64) + (1 : Int64)))))])
      refine go (T' := s₁) (f' := (mkF m 84 #[.val (.int p0), .val (.long q1), .second, .val (.int p2), .val (.int z1), .val (.long ((p0).toInt64)), .second, .val (.long ((8 : Int64) * ((p0).toInt64))), .second, .val (.long ((4 : Int64) * (((p0).toInt64) + (1 : Int64)))), .second, .val (.long ((4 : Int64) * q1)), .second, .val (.long ((8 : Int64) * q1)), .second, .val (.long z2), .second, .val (.long z2), .second, .unset, .unset] [(.long ((((8 : Int64) * ((p0).toInt64)) + ((4 : Int64) * (((p0).toInt64) + (1 : Int64)))) + ((4 : Int64) * q1)))])) (by intro t k; exact XS.ladd X0.here hx rfl (hb hby at_83) rfl k) ?_
      show Run _ _ _ _ _ _ _ s₁ (mkF m 84 #[.val (.int p0), .val (.long q1), .second, .val (.int p2), .val (.int z1), .val (.long ((p0).toInt64)), .second, .val (.long ((8 : Int64) * ((p0).toInt64))), .second, .val (.long ((4 : Int64) * (((p0).toInt64) + (1 : Int64)))), .second, .val (.long ((4 : Int64) * q1)), .second, .val (.long ((8 : Int64) * q1)), .second, .val (.long z2), .second, .val (.long z2), .second, .unset, .unset] [(.long ((((8 : Int64) * ((p0).toInt64)) + ((4 : Int64) * (((p0).toInt64) + (1 : Int64)))) + ((4 : Int64) * q1)))])
      refine go (T' := s₁) (f' := (mkF m 86 #[.val (.int p0), .val (.long q1), .second, .val (.int p2), .val (.int z1), .val (.long ((p0).toInt64)), .second, .val (.long ((8 : Int64) * ((p0).toInt64))), .second, .val (.long ((4 : Int64) * (((p0).toInt64) + (1 : Int64)))), .second, .val (.long ((4 : Int64) * q1)), .second, .val (.long ((8 : Int64) * q1)), .second, .val (.long z2), .second, .val (.long z2), .second, .unset, .unset] [(.long ((8 : Int64) * q1)), (.long ((((8 : Int64) * ((p0).toInt64)) + ((4 : Int64) * (((p0).toInt64) + (1 : Int64)))) + ((4 : Int64) * q1)))])) (by intro t k; exact XS.lload X0.here hx rfl (hb hby at_84) rfl k) ?_
      show Run _ _ _ _ _ _ _ s₁ (mkF m 86 #[.val (.int p0), .val (.long q1), .second, .val (.int p2), .val (.int z1), .val (.long ((p0).toInt64)), .second, .val (.long ((8 : Int64) * ((p0).toInt64))), .second, .val (.long ((4 : Int64) * (((p0).toInt64) + (1 : Int64)))), .second, .val (.long ((4 : Int64) * q1)), .second, .val (.long ((8 : Int64) * q1)), .second, .val (.long z2), .second, .val (.long z2), .second, .unset, .unset] [(.long ((8 : Int64) * q1)), (.long ((((8 : Int64) * ((p0).toInt64)) + ((4 : Int64) * (((p0).toInt64) + (1 : Int64)))) + ((4 : Int64) * q1)))])
      refine go (T' := s₁) (f' := (mkF m 87 #[.val (.int p0), .val (.long q1), .second, .val (.int p2), .val (.int z1), .val (.long ((p0).toInt64)), .second, .val (.long ((8 : Int64) * ((p0).toInt64))), .second, .val (.long ((4 : Int64) * (((p0).toInt64) + (1 : Int64)))), .second, .val (.long ((4 : Int64) * q1)), .second, .val (.long ((8 : Int64) * q1)), .second, .val (.long z2), .second, .val (.long z2), .second, .unset, .unset] [(.long (((((8 : Int64) * ((p0).toInt64)) + ((4 : Int64) * (((p0).toInt64) + (1 : Int64)))) + ((4 : Int64) * q1)) + ((8 : Int64) * q1)))])) (by intro t k; exact XS.ladd X0.here hx rfl (hb hby at_86) rfl k) ?_
      show Run _ _ _ _ _ _ _ s₁ (mkF m 87 #[.val (.int p0), .val (.long q1), .second, .val (.int p2), .val (.int z1), .val (.long ((p0).toInt64)), .second, .val (.long ((8 : Int64) * ((p0).toInt64))), .second, .val (.long ((4 : Int64) * (((p0).toInt64) + (1 : Int64)))), .second, .val (.long ((4 : Int64) * q1)), .second, .val (.long ((8 : Int64) * q1)), .second, .val (.long z2), .second, .val (.long z2), .second, .unset, .unset] [(.long (((((8 : Int64) * ((p0).toInt64)) + ((4 : Int64) * (((p0).toInt64) + (1 : Int64)))) + ((4 : Int64) * q1)) + ((8 : Int64) * q1)))])
      refine go (T' := s₁) (f' := (mkF m 89 #[.val (.int p0), .val (.long q1), .second, .val (.int p2), .val (.int z1), .val (.long ((p0).toInt64)), .second, .val (.long ((8 : Int64) * ((p0).toInt64))), .second, .val (.long ((4 : Int64) * (((p0).toInt64) + (1 : Int64)))), .second, .val (.long ((4 : Int64) * q1)), .second, .val (.long ((8 : Int64) * q1)), .second, .val (.long z2), .second, .val (.long z2), .second, .unset, .unset] [(.long z2), (.long (((((8 : Int64) * ((p0).toInt64)) + ((4 : Int64) * (((p0).toInt64) + (1 : Int64)))) + ((4 : Int64) * q1)) + ((8 : Int64) * q1)))])) (by intro t k; exact XS.lload X0.here hx rfl (hb hby at_87) rfl k) ?_
      show Run _ _ _ _ _ _ _ s₁ (mkF m 89 #[.val (.int p0), .val (.long q1), .second, .val (.int p2), .val (.int z1), .val (.long ((p0).toInt64)), .second, .val (.long ((8 : Int64) * ((p0).toInt64))), .second, .val (.long ((4 : Int64) * (((p0).toInt64) + (1 : Int64)))), .second, .val (.long ((4 : Int64) * q1)), .second, .val (.long ((8 : Int64) * q1)), .second, .val (.long z2), .second, .val (.long z2), .second, .unset, .unset] [(.long z2), (.long (((((8 : Int64) * ((p0).toInt64)) + ((4 : Int64) * (((p0).toInt64) + (1 : Int64)))) + ((4 : Int64) * q1)) + ((8 : Int64) * q1)))])
      refine go (T' := s₁) (f' := (mkF m 90 #[.val (.int p0), .val (.long q1), .second, .val (.int p2), .val (.int z1), .val (.long ((p0).toInt64)), .second, .val (.long ((8 : Int64) * ((p0).toInt64))), .second, .val (.long ((4 : Int64) * (((p0).toInt64) + (1 : Int64)))), .second, .val (.long ((4 : Int64) * q1)), .second, .val (.long ((8 : Int64) * q1)), .second, .val (.long z2), .second, .val (.long z2), .second, .unset, .unset] [(.long ((((((8 : Int64) * ((p0).toInt64)) + ((4 : Int64) * (((p0).toInt64) + (1 : Int64)))) + ((4 : Int64) * q1)) + ((8 : Int64) * q1)) + z2))])) (by intro t k; exact XS.ladd X0.here hx rfl (hb hby at_89) rfl k) ?_
      show Run _ _ _ _ _ _ _ s₁ (mkF m 90 #[.val (.int p0), .val (.long q1), .second, .val (.int p2), .val (.int z1), .val (.long ((p0).toInt64)), .second, .val (.long ((8 : Int64) * ((p0).toInt64))), .second, .val (.long ((4 : Int64) * (((p0).toInt64) + (1 : Int64)))), .second, .val (.long ((4 : Int64) * q1)), .second, .val (.long ((8 : Int64) * q1)), .second, .val (.long z2), .second, .val (.long z2), .second, .unset, .unset] [(.long ((((((8 : Int64) * ((p0).toInt64)) + ((4 : Int64) * (((p0).toInt64) + (1 : Int64)))) + ((4 : Int64) * q1)) + ((8 : Int64) * q1)) + z2))])
      refine go (T' := s₁) (f' := (mkF m 92 #[.val (.int p0), .val (.long q1), .second, .val (.int p2), .val (.int z1), .val (.long ((p0).toInt64)), .second, .val (.long ((8 : Int64) * ((p0).toInt64))), .second, .val (.long ((4 : Int64) * (((p0).toInt64) + (1 : Int64)))), .second, .val (.long ((4 : Int64) * q1)), .second, .val (.long ((8 : Int64) * q1)), .second, .val (.long z2), .second, .val (.long z2), .second, .unset, .unset] [(.long z2), (.long ((((((8 : Int64) * ((p0).toInt64)) + ((4 : Int64) * (((p0).toInt64) + (1 : Int64)))) + ((4 : Int64) * q1)) + ((8 : Int64) * q1)) + z2))])) (by intro t k; exact XS.lload X0.here hx rfl (hb hby at_90) rfl k) ?_
      show Run _ _ _ _ _ _ _ s₁ (mkF m 92 #[.val (.int p0), .val (.long q1), .second, .val (.int p2), .val (.int z1), .val (.long ((p0).toInt64)), .second, .val (.long ((8 : Int64) * ((p0).toInt64))), .second, .val (.long ((4 : Int64) * (((p0).toInt64) + (1 : Int64)))), .second, .val (.long ((4 : Int64) * q1)), .second, .val (.long ((8 : Int64) * q1)), .second, .val (.long z2), .second, .val (.long z2), .second, .unset, .unset] [(.long z2), (.long ((((((8 : Int64) * ((p0).toInt64)) + ((4 : Int64) * (((p0).toInt64) + (1 : Int64)))) + ((4 : Int64) * q1)) + ((8 : Int64) * q1)) + z2))])
      refine go (T' := s₁) (f' := (mkF m 93 #[.val (.int p0), .val (.long q1), .second, .val (.int p2), .val (.int z1), .val (.long ((p0).toInt64)), .second, .val (.long ((8 : Int64) * ((p0).toInt64))), .second, .val (.long ((4 : Int64) * (((p0).toInt64) + (1 : Int64)))), .second, .val (.long ((4 : Int64) * q1)), .second, .val (.long ((8 : Int64) * q1)), .second, .val (.long z2), .second, .val (.long z2), .second, .unset, .unset] [(.long (((((((8 : Int64) * ((p0).toInt64)) + ((4 : Int64) * (((p0).toInt64) + (1 : Int64)))) + ((4 : Int64) * q1)) + ((8 : Int64) * q1)) + z2) + z2))])) (by intro t k; exact XS.ladd X0.here hx rfl (hb hby at_92) rfl k) ?_
      show Run _ _ _ _ _ _ _ s₁ (mkF m 93 #[.val (.int p0), .val (.long q1), .second, .val (.int p2), .val (.int z1), .val (.long ((p0).toInt64)), .second, .val (.long ((8 : Int64) * ((p0).toInt64))), .second, .val (.long ((4 : Int64) * (((p0).toInt64) + (1 : Int64)))), .second, .val (.long ((4 : Int64) * q1)), .second, .val (.long ((8 : Int64) * q1)), .second, .val (.long z2), .second, .val (.long z2), .second, .unset, .unset] [(.long (((((((8 : Int64) * ((p0).toInt64)) + ((4 : Int64) * (((p0).toInt64) + (1 : Int64)))) + ((4 : Int64) * q1)) + ((8 : Int64) * q1)) + z2) + z2))])
      refine go (T' := s₁) (f' := (mkF m 95 #[.val (.int p0), .val (.long q1), .second, .val (.int p2), .val (.int z1), .val (.long ((p0).toInt64)), .second, .val (.long ((8 : Int64) * ((p0).toInt64))), .second, .val (.long ((4 : Int64) * (((p0).toInt64) + (1 : Int64)))), .second, .val (.long ((4 : Int64) * q1)), .second, .val (.long ((8 : Int64) * q1)), .second, .val (.long z2), .second, .val (.long z2), .second, .val (.long (((((((8 : Int64) * ((p0).toInt64)) + ((4 : Int64) * (((p0).toInt64) + (1 : Int64)))) + ((4 : Int64) * q1)) + ((8 : Int64) * q1)) + z2) + z2)), .second] [])) (by intro t k; exact XS.lstore X0.here hx rfl (hb hby at_93) rfl (l' := #[.val (.int p0), .val (.long q1), .second, .val (.int p2), .val (.int z1), .val (.long ((p0).toInt64)), .second, .val (.long ((8 : Int64) * ((p0).toInt64))), .second, .val (.long ((4 : Int64) * (((p0).toInt64) + (1 : Int64)))), .second, .val (.long ((4 : Int64) * q1)), .second, .val (.long ((8 : Int64) * q1)), .second, .val (.long z2), .second, .val (.long z2), .second, .val (.long (((((((8 : Int64) * ((p0).toInt64)) + ((4 : Int64) * (((p0).toInt64) + (1 : Int64)))) + ((4 : Int64) * q1)) + ((8 : Int64) * q1)) + z2) + z2)), .second]) rfl k) ?_
      show Run _ _ _ _ _ _ _ s₁ (mkF m 95 #[.val (.int p0), .val (.long q1), .second, .val (.int p2), .val (.int z1), .val (.long ((p0).toInt64)), .second, .val (.long ((8 : Int64) * ((p0).toInt64))), .second, .val (.long ((4 : Int64) * (((p0).toInt64) + (1 : Int64)))), .second, .val (.long ((4 : Int64) * q1)), .second, .val (.long ((8 : Int64) * q1)), .second, .val (.long z2), .second, .val (.long z2), .second, .val (.long (((((((8 : Int64) * ((p0).toInt64)) + ((4 : Int64) * (((p0).toInt64) + (1 : Int64)))) + ((4 : Int64) * q1)) + ((8 : Int64) * q1)) + z2) + z2)), .second] [])
      refine go (T' := s₁) (f' := (mkF m 96 #[.val (.int p0), .val (.long q1), .second, .val (.int p2), .val (.int z1), .val (.long ((p0).toInt64)), .second, .val (.long ((8 : Int64) * ((p0).toInt64))), .second, .val (.long ((4 : Int64) * (((p0).toInt64) + (1 : Int64)))), .second, .val (.long ((4 : Int64) * q1)), .second, .val (.long ((8 : Int64) * q1)), .second, .val (.long z2), .second, .val (.long z2), .second, .val (.long (((((((8 : Int64) * ((p0).toInt64)) + ((4 : Int64) * (((p0).toInt64) + (1 : Int64)))) + ((4 : Int64) * q1)) + ((8 : Int64) * q1)) + z2) + z2)), .second] [(.int p0)])) (by intro t k; exact XS.iloadN X0.here hx rfl (hb hby at_95) rfl k) ?_
      show Run _ _ _ _ _ _ _ s₁ (mkF m 96 #[.val (.int p0), .val (.long q1), .second, .val (.int p2), .val (.int z1), .val (.long ((p0).toInt64)), .second, .val (.long ((8 : Int64) * ((p0).toInt64))), .second, .val (.long ((4 : Int64) * (((p0).toInt64) + (1 : Int64)))), .second, .val (.long ((4 : Int64) * q1)), .second, .val (.long ((8 : Int64) * q1)), .second, .val (.long z2), .second, .val (.long z2), .second, .val (.long (((((((8 : Int64) * ((p0).toInt64)) + ((4 : Int64) * (((p0).toInt64) + (1 : Int64)))) + ((4 : Int64) * q1)) + ((8 : Int64) * q1)) + z2) + z2)), .second] [(.int p0)])
      refine go (T' := s₁) (f' := (mkF m 97 #[.val (.int p0), .val (.long q1), .second, .val (.int p2), .val (.int z1), .val (.long ((p0).toInt64)), .second, .val (.long ((8 : Int64) * ((p0).toInt64))), .second, .val (.long ((4 : Int64) * (((p0).toInt64) + (1 : Int64)))), .second, .val (.long ((4 : Int64) * q1)), .second, .val (.long ((8 : Int64) * q1)), .second, .val (.long z2), .second, .val (.long z2), .second, .val (.long (((((((8 : Int64) * ((p0).toInt64)) + ((4 : Int64) * (((p0).toInt64) + (1 : Int64)))) + ((4 : Int64) * q1)) + ((8 : Int64) * q1)) + z2) + z2)), .second] [(.long q1), (.int p0)])) (by intro t k; exact XS.lloadN X0.here hx rfl (hb hby at_96) rfl k) ?_
      show Run _ _ _ _ _ _ _ s₁ (mkF m 97 #[.val (.int p0), .val (.long q1), .second, .val (.int p2), .val (.int z1), .val (.long ((p0).toInt64)), .second, .val (.long ((8 : Int64) * ((p0).toInt64))), .second, .val (.long ((4 : Int64) * (((p0).toInt64) + (1 : Int64)))), .second, .val (.long ((4 : Int64) * q1)), .second, .val (.long ((8 : Int64) * q1)), .second, .val (.long z2), .second, .val (.long z2), .second, .val (.long (((((((8 : Int64) * ((p0).toInt64)) + ((4 : Int64) * (((p0).toInt64) + (1 : Int64)))) + ((4 : Int64) * q1)) + ((8 : Int64) * q1)) + z2) + z2)), .second] [(.long q1), (.int p0)])
      refine go (T' := s₁) (f' := (mkF m 99 #[.val (.int p0), .val (.long q1), .second, .val (.int p2), .val (.int z1), .val (.long ((p0).toInt64)), .second, .val (.long ((8 : Int64) * ((p0).toInt64))), .second, .val (.long ((4 : Int64) * (((p0).toInt64) + (1 : Int64)))), .second, .val (.long ((4 : Int64) * q1)), .second, .val (.long ((8 : Int64) * q1)), .second, .val (.long z2), .second, .val (.long z2), .second, .val (.long (((((((8 : Int64) * ((p0).toInt64)) + ((4 : Int64) * (((p0).toInt64) + (1 : Int64)))) + ((4 : Int64) * q1)) + ((8 : Int64) * q1)) + z2) + z2)), .second] [(.int z1), (.long q1), (.int p0)])) (by intro t k; exact XS.iload X0.here hx rfl (hb hby at_97) rfl k) ?_
      show Run _ _ _ _ _ _ _ s₁ (mkF m 99 #[.val (.int p0), .val (.long q1), .second, .val (.int p2), .val (.int z1), .val (.long ((p0).toInt64)), .second, .val (.long ((8 : Int64) * ((p0).toInt64))), .second, .val (.long ((4 : Int64) * (((p0).toInt64) + (1 : Int64)))), .second, .val (.long ((4 : Int64) * q1)), .second, .val (.long ((8 : Int64) * q1)), .second, .val (.long z2), .second, .val (.long z2), .second, .val (.long (((((((8 : Int64) * ((p0).toInt64)) + ((4 : Int64) * (((p0).toInt64) + (1 : Int64)))) + ((4 : Int64) * q1)) + ((8 : Int64) * q1)) + z2) + z2)), .second] [(.int z1), (.long q1), (.int p0)])
      obtain ⟨_, _, ⟨T3, Lz3, kz3, nz3⟩, -, X3, ⟨Lc3, hQ3, lz3, yz3, zz3⟩, st3⟩ := Jvm.LawKit.callS X0 hx (y := (⟨"com/example/wayshard/wayshard/model/RoadGraph", "sizeInBytes", "(IJZ)J"⟩ : MethodName)) hown (mvT hZ (hw _ (List.mem_of_getElem? (i := 2) rfl))) (mvT hZ (hw _ (List.mem_of_getElem? (i := 3) rfl))) (mvT hZ (hw _ (List.mem_of_getElem? (i := 4) rfl))) (mvT hZ (hw _ (List.mem_of_getElem? (i := 5) rfl))) (by decide) (backOf (W := 0) (rm1 l Z a0 hw [] p0 q1 z1  h0 n0 Z0 ) hZ (hw _ (List.mem_of_getElem? (i := 5) rfl)) (hw _ (List.mem_of_getElem? (i := 4) rfl)) (by decide) (by decide)) (g := (mkF m 99 #[.val (.int p0), .val (.long q1), .second, .val (.int p2), .val (.int z1), .val (.long ((p0).toInt64)), .second, .val (.long ((8 : Int64) * ((p0).toInt64))), .second, .val (.long ((4 : Int64) * (((p0).toInt64) + (1 : Int64)))), .second, .val (.long ((4 : Int64) * q1)), .second, .val (.long ((8 : Int64) * q1)), .second, .val (.long z2), .second, .val (.long z2), .second, .val (.long (((((((8 : Int64) * ((p0).toInt64)) + ((4 : Int64) * (((p0).toInt64) + (1 : Int64)))) + ((4 : Int64) * q1)) + ((8 : Int64) * q1)) + z2) + z2)), .second] [(.int z1), (.long q1), (.int p0)])) rfl (by rw [hml]; rfl) (argsL := [(.int p0), (.long q1), (.int z1)]) (rest := []) (lenOf pd_28IJZ29J rfl) rfl (by show 2 * 0 + _ ≤ _; exact Nat.le_of_eq rfl) (hb hby at_99) (fun _ _ => ⟨rfl, e0, (by decide : 0 + 0 ≤ _), (by decide : 0 + 0 ≤ _)⟩)
      dsimp only [Pt.U, Pt.locs, Pt.cells, Pt.slots] at X3 lz3 yz3 zz3 st3 hQ3
      subst lz3 yz3 zz3
      obtain ⟨rfl, N3q, e3⟩ := hQ3
      have N3 := Fr.app N0 N3q
      refine go st3 ?_
      show Run _ _ _ _ _ _ _ T3 (mkF m 102 #[.val (.int p0), .val (.long q1), .second, .val (.int p2), .val (.int z1), .val (.long ((p0).toInt64)), .second, .val (.long ((8 : Int64) * ((p0).toInt64))), .second, .val (.long ((4 : Int64) * (((p0).toInt64) + (1 : Int64)))), .second, .val (.long ((4 : Int64) * q1)), .second, .val (.long ((8 : Int64) * q1)), .second, .val (.long z2), .second, .val (.long z2), .second, .val (.long (((((((8 : Int64) * ((p0).toInt64)) + ((4 : Int64) * (((p0).toInt64) + (1 : Int64)))) + ((4 : Int64) * q1)) + ((8 : Int64) * q1)) + z2) + z2)), .second] [(.long (own_sz p0 q1 z1))])
      refine go (T' := T3) (f' := (mkF m 104 #[.val (.int p0), .val (.long q1), .second, .val (.int p2), .val (.int z1), .val (.long ((p0).toInt64)), .second, .val (.long ((8 : Int64) * ((p0).toInt64))), .second, .val (.long ((4 : Int64) * (((p0).toInt64) + (1 : Int64)))), .second, .val (.long ((4 : Int64) * q1)), .second, .val (.long ((8 : Int64) * q1)), .second, .val (.long z2), .second, .val (.long z2), .second, .val (.long (((((((8 : Int64) * ((p0).toInt64)) + ((4 : Int64) * (((p0).toInt64) + (1 : Int64)))) + ((4 : Int64) * q1)) + ((8 : Int64) * q1)) + z2) + z2)), .second] [(.long (((((((8 : Int64) * ((p0).toInt64)) + ((4 : Int64) * (((p0).toInt64) + (1 : Int64)))) + ((4 : Int64) * q1)) + ((8 : Int64) * q1)) + z2) + z2)), (.long (own_sz p0 q1 z1))])) (by intro t k; exact XS.lload X3.here hx rfl (hb hby at_102) rfl k) ?_
      show Run _ _ _ _ _ _ _ T3 (mkF m 104 #[.val (.int p0), .val (.long q1), .second, .val (.int p2), .val (.int z1), .val (.long ((p0).toInt64)), .second, .val (.long ((8 : Int64) * ((p0).toInt64))), .second, .val (.long ((4 : Int64) * (((p0).toInt64) + (1 : Int64)))), .second, .val (.long ((4 : Int64) * q1)), .second, .val (.long ((8 : Int64) * q1)), .second, .val (.long z2), .second, .val (.long z2), .second, .val (.long (((((((8 : Int64) * ((p0).toInt64)) + ((4 : Int64) * (((p0).toInt64) + (1 : Int64)))) + ((4 : Int64) * q1)) + ((8 : Int64) * q1)) + z2) + z2)), .second] [(.long (((((((8 : Int64) * ((p0).toInt64)) + ((4 : Int64) * (((p0).toInt64) + (1 : Int64)))) + ((4 : Int64) * q1)) + ((8 : Int64) * q1)) + z2) + z2)), (.long (own_sz p0 q1 z1))])
      refine go (T' := T3) (f' := (mkF m 105 #[.val (.int p0), .val (.long q1), .second, .val (.int p2), .val (.int z1), .val (.long ((p0).toInt64)), .second, .val (.long ((8 : Int64) * ((p0).toInt64))), .second, .val (.long ((4 : Int64) * (((p0).toInt64) + (1 : Int64)))), .second, .val (.long ((4 : Int64) * q1)), .second, .val (.long ((8 : Int64) * q1)), .second, .val (.long z2), .second, .val (.long z2), .second, .val (.long (((((((8 : Int64) * ((p0).toInt64)) + ((4 : Int64) * (((p0).toInt64) + (1 : Int64)))) + ((4 : Int64) * q1)) + ((8 : Int64) * q1)) + z2) + z2)), .second] [(.int (lcmpW (own_sz p0 q1 z1) (((((((8 : Int64) * ((p0).toInt64)) + ((4 : Int64) * (((p0).toInt64) + (1 : Int64)))) + ((4 : Int64) * q1)) + ((8 : Int64) * q1)) + z2) + z2)))])) (by intro t k; exact XS.lcmp X3.here hx rfl (hb hby at_104) rfl k) ?_
      show Run _ _ _ _ _ _ _ T3 (mkF m 105 #[.val (.int p0), .val (.long q1), .second, .val (.int p2), .val (.int z1), .val (.long ((p0).toInt64)), .second, .val (.long ((8 : Int64) * ((p0).toInt64))), .second, .val (.long ((4 : Int64) * (((p0).toInt64) + (1 : Int64)))), .second, .val (.long ((4 : Int64) * q1)), .second, .val (.long ((8 : Int64) * q1)), .second, .val (.long z2), .second, .val (.long z2), .second, .val (.long (((((((8 : Int64) * ((p0).toInt64)) + ((4 : Int64) * (((p0).toInt64) + (1 : Int64)))) + ((4 : Int64) * q1)) + ((8 : Int64) * q1)) + z2) + z2)), .second] [(.int (lcmpW (own_sz p0 q1 z1) (((((((8 : Int64) * ((p0).toInt64)) + ((4 : Int64) * (((p0).toInt64) + (1 : Int64)))) + ((4 : Int64) * q1)) + ((8 : Int64) * q1)) + z2) + z2)))])
      obtain ⟨z4, hz4⟩ : ∃ z : Int32, z = (if (own_sz p0 q1 z1) = (((((((8 : Int64) * ((p0).toInt64)) + ((4 : Int64) * (((p0).toInt64) + (1 : Int64)))) + ((4 : Int64) * q1)) + ((8 : Int64) * q1)) + z2) + z2) then (1 : Int32) else (0 : Int32)) := ⟨_, rfl⟩
      have J105 : Run p e s below (Q0 Z p0 q1 p2 h0 n0) room_1.cells room_1.slots T3 (mkF m 113 #[.val (.int p0), .val (.long q1), .second, .val (.int p2), .val (.int z1), .val (.long ((p0).toInt64)), .second, .val (.long ((8 : Int64) * ((p0).toInt64))), .second, .val (.long ((4 : Int64) * (((p0).toInt64) + (1 : Int64)))), .second, .val (.long ((4 : Int64) * q1)), .second, .val (.long ((8 : Int64) * q1)), .second, .val (.long z2), .second, .val (.long z2), .second, .val (.long (((((((8 : Int64) * ((p0).toInt64)) + ((4 : Int64) * (((p0).toInt64) + (1 : Int64)))) + ((4 : Int64) * q1)) + ((8 : Int64) * q1)) + z2) + z2)), .second] [(.int z4)]) := by
        show Run _ _ _ _ _ _ _ T3 (mkF m 113 #[.val (.int p0), .val (.long q1), .second, .val (.int p2), .val (.int z1), .val (.long ((p0).toInt64)), .second, .val (.long ((8 : Int64) * ((p0).toInt64))), .second, .val (.long ((4 : Int64) * (((p0).toInt64) + (1 : Int64)))), .second, .val (.long ((4 : Int64) * q1)), .second, .val (.long ((8 : Int64) * q1)), .second, .val (.long z2), .second, .val (.long z2), .second, .val (.long (((((((8 : Int64) * ((p0).toInt64)) + ((4 : Int64) * (((p0).toInt64) + (1 : Int64)))) + ((4 : Int64) * q1)) + ((8 : Int64) * q1)) + z2) + z2)), .second] [(.int z4)])
        refine retZ X3 hx (t := .boolean) Bd.returns (by simp) (hb hby at_113) hlk (by decide) (by decide) ?_
        show Q0 Z p0 q1 p2 h0 n0 _ T3.heap _
        rw [e3]
        have hv' : (nar .boolean z4) = (1 : Int32) := by
          rw [hz4]
          refine (congrArg (nar .boolean) (if_pos ?_)).trans rfl
          unfold own_sz
          by_cases hb : z1 = 0
          · rw [if_pos hb, hz2, if_pos hb]
            exact own_l1 _ _
          · rw [if_neg hb, hz2, if_neg hb]
            exact own_l2 _ _
        have hv : (some (.int (nar .boolean z4)) : Option Value) = some (.int (1 : Int32)) := by rw [hv']
        exact ⟨hv, N3⟩
      show Run _ _ _ _ _ _ _ T3 (mkF m 105 #[.val (.int p0), .val (.long q1), .second, .val (.int p2), .val (.int z1), .val (.long ((p0).toInt64)), .second, .val (.long ((8 : Int64) * ((p0).toInt64))), .second, .val (.long ((4 : Int64) * (((p0).toInt64) + (1 : Int64)))), .second, .val (.long ((4 : Int64) * q1)), .second, .val (.long ((8 : Int64) * q1)), .second, .val (.long z2), .second, .val (.long z2), .second, .val (.long (((((((8 : Int64) * ((p0).toInt64)) + ((4 : Int64) * (((p0).toInt64) + (1 : Int64)))) + ((4 : Int64) * q1)) + ((8 : Int64) * q1)) + z2) + z2)), .second] [(.int (lcmpW (own_sz p0 q1 z1) (((((((8 : Int64) * ((p0).toInt64)) + ((4 : Int64) * (((p0).toInt64) + (1 : Int64)))) + ((4 : Int64) * q1)) + ((8 : Int64) * q1)) + z2) + z2)))])
      by_cases hc105 : (own_sz p0 q1 z1) = (((((((8 : Int64) * ((p0).toInt64)) + ((4 : Int64) * (((p0).toInt64) + (1 : Int64)))) + ((4 : Int64) * q1)) + ((8 : Int64) * q1)) + z2) + z2)
      · refine go (T' := T3) (f' := (mkF m 108 #[.val (.int p0), .val (.long q1), .second, .val (.int p2), .val (.int z1), .val (.long ((p0).toInt64)), .second, .val (.long ((8 : Int64) * ((p0).toInt64))), .second, .val (.long ((4 : Int64) * (((p0).toInt64) + (1 : Int64)))), .second, .val (.long ((4 : Int64) * q1)), .second, .val (.long ((8 : Int64) * q1)), .second, .val (.long z2), .second, .val (.long z2), .second, .val (.long (((((((8 : Int64) * ((p0).toInt64)) + ((4 : Int64) * (((p0).toInt64) + (1 : Int64)))) + ((4 : Int64) * q1)) + ((8 : Int64) * q1)) + z2) + z2)), .second] [])) (by intro t k; exact XS.ifNo X3.here hx rfl (hb hby at_105) rfl ((if0 _ _).trans (teq ((lw_eq _ _).mpr hc105)).2) k) ?_
        show Run _ _ _ _ _ _ _ T3 (mkF m 108 #[.val (.int p0), .val (.long q1), .second, .val (.int p2), .val (.int z1), .val (.long ((p0).toInt64)), .second, .val (.long ((8 : Int64) * ((p0).toInt64))), .second, .val (.long ((4 : Int64) * (((p0).toInt64) + (1 : Int64)))), .second, .val (.long ((4 : Int64) * q1)), .second, .val (.long ((8 : Int64) * q1)), .second, .val (.long z2), .second, .val (.long z2), .second, .val (.long (((((((8 : Int64) * ((p0).toInt64)) + ((4 : Int64) * (((p0).toInt64) + (1 : Int64)))) + ((4 : Int64) * q1)) + ((8 : Int64) * q1)) + z2) + z2)), .second] [])
        refine go (T' := T3) (f' := (mkF m 109 #[.val (.int p0), .val (.long q1), .second, .val (.int p2), .val (.int z1), .val (.long ((p0).toInt64)), .second, .val (.long ((8 : Int64) * ((p0).toInt64))), .second, .val (.long ((4 : Int64) * (((p0).toInt64) + (1 : Int64)))), .second, .val (.long ((4 : Int64) * q1)), .second, .val (.long ((8 : Int64) * q1)), .second, .val (.long z2), .second, .val (.long z2), .second, .val (.long (((((((8 : Int64) * ((p0).toInt64)) + ((4 : Int64) * (((p0).toInt64) + (1 : Int64)))) + ((4 : Int64) * q1)) + ((8 : Int64) * q1)) + z2) + z2)), .second] [(.int (1 : Int32))])) (by intro t k; exact XS.iconst X3.here hx rfl (hb hby at_108) k) ?_
        show Run _ _ _ _ _ _ _ T3 (mkF m 109 #[.val (.int p0), .val (.long q1), .second, .val (.int p2), .val (.int z1), .val (.long ((p0).toInt64)), .second, .val (.long ((8 : Int64) * ((p0).toInt64))), .second, .val (.long ((4 : Int64) * (((p0).toInt64) + (1 : Int64)))), .second, .val (.long ((4 : Int64) * q1)), .second, .val (.long ((8 : Int64) * q1)), .second, .val (.long z2), .second, .val (.long z2), .second, .val (.long (((((((8 : Int64) * ((p0).toInt64)) + ((4 : Int64) * (((p0).toInt64) + (1 : Int64)))) + ((4 : Int64) * q1)) + ((8 : Int64) * q1)) + z2) + z2)), .second] [(.int (1 : Int32))])
        refine go (T' := T3) (f' := (mkF m 113 #[.val (.int p0), .val (.long q1), .second, .val (.int p2), .val (.int z1), .val (.long ((p0).toInt64)), .second, .val (.long ((8 : Int64) * ((p0).toInt64))), .second, .val (.long ((4 : Int64) * (((p0).toInt64) + (1 : Int64)))), .second, .val (.long ((4 : Int64) * q1)), .second, .val (.long ((8 : Int64) * q1)), .second, .val (.long z2), .second, .val (.long z2), .second, .val (.long (((((((8 : Int64) * ((p0).toInt64)) + ((4 : Int64) * (((p0).toInt64) + (1 : Int64)))) + ((4 : Int64) * q1)) + ((8 : Int64) * q1)) + z2) + z2)), .second] [(.int (1 : Int32))])) (by intro t k; exact XS.goto X3.here hx rfl (pc0 := 109) (pc' := 113) rfl (hb hby at_109) (by decide) (by decide) k) ?_
        have ez4 : z4 = (1 : Int32) := (hz4).trans (if_pos hc105)
        subst ez4
        exact J105
      · refine go (T' := T3) (f' := (mkF m 112 #[.val (.int p0), .val (.long q1), .second, .val (.int p2), .val (.int z1), .val (.long ((p0).toInt64)), .second, .val (.long ((8 : Int64) * ((p0).toInt64))), .second, .val (.long ((4 : Int64) * (((p0).toInt64) + (1 : Int64)))), .second, .val (.long ((4 : Int64) * q1)), .second, .val (.long ((8 : Int64) * q1)), .second, .val (.long z2), .second, .val (.long z2), .second, .val (.long (((((((8 : Int64) * ((p0).toInt64)) + ((4 : Int64) * (((p0).toInt64) + (1 : Int64)))) + ((4 : Int64) * q1)) + ((8 : Int64) * q1)) + z2) + z2)), .second] [])) (by intro t k; exact XS.ifYes X3.here hx rfl (pc0 := 105) (pc' := 112) rfl (hb hby at_105) rfl ((if0 _ _).trans (feq (fun q => hc105 ((lw_eq _ _).mp q))).2) (by decide) (by decide) k) ?_
        show Run _ _ _ _ _ _ _ T3 (mkF m 112 #[.val (.int p0), .val (.long q1), .second, .val (.int p2), .val (.int z1), .val (.long ((p0).toInt64)), .second, .val (.long ((8 : Int64) * ((p0).toInt64))), .second, .val (.long ((4 : Int64) * (((p0).toInt64) + (1 : Int64)))), .second, .val (.long ((4 : Int64) * q1)), .second, .val (.long ((8 : Int64) * q1)), .second, .val (.long z2), .second, .val (.long z2), .second, .val (.long (((((((8 : Int64) * ((p0).toInt64)) + ((4 : Int64) * (((p0).toInt64) + (1 : Int64)))) + ((4 : Int64) * q1)) + ((8 : Int64) * q1)) + z2) + z2)), .second] [])
        refine go (T' := T3) (f' := (mkF m 113 #[.val (.int p0), .val (.long q1), .second, .val (.int p2), .val (.int z1), .val (.long ((p0).toInt64)), .second, .val (.long ((8 : Int64) * ((p0).toInt64))), .second, .val (.long ((4 : Int64) * (((p0).toInt64) + (1 : Int64)))), .second, .val (.long ((4 : Int64) * q1)), .second, .val (.long ((8 : Int64) * q1)), .second, .val (.long z2), .second, .val (.long z2), .second, .val (.long (((((((8 : Int64) * ((p0).toInt64)) + ((4 : Int64) * (((p0).toInt64) + (1 : Int64)))) + ((4 : Int64) * q1)) + ((8 : Int64) * q1)) + z2) + z2)), .second] [(.int (0 : Int32))])) (by intro t k; exact XS.iconst X3.here hx rfl (hb hby at_112) k) ?_
        have ez4 : z4 = (0 : Int32) := (hz4).trans (if_neg hc105)
        subst ez4
        exact J105
    show Run _ _ _ _ _ _ _ s₁ (mkF m 57 #[.val (.int p0), .val (.long q1), .second, .val (.int p2), .val (.int z1), .val (.long ((p0).toInt64)), .second, .val (.long ((8 : Int64) * ((p0).toInt64))), .second, .val (.long ((4 : Int64) * (((p0).toInt64) + (1 : Int64)))), .second, .val (.long ((4 : Int64) * q1)), .second, .val (.long ((8 : Int64) * q1)), .second, .val (.long (0 : Int64)), .second, .val (.long (0 : Int64)), .second, .unset, .unset] [(.int z1)])
    by_cases hc57 : z1 = (0 : Int32)
    · refine go (T' := s₁) (f' := (mkF m 76 #[.val (.int p0), .val (.long q1), .second, .val (.int p2), .val (.int z1), .val (.long ((p0).toInt64)), .second, .val (.long ((8 : Int64) * ((p0).toInt64))), .second, .val (.long ((4 : Int64) * (((p0).toInt64) + (1 : Int64)))), .second, .val (.long ((4 : Int64) * q1)), .second, .val (.long ((8 : Int64) * q1)), .second, .val (.long (0 : Int64)), .second, .val (.long (0 : Int64)), .second, .unset, .unset] [])) (by intro t k; exact XS.ifYes X0.here hx rfl (pc0 := 57) (pc' := 76) rfl (hb hby at_57) rfl ((if0 _ _).trans (teq hc57).1) (by decide) (by decide) k) ?_
      have ez2 : z2 = (0 : Int64) := (hz2).trans (if_pos hc57)
      subst ez2
      exact J57
    · refine go (T' := s₁) (f' := (mkF m 60 #[.val (.int p0), .val (.long q1), .second, .val (.int p2), .val (.int z1), .val (.long ((p0).toInt64)), .second, .val (.long ((8 : Int64) * ((p0).toInt64))), .second, .val (.long ((4 : Int64) * (((p0).toInt64) + (1 : Int64)))), .second, .val (.long ((4 : Int64) * q1)), .second, .val (.long ((8 : Int64) * q1)), .second, .val (.long (0 : Int64)), .second, .val (.long (0 : Int64)), .second, .unset, .unset] [])) (by intro t k; exact XS.ifNo X0.here hx rfl (hb hby at_57) rfl ((if0 _ _).trans (feq hc57).1) k) ?_
      show Run _ _ _ _ _ _ _ s₁ (mkF m 60 #[.val (.int p0), .val (.long q1), .second, .val (.int p2), .val (.int z1), .val (.long ((p0).toInt64)), .second, .val (.long ((8 : Int64) * ((p0).toInt64))), .second, .val (.long ((4 : Int64) * (((p0).toInt64) + (1 : Int64)))), .second, .val (.long ((4 : Int64) * q1)), .second, .val (.long ((8 : Int64) * q1)), .second, .val (.long (0 : Int64)), .second, .val (.long (0 : Int64)), .second, .unset, .unset] [])
      refine go (T' := s₁) (f' := (mkF m 63 #[.val (.int p0), .val (.long q1), .second, .val (.int p2), .val (.int z1), .val (.long ((p0).toInt64)), .second, .val (.long ((8 : Int64) * ((p0).toInt64))), .second, .val (.long ((4 : Int64) * (((p0).toInt64) + (1 : Int64)))), .second, .val (.long ((4 : Int64) * q1)), .second, .val (.long ((8 : Int64) * q1)), .second, .val (.long (0 : Int64)), .second, .val (.long (0 : Int64)), .second, .unset, .unset] [(.long (8 : Int64))])) (by intro t k; exact X0.ldc2Long hx hown (mvT hZ (hw _ (List.mem_of_getElem? (i := 0) rfl))) (g := (mkF m 60 #[.val (.int p0), .val (.long q1), .second, .val (.int p2), .val (.int z1), .val (.long ((p0).toInt64)), .second, .val (.long ((8 : Int64) * ((p0).toInt64))), .second, .val (.long ((4 : Int64) * (((p0).toInt64) + (1 : Int64)))), .second, .val (.long ((4 : Int64) * q1)), .second, .val (.long ((8 : Int64) * q1)), .second, .val (.long (0 : Int64)), .second, .val (.long (0 : Int64)), .second, .unset, .unset] [])) rfl (hb hby at_60) _ k) ?_
      show Run _ _ _ _ _ _ _ s₁ (mkF m 63 #[.val (.int p0), .val (.long q1), .second, .val (.int p2), .val (.int z1), .val (.long ((p0).toInt64)), .second, .val (.long ((8 : Int64) * ((p0).toInt64))), .second, .val (.long ((4 : Int64) * (((p0).toInt64) + (1 : Int64)))), .second, .val (.long ((4 : Int64) * q1)), .second, .val (.long ((8 : Int64) * q1)), .second, .val (.long (0 : Int64)), .second, .val (.long (0 : Int64)), .second, .unset, .unset] [(.long (8 : Int64))])
      refine go (T' := s₁) (f' := (mkF m 65 #[.val (.int p0), .val (.long q1), .second, .val (.int p2), .val (.int z1), .val (.long ((p0).toInt64)), .second, .val (.long ((8 : Int64) * ((p0).toInt64))), .second, .val (.long ((4 : Int64) * (((p0).toInt64) + (1 : Int64)))), .second, .val (.long ((4 : Int64) * q1)), .second, .val (.long ((8 : Int64) * q1)), .second, .val (.long (0 : Int64)), .second, .val (.long (0 : Int64)), .second, .unset, .unset] [(.long ((p0).toInt64)), (.long (8 : Int64))])) (by intro t k; exact XS.lload X0.here hx rfl (hb hby at_63) rfl k) ?_
      show Run _ _ _ _ _ _ _ s₁ (mkF m 65 #[.val (.int p0), .val (.long q1), .second, .val (.int p2), .val (.int z1), .val (.long ((p0).toInt64)), .second, .val (.long ((8 : Int64) * ((p0).toInt64))), .second, .val (.long ((4 : Int64) * (((p0).toInt64) + (1 : Int64)))), .second, .val (.long ((4 : Int64) * q1)), .second, .val (.long ((8 : Int64) * q1)), .second, .val (.long (0 : Int64)), .second, .val (.long (0 : Int64)), .second, .unset, .unset] [(.long ((p0).toInt64)), (.long (8 : Int64))])
      refine go (T' := s₁) (f' := (mkF m 66 #[.val (.int p0), .val (.long q1), .second, .val (.int p2), .val (.int z1), .val (.long ((p0).toInt64)), .second, .val (.long ((8 : Int64) * ((p0).toInt64))), .second, .val (.long ((4 : Int64) * (((p0).toInt64) + (1 : Int64)))), .second, .val (.long ((4 : Int64) * q1)), .second, .val (.long ((8 : Int64) * q1)), .second, .val (.long (0 : Int64)), .second, .val (.long (0 : Int64)), .second, .unset, .unset] [(.long ((8 : Int64) * ((p0).toInt64)))])) (by intro t k; exact XS.lmul X0.here hx rfl (hb hby at_65) rfl k) ?_
      show Run _ _ _ _ _ _ _ s₁ (mkF m 66 #[.val (.int p0), .val (.long q1), .second, .val (.int p2), .val (.int z1), .val (.long ((p0).toInt64)), .second, .val (.long ((8 : Int64) * ((p0).toInt64))), .second, .val (.long ((4 : Int64) * (((p0).toInt64) + (1 : Int64)))), .second, .val (.long ((4 : Int64) * q1)), .second, .val (.long ((8 : Int64) * q1)), .second, .val (.long (0 : Int64)), .second, .val (.long (0 : Int64)), .second, .unset, .unset] [(.long ((8 : Int64) * ((p0).toInt64)))])
      refine go (T' := s₁) (f' := (mkF m 68 #[.val (.int p0), .val (.long q1), .second, .val (.int p2), .val (.int z1), .val (.long ((p0).toInt64)), .second, .val (.long ((8 : Int64) * ((p0).toInt64))), .second, .val (.long ((4 : Int64) * (((p0).toInt64) + (1 : Int64)))), .second, .val (.long ((4 : Int64) * q1)), .second, .val (.long ((8 : Int64) * q1)), .second, .val (.long ((8 : Int64) * ((p0).toInt64))), .second, .val (.long (0 : Int64)), .second, .unset, .unset] [])) (by intro t k; exact XS.lstore X0.here hx rfl (hb hby at_66) rfl (l' := #[.val (.int p0), .val (.long q1), .second, .val (.int p2), .val (.int z1), .val (.long ((p0).toInt64)), .second, .val (.long ((8 : Int64) * ((p0).toInt64))), .second, .val (.long ((4 : Int64) * (((p0).toInt64) + (1 : Int64)))), .second, .val (.long ((4 : Int64) * q1)), .second, .val (.long ((8 : Int64) * q1)), .second, .val (.long ((8 : Int64) * ((p0).toInt64))), .second, .val (.long (0 : Int64)), .second, .unset, .unset]) rfl k) ?_
      show Run _ _ _ _ _ _ _ s₁ (mkF m 68 #[.val (.int p0), .val (.long q1), .second, .val (.int p2), .val (.int z1), .val (.long ((p0).toInt64)), .second, .val (.long ((8 : Int64) * ((p0).toInt64))), .second, .val (.long ((4 : Int64) * (((p0).toInt64) + (1 : Int64)))), .second, .val (.long ((4 : Int64) * q1)), .second, .val (.long ((8 : Int64) * q1)), .second, .val (.long ((8 : Int64) * ((p0).toInt64))), .second, .val (.long (0 : Int64)), .second, .unset, .unset] [])
      refine go (T' := s₁) (f' := (mkF m 71 #[.val (.int p0), .val (.long q1), .second, .val (.int p2), .val (.int z1), .val (.long ((p0).toInt64)), .second, .val (.long ((8 : Int64) * ((p0).toInt64))), .second, .val (.long ((4 : Int64) * (((p0).toInt64) + (1 : Int64)))), .second, .val (.long ((4 : Int64) * q1)), .second, .val (.long ((8 : Int64) * q1)), .second, .val (.long ((8 : Int64) * ((p0).toInt64))), .second, .val (.long (0 : Int64)), .second, .unset, .unset] [(.long (8 : Int64))])) (by intro t k; exact X0.ldc2Long hx hown (mvT hZ (hw _ (List.mem_of_getElem? (i := 0) rfl))) (g := (mkF m 68 #[.val (.int p0), .val (.long q1), .second, .val (.int p2), .val (.int z1), .val (.long ((p0).toInt64)), .second, .val (.long ((8 : Int64) * ((p0).toInt64))), .second, .val (.long ((4 : Int64) * (((p0).toInt64) + (1 : Int64)))), .second, .val (.long ((4 : Int64) * q1)), .second, .val (.long ((8 : Int64) * q1)), .second, .val (.long ((8 : Int64) * ((p0).toInt64))), .second, .val (.long (0 : Int64)), .second, .unset, .unset] [])) rfl (hb hby at_68) _ k) ?_
      show Run _ _ _ _ _ _ _ s₁ (mkF m 71 #[.val (.int p0), .val (.long q1), .second, .val (.int p2), .val (.int z1), .val (.long ((p0).toInt64)), .second, .val (.long ((8 : Int64) * ((p0).toInt64))), .second, .val (.long ((4 : Int64) * (((p0).toInt64) + (1 : Int64)))), .second, .val (.long ((4 : Int64) * q1)), .second, .val (.long ((8 : Int64) * q1)), .second, .val (.long ((8 : Int64) * ((p0).toInt64))), .second, .val (.long (0 : Int64)), .second, .unset, .unset] [(.long (8 : Int64))])
      refine go (T' := s₁) (f' := (mkF m 73 #[.val (.int p0), .val (.long q1), .second, .val (.int p2), .val (.int z1), .val (.long ((p0).toInt64)), .second, .val (.long ((8 : Int64) * ((p0).toInt64))), .second, .val (.long ((4 : Int64) * (((p0).toInt64) + (1 : Int64)))), .second, .val (.long ((4 : Int64) * q1)), .second, .val (.long ((8 : Int64) * q1)), .second, .val (.long ((8 : Int64) * ((p0).toInt64))), .second, .val (.long (0 : Int64)), .second, .unset, .unset] [(.long ((p0).toInt64)), (.long (8 : Int64))])) (by intro t k; exact XS.lload X0.here hx rfl (hb hby at_71) rfl k) ?_
      show Run _ _ _ _ _ _ _ s₁ (mkF m 73 #[.val (.int p0), .val (.long q1), .second, .val (.int p2), .val (.int z1), .val (.long ((p0).toInt64)), .second, .val (.long ((8 : Int64) * ((p0).toInt64))), .second, .val (.long ((4 : Int64) * (((p0).toInt64) + (1 : Int64)))), .second, .val (.long ((4 : Int64) * q1)), .second, .val (.long ((8 : Int64) * q1)), .second, .val (.long ((8 : Int64) * ((p0).toInt64))), .second, .val (.long (0 : Int64)), .second, .unset, .unset] [(.long ((p0).toInt64)), (.long (8 : Int64))])
      refine go (T' := s₁) (f' := (mkF m 74 #[.val (.int p0), .val (.long q1), .second, .val (.int p2), .val (.int z1), .val (.long ((p0).toInt64)), .second, .val (.long ((8 : Int64) * ((p0).toInt64))), .second, .val (.long ((4 : Int64) * (((p0).toInt64) + (1 : Int64)))), .second, .val (.long ((4 : Int64) * q1)), .second, .val (.long ((8 : Int64) * q1)), .second, .val (.long ((8 : Int64) * ((p0).toInt64))), .second, .val (.long (0 : Int64)), .second, .unset, .unset] [(.long ((8 : Int64) * ((p0).toInt64)))])) (by intro t k; exact XS.lmul X0.here hx rfl (hb hby at_73) rfl k) ?_
      show Run _ _ _ _ _ _ _ s₁ (mkF m 74 #[.val (.int p0), .val (.long q1), .second, .val (.int p2), .val (.int z1), .val (.long ((p0).toInt64)), .second, .val (.long ((8 : Int64) * ((p0).toInt64))), .second, .val (.long ((4 : Int64) * (((p0).toInt64) + (1 : Int64)))), .second, .val (.long ((4 : Int64) * q1)), .second, .val (.long ((8 : Int64) * q1)), .second, .val (.long ((8 : Int64) * ((p0).toInt64))), .second, .val (.long (0 : Int64)), .second, .unset, .unset] [(.long ((8 : Int64) * ((p0).toInt64)))])
      refine go (T' := s₁) (f' := (mkF m 76 #[.val (.int p0), .val (.long q1), .second, .val (.int p2), .val (.int z1), .val (.long ((p0).toInt64)), .second, .val (.long ((8 : Int64) * ((p0).toInt64))), .second, .val (.long ((4 : Int64) * (((p0).toInt64) + (1 : Int64)))), .second, .val (.long ((4 : Int64) * q1)), .second, .val (.long ((8 : Int64) * q1)), .second, .val (.long ((8 : Int64) * ((p0).toInt64))), .second, .val (.long ((8 : Int64) * ((p0).toInt64))), .second, .unset, .unset] [])) (by intro t k; exact XS.lstore X0.here hx rfl (hb hby at_74) rfl (l' := #[.val (.int p0), .val (.long q1), .second, .val (.int p2), .val (.int z1), .val (.long ((p0).toInt64)), .second, .val (.long ((8 : Int64) * ((p0).toInt64))), .second, .val (.long ((4 : Int64) * (((p0).toInt64) + (1 : Int64)))), .second, .val (.long ((4 : Int64) * q1)), .second, .val (.long ((8 : Int64) * q1)), .second, .val (.long ((8 : Int64) * ((p0).toInt64))), .second, .val (.long ((8 : Int64) * ((p0).toInt64))), .second, .unset, .unset]) rfl k) ?_
      have ez2 : z2 = ((8 : Int64) * ((p0).toInt64)) := (hz2).trans (if_neg hc57)
      subst ez2
      exact J57
  show Run _ _ _ _ _ _ _ s₁ (mkF m 3 #[.val (.int p0), .val (.long q1), .second, .val (.int p2), .unset, .unset, .unset, .unset, .unset, .unset, .unset, .unset, .unset, .unset, .unset, .unset, .unset, .unset, .unset, .unset, .unset] [(.int (p2 &&& (1 : Int32)))])
  by_cases hc3 : (p2 &&& (1 : Int32)) = (0 : Int32)
  · refine go (T' := s₁) (f' := (mkF m 10 #[.val (.int p0), .val (.long q1), .second, .val (.int p2), .unset, .unset, .unset, .unset, .unset, .unset, .unset, .unset, .unset, .unset, .unset, .unset, .unset, .unset, .unset, .unset, .unset] [])) (by intro t k; exact XS.ifYes X0.here hx rfl (pc0 := 3) (pc' := 10) rfl (hb hby at_3) rfl ((if0 _ _).trans (teq hc3).1) (by decide) (by decide) k) ?_
    show Run _ _ _ _ _ _ _ s₁ (mkF m 10 #[.val (.int p0), .val (.long q1), .second, .val (.int p2), .unset, .unset, .unset, .unset, .unset, .unset, .unset, .unset, .unset, .unset, .unset, .unset, .unset, .unset, .unset, .unset, .unset] [])
    refine go (T' := s₁) (f' := (mkF m 11 #[.val (.int p0), .val (.long q1), .second, .val (.int p2), .unset, .unset, .unset, .unset, .unset, .unset, .unset, .unset, .unset, .unset, .unset, .unset, .unset, .unset, .unset, .unset, .unset] [(.int (0 : Int32))])) (by intro t k; exact XS.iconst X0.here hx rfl (hb hby at_10) k) ?_
    have ez1 : z1 = (0 : Int32) := (hz1).trans (if_pos hc3)
    subst ez1
    exact J3
  · refine go (T' := s₁) (f' := (mkF m 6 #[.val (.int p0), .val (.long q1), .second, .val (.int p2), .unset, .unset, .unset, .unset, .unset, .unset, .unset, .unset, .unset, .unset, .unset, .unset, .unset, .unset, .unset, .unset, .unset] [])) (by intro t k; exact XS.ifNo X0.here hx rfl (hb hby at_3) rfl ((if0 _ _).trans (feq hc3).1) k) ?_
    show Run _ _ _ _ _ _ _ s₁ (mkF m 6 #[.val (.int p0), .val (.long q1), .second, .val (.int p2), .unset, .unset, .unset, .unset, .unset, .unset, .unset, .unset, .unset, .unset, .unset, .unset, .unset, .unset, .unset, .unset, .unset] [])
    refine go (T' := s₁) (f' := (mkF m 7 #[.val (.int p0), .val (.long q1), .second, .val (.int p2), .unset, .unset, .unset, .unset, .unset, .unset, .unset, .unset, .unset, .unset, .unset, .unset, .unset, .unset, .unset, .unset, .unset] [(.int (1 : Int32))])) (by intro t k; exact XS.iconst X0.here hx rfl (hb hby at_6) k) ?_
    show Run _ _ _ _ _ _ _ s₁ (mkF m 7 #[.val (.int p0), .val (.long q1), .second, .val (.int p2), .unset, .unset, .unset, .unset, .unset, .unset, .unset, .unset, .unset, .unset, .unset, .unset, .unset, .unset, .unset, .unset, .unset] [(.int (1 : Int32))])
    refine go (T' := s₁) (f' := (mkF m 11 #[.val (.int p0), .val (.long q1), .second, .val (.int p2), .unset, .unset, .unset, .unset, .unset, .unset, .unset, .unset, .unset, .unset, .unset, .unset, .unset, .unset, .unset, .unset, .unset] [(.int (1 : Int32))])) (by intro t k; exact XS.goto X0.here hx rfl (pc0 := 7) (pc' := 11) rfl (hb hby at_7) (by decide) (by decide) k) ?_
    have ez1 : z1 = (1 : Int32) := (hz1).trans (if_neg hc3)
    subst ez1
    exact J3
set_option maxRecDepth 65536 in
set_option maxHeartbeats 40000000 in
theorem comes_1 {Post : Tables → Env → Array Value → State → Outcome → State → Prop} (hpost : ∀ tb e args s v u, (limb_1_1.after args s (.returned v) u = true ∧ limb_1_2.after args s (.returned v) u = true ∧ True) → FrameEnd s (.returned v) u (Jvm.fieldLocs frame_1_writes args s ++ Jvm.arrayLocs frame_1_arrays args s ++ Jvm.staticLocs frame_1_statics s) 0 0 → Post tb e args s (.returned v) u) :
    ArmFor flags0 classFile x code maxLocals ret World_1 tables_1 room_1 Calls_1 rest_1 Pre_1 Post := by
  intro l hfl _ _ p e ha hc hk s m args below hf hA hF happ hP
  obtain ⟨hcalls, hrest, hpre⟩ := hP
  obtain ⟨-, -, -, hnamed, -, -, -, hat⟩ := (Spec.applies_iff hf).mp happ
  obtain ⟨hg, hn⟩ := and_e (Cond.before_iff.mp (show (Jvm.Cond.and given_1 narrow_1).before args s = true from hpre))
  obtain ⟨g1, g2⟩ := and_e hg
  obtain ⟨g3, g4⟩ := and_e g2
  obtain ⟨g5, g6⟩ := and_e g4
  obtain ⟨w0, w1, w2, rfl⟩ : ∃ w0 w1 w2 : Value, args = #[w0, w1, w2] := by
    have hs : args.size = 3 := by simpa [Cond.value, given_1] using g1
    obtain ⟨L⟩ := args
    match L, hs with
    | [w0, w1, w2], _ => exact ⟨w0, w1, w2, rfl⟩
  have hw := fun d (hd : d ∈ tables_1) => atoms_spec (ws := Jvm.Cond.code x code maxLocals ret :: tables_1) hat d (List.mem_cons_of_mem _ hd)
  have hfit : Fit s := fun {y c} hc i hi => by
    obtain ⟨ha, rfl⟩ := Array.getElem?_eq_some_iff.mp hc
    have q := List.all_eq_true.mp ((Array.all_eq_true_iff_forall_mem.mp hF) _ (Array.getElem_mem ha)) i (List.mem_range.mpr hi)
    simpa [Array.getElem?_eq_getElem hi] using q
  obtain ⟨i0, ei0⟩ := is_v g3
  obtain rfl : w0 = (.int i0) := Option.some.inj ei0
  obtain ⟨i1, ei1⟩ := isL_v g5
  obtain rfl : w1 = (.long i1) := Option.some.inj ei1
  obtain ⟨i2, ei2⟩ := is_v g6
  obtain rfl : w2 = (.int i2) := Option.some.inj ei2
  obtain ⟨n, o, h1, h2, h3, _, L, rfl, ⟨rfl, N⟩, hq⟩ := rm0 l s _ hw tables_1 i0 i1 i2 s.heap s.heap.size (Nat.le_refl _) p e ha hc hk s m _ below hf ((Spec.applies_iff_loose hf).mp happ).1 ⟨rfl, State.Warmed39.refl s, rfl⟩ trivial
  refine ⟨n, _, h1, h2, h3, hpost _ _ _ _ _ _ ⟨Cond.after_iff.mpr rfl, Cond.after_iff.mpr (eq_i res_at (Term.int_eval (1)) rfl), trivial⟩ ⟨hq.1, hq.2.1, (hq.2.2.sift fun y hy => Or.inr (N y hy)).mono (by decide) (by decide)⟩⟩
theorem main_1_1 : Claimed_1_1 := comes_1 fun _ _ _ _ _ _ h hF => ⟨h.1, hF⟩
theorem main_1_2 : Claimed_1_2 := comes_1 fun _ _ _ _ _ _ h hF => ⟨h.2.1, hF⟩
end Jvm.Pilot.@@N@@
namespace Jvm.Pilot.@@N@@
open Jvm Jvm.ClassFile Sem Op Lib Jvm.Free Jvm.Stand Jvm.Pilot.@@N@@.Jvm.D
/-! MADE BY PROGRAM (witnessworld.py) out of the Statement's table words and the real class files: 9 classes; the members and pool entries that the words name. The judged class is class 1, her method 1. -/
namespace start1
open Jvm.ClassFile
def u (s : String) : CpInfo := .utf8 (stringToUtf16 s)
/-- a pool by its gaps: so many unusable entries, then the entry; so many at the end -/
def gap : Nat → List CpInfo → List CpInfo
  | 0, r => r
  | n + 1, r => .unusable :: gap n r
def poolList (es : List (Nat × CpInfo)) (last : Nat) : List CpInfo := es.foldr (fun e r => gap e.1 (e.2 :: r)) (gap last [])
def pool (es : List (Nat × CpInfo)) (last : Nat) : Array CpInfo := ⟨poolList es last⟩
def fileOf (pool : Array CpInfo) (this : Nat) (attrs : Array Attribute := #[]) (ms : Array MethodInfo := #[]) (fl : Nat := 33) (sup : Nat := 0) (ifs : Array Nat := #[]) (fds : Array FieldInfo := #[]) : ClassFile where
  minorVersion := 0
  majorVersion := 65
  constantPool := pool
  accessFlags := fl
  thisClass := this
  superClass := sup
  interfaces := ifs
  fields := fds
  methods := ms
  attributes := attrs
def plain (name : String) (sup : Option ClassId) : Class where
  name := name
  kind := .ordinary
  loader := none
  accessFlags := 33
  super := sup
  interfaces := #[]
  cf := none
  fields := #[]
  methods := #[]
  instanceTypes := #[]
  staticTypes := #[]
  resolved := #[]
  callSites := []
  init := .initialized
  statics := none
  mirror := none

def pool0 : Array CpInfo := pool [(5, u "<init>"), (0, u "()V"), (1, .class_ 10), (1, u "java/lang/Object")] 113

def k0m0 : Method := { name := "<init>", desc := "()V", sig := { parameters := [], returnType := none }, accessFlags := 1, code := none }
/-- java/lang/Object -/
def k0 : Class := { plain "java/lang/Object" none with
  accessFlags := 33
  interfaces := #[]
  cf := some (fileOf pool0 8 #[] #[{ accessFlags := 1, nameIndex := 5, descriptorIndex := 6, attributes := #[] }] 33 0 #[] #[])
  fields := #[]
  methods := #[k0m0]
  instanceTypes := #[]
  staticTypes := #[]
  resolved := Array.replicate 124 none
  statics := none }

def pool1 : Array CpInfo := pool [(2, .class_ 4), (1, u "java/lang/Object"), (0, u "<init>"), (0, u "()V"), (0, .long 8), (1, .long 4), (1, .methodref 12 13), (0, .class_ 14), (0, .nameAndType 15 16), (0, u "com/example/wayshard/wayshard/model/RoadGraph"), (0, u "sizeInBytes"), (0, u "(IJZ)J"), (0, .class_ 18), (0, u "com/example/wayshard/wayshard/model/RoadGraphSizeInBytesPinLaw"), (2, u "law"), (0, u "(IJI)Z")] 3

def k1m0 : Method := { name := "<init>", desc := "()V", sig := { parameters := [], returnType := none }, accessFlags := 1, code := none }
def k1c1 : Code := { maxStack := 6, maxLocals := 21, code := code, exceptionTable := #[], attributes := #[] }
def k1m1 : Method := { name := "law", desc := "(IJI)Z", sig := { parameters := [.int, .long, .int], returnType := some .boolean }, accessFlags := 9, code := some k1c1 }
/-- com/example/wayshard/wayshard/model/RoadGraphSizeInBytesPinLaw -/
def k1 : Class := { plain "com/example/wayshard/wayshard/model/RoadGraphSizeInBytesPinLaw" (some 0) with
  accessFlags := 49
  interfaces := #[]
  cf := some (fileOf pool1 17 #[] #[{ accessFlags := 1, nameIndex := 5, descriptorIndex := 6, attributes := #[] }, { accessFlags := 9, nameIndex := 21, descriptorIndex := 22, attributes := #[] }] 49 2 #[] #[])
  fields := #[]
  methods := #[k1m0, k1m1]
  instanceTypes := #[]
  staticTypes := #[]
  resolved := Array.replicate 26 none
  statics := none }

def pool2 : Array CpInfo := pool [(2, .class_ 4), (1, u "java/lang/Object"), (6, .class_ 13), (1, u "com/example/wayshard/wayshard/model/RoadGraph"), (0, u "attachments"), (0, u "Ljava/util/Map;"), (2, u "ids"), (0, u "[J"), (2, u "latitudes"), (0, u "[D"), (2, u "longitudes"), (2, u "greatCircleShare"), (0, u "D"), (1, .class_ 34), (1, u "com/example/wayshard/wayshard/model/RoadGraph$Arcs"), (0, u "firstArcs"), (3, u "[I"), (2, u "heads"), (4, u "lengths"), (3, .long 28), (1, .long 12), (1, .long 4), (91, u "sizeInBytes"), (0, u "(IJZ)J"), (30, .class_ 180), (0, u "com/example/wayshard/wayshard/model/RoadGraph$Builder")] 38

def k2c0 : Code := { maxStack := 6, maxLocals := 6, code := prog_30_method_2_code, exceptionTable := #[], attributes := #[] }
def k2m0 : Method := { name := "sizeInBytes", desc := "(IJZ)J", sig := { parameters := [.int, .long, .boolean], returnType := some .long }, accessFlags := 9, code := some k2c0 }
/-- com/example/wayshard/wayshard/model/RoadGraph -/
def k2 : Class := { plain "com/example/wayshard/wayshard/model/RoadGraph" (some 0) with
  accessFlags := 49
  interfaces := #[]
  cf := some (fileOf pool2 11 #[.nestMembers #[179, 32]] #[{ accessFlags := 9, nameIndex := 147, descriptorIndex := 148, attributes := #[] }] 49 2 #[] #[{ accessFlags := 18, nameIndex := 14, descriptorIndex := 15, attributes := #[] }, { accessFlags := 18, nameIndex := 18, descriptorIndex := 19, attributes := #[] }, { accessFlags := 18, nameIndex := 22, descriptorIndex := 23, attributes := #[] }, { accessFlags := 18, nameIndex := 26, descriptorIndex := 23, attributes := #[] }, { accessFlags := 18, nameIndex := 29, descriptorIndex := 30, attributes := #[] }, { accessFlags := 18, nameIndex := 35, descriptorIndex := 39, attributes := #[] }, { accessFlags := 18, nameIndex := 42, descriptorIndex := 39, attributes := #[] }, { accessFlags := 18, nameIndex := 47, descriptorIndex := 23, attributes := #[] }])
  fields := #[{ name := "attachments", type := (.object "java/util/Map"), accessFlags := 18, slot := 0, constantValue := 0 }, { name := "ids", type := (.array .long), accessFlags := 18, slot := 1, constantValue := 0 }, { name := "latitudes", type := (.array .double), accessFlags := 18, slot := 2, constantValue := 0 }, { name := "longitudes", type := (.array .double), accessFlags := 18, slot := 3, constantValue := 0 }, { name := "greatCircleShare", type := .double, accessFlags := 18, slot := 4, constantValue := 0 }, { name := "firstArcs", type := (.array .int), accessFlags := 18, slot := 5, constantValue := 0 }, { name := "heads", type := (.array .int), accessFlags := 18, slot := 6, constantValue := 0 }, { name := "lengths", type := (.array .double), accessFlags := 18, slot := 7, constantValue := 0 }]
  methods := #[k2m0]
  instanceTypes := #[(.object "java/util/Map"), (.array .long), (.array .double), (.array .double), .double, (.array .int), (.array .int), (.array .double)]
  staticTypes := #[]
  resolved := Array.replicate 219 none
  statics := none }

def pool3 : Array CpInfo := pool [(1, u "java/lang/Cloneable"), (0, .class_ 1), (0, u "java/lang/Object"), (0, .class_ 3)] 3

/-- java/lang/Cloneable -/
def k3 : Class := { plain "java/lang/Cloneable" (some 0) with
  accessFlags := 1537
  interfaces := #[]
  cf := some (fileOf pool3 2 #[] #[] 1537 4 #[] #[])
  fields := #[]
  methods := #[]
  instanceTypes := #[]
  staticTypes := #[]
  resolved := Array.replicate 8 none
  statics := none }

def pool4 : Array CpInfo := pool [(1, u "java/io/Serializable"), (0, .class_ 1), (0, u "java/lang/Object"), (0, .class_ 3)] 3

/-- java/io/Serializable -/
def k4 : Class := { plain "java/io/Serializable" (some 0) with
  accessFlags := 1537
  interfaces := #[]
  cf := some (fileOf pool4 2 #[] #[] 1537 4 #[] #[])
  fields := #[]
  methods := #[]
  instanceTypes := #[]
  staticTypes := #[]
  resolved := Array.replicate 8 none
  statics := none }

/-- the primitive byte -/
def k5 : Class := { plain "byte" none with kind := .primitive 'B', accessFlags := 0x411 }
/-- [B -/
def k6 : Class := { plain "[B" (some 0) with kind := .array 5 .byte, interfaces := #[3, 4], accessFlags := 1041 }

/-- the primitive int -/
def k7 : Class := { plain "int" none with kind := .primitive 'I', accessFlags := 0x411 }
/-- [I -/
def k8 : Class := { plain "[I" (some 0) with kind := .array 7 .int, interfaces := #[3, 4], accessFlags := 1041 }

def heap : Heap := #[]
def classes : Array Class := #[k0, k1, k2, k3, k4, k5, k6, k7, k8]
def interned : List (Array UInt16 × Addr) := []
def slotsUsed : Nat := 0
def theMethod : MethodId := ⟨1, 1⟩
def args0 : Array Value := #[.int 5, .long 7, .int 1]
def aboutOver (below : List Frame) : State where
  vm := { classes := classes, interned := interned.toArray }
  heap := heap
  slotsUsed := slotsUsed
  threads := #[{ frames := .invoking theMethod args0 :: below }]
def below0 : List Frame := [.native { method := ⟨0, 0⟩, args := #[] }]
def about1 : State := aboutOver below0
def p0 : Program := .bare "" "" ""
def e0 : Env := launch0.env 0 0 0
theorem w_frames : about1.frames = Frame.invoking theMethod args0 :: below0 := rfl
set_option maxRecDepth 65536 in
theorem w_args : argsFit about1.vm theMethod args0 = true := by decide +kernel
set_option maxRecDepth 65536 in
theorem w_heap : heapFits about1 = true := by decide +kernel
set_option maxRecDepth 65536 in
theorem w_runnable : about1.curStatus? = some .runnable := by decide +kernel
set_option maxRecDepth 65536 in
theorem w_alone : about1.alone = true := by decide +kernel
set_option maxRecDepth 65536 in
theorem w_named : about1.methodNamed? x = some theMethod := by decide +kernel
set_option maxRecDepth 65536 in
theorem w_hears : about1.hears theMethod below0 = true := by decide +kernel
set_option maxRecDepth 65536 in
theorem w_ripe : about1.ripe theMethod args0 below0 = true := by decide +kernel
theorem w_running : about1.status = .running := rfl
set_option maxRecDepth 65536 in
theorem w_room : about1.hasRoom e0.platform room_1 = true :=
  launch0.hasRoom_least _ room_1 (by decide +kernel) (by decide +kernel) (by decide +kernel) (by decide +kernel) (by decide +kernel) (by decide +kernel)
theorem allAtoms_all (ts : List Jvm.Cond) (a : Array Jvm.Value) (st : Jvm.State) : (allAtoms ts).before a st = ts.all (fun c => c.before a st) := by
  induction ts with
  | nil => rfl
  | cons c t ih =>
    show (Jvm.Cond.and c (allAtoms t)).before a st = _
    rw [Jvm.Cond.before_and, ih, List.all_cons]
def words1 : List Jvm.Cond := Jvm.Cond.code x code maxLocals ret :: tables_1
/-- a 'code' word, met by the world's own term for the bytes: nothing is compared byte by byte -/
theorem code_word {y : MethodName} {bytes : ByteArray} {mx : Nat} {rt : Option FieldType} {a : Array Value} {s : State} {m : MethodId} {meth : Method} {c : Code} (h1 : s.methodNamed? y = some m) (h2 : s.vm.method? m = some meth) (h3 : meth.code = some c) (h4 : c.code = bytes)
    (h5 : (c.maxLocals == mx && c.exceptionTable.isEmpty && decide (c.maxStack ≤ mostOperands) && decide (meth.sig.returnType = rt) && !meth.locks && decide (parseMethodDescriptor y.desc = some meth.sig)) = true) : (Jvm.Cond.code y bytes mx rt).before a s = true := by
  simp only [Bool.and_eq_true, beq_iff_eq, Bool.not_eq_true', decide_eq_true_eq] at h5
  obtain ⟨⟨⟨⟨⟨g1, g2⟩, g3⟩, g4⟩, g5⟩, g6⟩ := h5
  simp [Cond.before, Cond.holds, Cond.value, h1, h2, h3, h4, g1, g2, g3, g4, g5, g6]
def isCode : Jvm.Cond → Bool
  | .code _ _ _ _ => true
  | _ => false
theorem all_split {L : List Jvm.Cond} {P : Jvm.Cond → Bool} (h1 : L.all (fun c => isCode c || P c) = true) (h2 : ∀ c ∈ L.filter isCode, P c = true) : L.all P = true := by
  refine List.all_eq_true.mpr fun c hc => ?_
  have h := List.all_eq_true.mp h1 c hc
  rcases Bool.eq_false_or_eq_true (isCode c) with hi | hi
  · exact h2 c (List.mem_filter.mpr ⟨hc, hi⟩)
  · simpa [hi] using h
set_option maxRecDepth 65536 in
theorem w_c0 : (Jvm.Cond.code x code maxLocals ret).before args0 about1 = true := code_word (m := ⟨1, 1⟩) (meth := k1m1) (c := k1c1) (by decide +kernel) rfl rfl rfl (by decide +kernel)
set_option maxRecDepth 65536 in
theorem w_c1 : (Jvm.Cond.code ({ cls := "com/example/wayshard/wayshard/model/RoadGraph", name := "sizeInBytes", desc := "(IJZ)J" } : Jvm.MethodName) prog_30_method_2_code (6 : Nat) (Option.some Jvm.ClassFile.FieldType.long)).before args0 about1 = true := code_word (m := ⟨2, 0⟩) (meth := k2m0) (c := k2c0) (by decide +kernel) rfl rfl rfl (by decide +kernel)
def codes1 : List Jvm.Cond := [Jvm.Cond.code x code maxLocals ret, Jvm.Cond.code ({ cls := "com/example/wayshard/wayshard/model/RoadGraph", name := "sizeInBytes", desc := "(IJZ)J" } : Jvm.MethodName) prog_30_method_2_code (6 : Nat) (Option.some Jvm.ClassFile.FieldType.long)]
set_option maxRecDepth 65536 in
theorem codes_eq : words1.filter isCode = codes1 := rfl
theorem w_codes : ∀ c ∈ words1.filter isCode, c.before args0 about1 = true := by
  rw [codes_eq]
  intro c hc
  simp only [codes1, List.mem_cons, List.not_mem_nil, or_false] at hc
  rcases hc with rfl | rfl
  · exact w_c0
  · exact w_c1
set_option maxRecDepth 65536 in
theorem w_t1 : words1.all (fun c => isCode c || c.before args0 about1) = true := by decide +kernel
theorem w_tables : (allAtoms (Jvm.Cond.code x code maxLocals ret :: tables_1)).before args0 about1 = true := by
  rw [allAtoms_all]
  show words1.all (fun c => c.before args0 about1) = true
  refine all_split ?_ w_codes
  rw [w_t1]
set_option maxRecDepth 65536 in
theorem w_case : (Jvm.Cond.and given_1 narrow_1).before args0 about1 = true := by decide +kernel
theorem w_applies : (headSpec (Jvm.Cond.code x code maxLocals ret :: tables_1) room_1).applies x e0.platform about1 = true :=
  (Spec.applies_iff w_frames).mpr ⟨w_running, w_runnable, w_alone, w_named, w_hears, w_ripe, w_room, w_tables⟩
theorem atStart : AtStart classFile x code maxLocals ret World_1 tables_1 room_1 Calls_1 rest_1 Pre_1 launch0 p0 e0 about1 theMethod args0 below0 :=
  ⟨lists_1, trivial, launch0.admits_env _ _ _, launch0.least_env, fairChoices_fair.cas, fairChoices_fair.clock, w_frames, w_args, w_heap, w_applies, trivial, trivial, w_case⟩
end start1
theorem witness_1 : WitnessClaimed_1 := ⟨start1.p0, start1.e0, start1.about1, start1.theMethod, start1.args0, start1.below0, start1.atStart⟩
end Jvm.Pilot.@@N@@
