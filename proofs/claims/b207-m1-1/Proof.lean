import JvmDerived
import JvmDerived.Pilot.@@N@@Statement
import JvmDerived.Pilot.@@N@@Code
set_option linter.unusedVariables false
set_option linter.unusedSimpArgs false
namespace Jvm.Own
open Sem ClassFile Op Lib Jvm.Stand Jvm.Free Jvm.LawKit Jvm.RoadKit
/-- from the frame f over T the run ends in a return that Q speaks of -/
def Run (p : Program) (e : Env) (s : State) (below : List Frame) (Q : Option Value → Heap → List Loc → Prop) (cm sm : Nat) (T : State) (f : JFrame) : Prop :=
  ∃ s₂ o, Steps p.tables e below (T.setTop f) s₂ ∧ s₂.status = .running ∧ Ended s₂ below o ∧ ∃ v L, o = .returned v ∧ Q v s₂.heap L ∧ FrameEnd s o s₂ L cm sm
section Own
variable {p : Program} {l : Launch} {e : Env} {R : Room} {s : State} {m : MethodId} {args : Array Value} {below : List Frame} {meth : Method} {c : Code} {T : State} {locs : List Loc} {cells slots : Nat} {Q : Option Value → Heap → List Loc → Prop} {cm sm : Nat}
theorem go {T' : State} {f f' : JFrame} (st : ∀ target, Steps p.tables e below (T'.setTop f') target → Steps p.tables e below (T.setTop f) target) (k : Run p e s below Q cm sm T' f') : Run p e s below Q cm sm T f := by
  obtain ⟨s₂, o, h, r⟩ := k
  exact ⟨s₂, o, st _ h, r⟩
theorem retZ (X : Stand p l e R s m args below meth c T locs cells slots) (hx : p.tables.exec = Jvm.exec) {pc : Nat} {Ls : Array Slot} {z : Int32} {t : FieldType} {rest : List Value} (hret : meth.sig.returnType = some t) (ht : t = .boolean ∨ t = .byte ∨ t = .char ∨ t = .short)
    (hd : decode c.code pc = .ok (.ireturn, 1)) (hlk : meth.locks = false) (hc : cells ≤ cm) (hs : slots ≤ sm) (hq : Q (some (.int (nar t z))) T.heap locs) : Run p e s below Q cm sm T (mkF m pc Ls (.int z :: rest)) := by
  obtain ⟨fs, hr, hrun, hended, hW, hsame⟩ := X.leave (v := some (.int (nar t z))) (fun h => by rw [hret] at h; cases h) hlk
  exact ⟨_, _, retN X hx hret ht hd hr, hrun, hended, _, _, rfl, hq, ⟨_, rfl⟩, hW, hsame.mono hc hs⟩
theorem retW (X : Stand p l e R s m args below meth c T locs cells slots) (hx : p.tables.exec = Jvm.exec) {pc : Nat} {Ls : Array Slot} {w : Value} {t : FieldType} {i : Instr} {rest : List Value} (hret : meth.sig.returnType = some t) (hn : narrow t w = w)
    (hi : (i = .ireturn ∧ (t = .int ∨ t = .boolean ∨ t = .byte ∨ t = .char ∨ t = .short) ∧ ∃ z, w = .int z) ∨ (i = .lreturn ∧ t = .long ∧ ∃ z, w = .long z) ∨ (i = .dreturn ∧ t = .double ∧ ∃ z, w = .double z) ∨ (i = .freturn ∧ t = .float ∧ ∃ z, w = .float z) ∨ (i = .areturn ∧ t.isReference = true ∧ w.isRef = true))
    (hd : decode c.code pc = .ok (i, 1)) (hlk : meth.locks = false) (hc : cells ≤ cm) (hs : slots ≤ sm) (hq : Q (some w) T.heap locs) : Run p e s below Q cm sm T (mkF m pc Ls (w :: rest)) := by
  obtain ⟨fs, hr, hrun, hended, hW, hsame⟩ := X.leave (v := some w) (fun h => by rw [hret] at h; cases h) hlk
  exact ⟨_, _, retOut X hx hret hn hi hd hr, hrun, hended, _, _, rfl, hq, ⟨_, rfl⟩, hW, hsame.mono hc hs⟩
theorem retV (X : Stand p l e R s m args below meth c T locs cells slots) (hx : p.tables.exec = Jvm.exec) {pc : Nat} {Ls : Array Slot} (hret : meth.sig.returnType = none)
    (hd : decode c.code pc = .ok (.return_, 1)) (hlk : meth.locks = false) (hc : cells ≤ cm) (hs : slots ≤ sm) (hq : Q none T.heap locs) : Run p e s below Q cm sm T (mkF m pc Ls []) := by
  obtain ⟨fs, hr, hrun, hended, hW, hsame⟩ := X.leave (v := none) (fun _ => rfl) hlk
  exact ⟨_, _, X.returnOut hx hret hd hr, hrun, hended, _, _, rfl, hq, ⟨_, rfl⟩, hW, hsame.mono hc hs⟩
end Own
section Heap
variable {Z : State} {h h' h0 : Heap} {a b : Addr} {ty : FieldType} {vs : List Value} {ws ws' : List Addr} {v : Value} {k : ClassId} {z j : Int32}
/-- an array and all that it holds -/
def Ary (Z : State) (h : Heap) (a : Addr) (ty : FieldType) (vs : List Value) : Prop := ∃ c : Cell, Arr Z h a c ty ∧ c.slots.toList = vs ∧ vs.length < 2147483648 ∧ ∀ v ∈ vs, fits ty v = true
theorem Ary.lt (A : Ary Z h a ty vs) : a < h.size := by obtain ⟨c, A, -⟩ := A; exact A.lt
theorem Ary.ext (A : Ary Z h a ty vs) (E : Ext h h') : Ary Z h' a ty vs := by obtain ⟨c, A, r⟩ := A; exact ⟨c, A.ext E, r⟩
theorem Ary.keep (A : Ary Z h a ty vs) (K : Keep h h' ws) (q : a ∉ ws) : Ary Z h' a ty vs := by obtain ⟨c, A, r⟩ := A; exact ⟨c, ⟨K.2.1 a c A.1 q, A.2⟩, r⟩
theorem Ary.set (A : Ary Z h a ty vs) {i : Nat} (W : Wr h h' a i v) (hv : fits ty v = true) : Ary Z h' a ty (vs.set i v) := by
  obtain ⟨c, A, e, l, f⟩ := A
  refine ⟨_, A.same W, by simp [Cell.setSlot, e], by simpa using l, fun w hw => ?_⟩
  rcases List.mem_or_eq_of_mem_set hw with q | rfl
  · exact f w q
  · exact hv
theorem Ary.ld (A : Ary Z h a ty vs) (hj : ¬ j < 0) (hv : vs[j.toNatClampNeg]? = some v) : ∃ c : Cell, Arr Z h a c ty ∧ ¬ (j < 0 ∨ c.slots.size ≤ j.toNatClampNeg) ∧ c.slots[j.toNatClampNeg]? = some v := by
  obtain ⟨c, A, e, l, f⟩ := A
  have q : c.slots[j.toNatClampNeg]? = some v := by rw [← Array.getElem?_toList, e]; exact hv
  exact ⟨c, A, fun r => r.elim hj fun y => absurd (Array.getElem?_eq_some_iff.mp q).1 (Nat.not_lt.mpr y), q⟩
theorem Ary.st (A : Ary Z h a ty vs) (hj : ¬ j < 0) (hl : j.toNatClampNeg < vs.length) : ∃ c : Cell, Arr Z h a c ty ∧ ¬ (j < 0 ∨ c.slots.size ≤ j.toNatClampNeg) := by
  obtain ⟨c, A, e, l, f⟩ := A
  refine ⟨c, A, fun r => r.elim hj fun y => ?_⟩
  rw [← e, Array.length_toList] at hl
  omega
theorem Ary.len (A : Ary Z h a ty vs) : ∃ c : Cell, Arr Z h a c ty ∧ c.slots.size.toInt32 = vs.length.toInt32 := by
  obtain ⟨c, A, e, l, f⟩ := A
  exact ⟨c, A, by rw [← e, Array.length_toList]⟩
theorem Ary.new (A : Arr Z h a (newA k ty z) ty) : Ary Z h a ty (List.replicate z.toNatClampNeg (defaultValue ty)) := by
  refine ⟨_, A, by simp [newA], ?_, fun v hv => ?_⟩
  · rw [List.length_replicate]
    have := Int32.toInt_lt z
    simp only [Int32.toNatClampNeg]
    omega
  · rw [List.eq_of_mem_replicate hv]
    cases ty <;> rfl
theorem Ary.fit (A : Ary Z h a ty vs) : ∃ c : Cell, Arr Z h a c ty ∧ FitC Z c ∧ c.slots.toList = vs ∧ c.slots.size = vs.length ∧ (Arr Z h' b (cloneOf c) ty → Ary Z h' b ty vs) := by
  obtain ⟨c, A, e, l, f⟩ := A
  refine ⟨c, A, fitC_of A fun i hi v hv => ?_, e, by rw [← e, Array.length_toList], fun B => ⟨_, B, e, l, f⟩⟩
  refine f v ?_
  rw [← e]
  exact List.mem_of_getElem? (by rw [Array.getElem?_toList]; exact hv)
theorem ldI {p : Program} {l : Launch} {e : Env} {R : Room} {s : State} {m : MethodId} {args : Array Value} {below : List Frame} {meth : Method} {c : Code} {T : State} {locs : List Loc} {cells slots : Nat} (X : Stand p l e R s m args below meth c T locs cells slots) (hx : p.tables.exec = Jvm.exec) (hZ : Z.Warmed39 s.vm) (eT : T.heap = h) (A : Ary Z h a .int vs) (hj : ¬ j < 0) (hv : vs[j.toNatClampNeg]? = some v) {g : JFrame} (hg : g.method = m) {rest : List Value} (hs : g.stack = .int j :: .ref a :: rest) (hd : decode c.code g.pc = .ok (.iaload, 1)) (target : State)
    (hr : Steps p.tables e below (T.setTop { g with pc := g.pc + 1, stack := v :: rest }) target) : Steps p.tables e below (T.setTop g) target := by
  obtain ⟨cl, Ar, hin, hat⟩ := A.ld hj hv
  exact X.iaload hx (by rw [eT]; exact Ar.1) (State.isArrayOf_alike hZ.alike Ar.2.1) Ar.2.2 hin hat hg hs hd target hr
theorem ldJ {p : Program} {l : Launch} {e : Env} {R : Room} {s : State} {m : MethodId} {args : Array Value} {below : List Frame} {meth : Method} {c : Code} {T : State} {locs : List Loc} {cells slots : Nat} (X : Stand p l e R s m args below meth c T locs cells slots) (hx : p.tables.exec = Jvm.exec) (hZ : Z.Warmed39 s.vm) (eT : T.heap = h) (A : Ary Z h a .long vs) (hj : ¬ j < 0) (hv : vs[j.toNatClampNeg]? = some v) {g : JFrame} (hg : g.method = m) {rest : List Value} (hs : g.stack = .int j :: .ref a :: rest) (hd : decode c.code g.pc = .ok (.laload, 1)) (target : State)
    (hr : Steps p.tables e below (T.setTop { g with pc := g.pc + 1, stack := v :: rest }) target) : Steps p.tables e below (T.setTop g) target := by
  obtain ⟨cl, Ar, hin, hat⟩ := A.ld hj hv
  exact X.laload hx (by rw [eT]; exact Ar.1) (State.isArrayOf_alike hZ.alike Ar.2.1) Ar.2.2 hin hat hg hs hd target hr
theorem ldC {p : Program} {l : Launch} {e : Env} {R : Room} {s : State} {m : MethodId} {args : Array Value} {below : List Frame} {meth : Method} {c : Code} {T : State} {locs : List Loc} {cells slots : Nat} (X : Stand p l e R s m args below meth c T locs cells slots) (hx : p.tables.exec = Jvm.exec) (hZ : Z.Warmed39 s.vm) (eT : T.heap = h) (A : Ary Z h a .char vs) (hj : ¬ j < 0) (hv : vs[j.toNatClampNeg]? = some v) {g : JFrame} (hg : g.method = m) {rest : List Value} (hs : g.stack = .int j :: .ref a :: rest) (hd : decode c.code g.pc = .ok (.caload, 1)) (target : State)
    (hr : Steps p.tables e below (T.setTop { g with pc := g.pc + 1, stack := v :: rest }) target) : Steps p.tables e below (T.setTop g) target := by
  obtain ⟨cl, Ar, hin, hat⟩ := A.ld hj hv
  exact X.caload hx (by rw [eT]; exact Ar.1) (State.isArrayOf_alike hZ.alike Ar.2.1) Ar.2.2 hin hat hg hs hd target hr
theorem ldB {p : Program} {l : Launch} {e : Env} {R : Room} {s : State} {m : MethodId} {args : Array Value} {below : List Frame} {meth : Method} {c : Code} {T : State} {locs : List Loc} {cells slots : Nat} (X : Stand p l e R s m args below meth c T locs cells slots) (hx : p.tables.exec = Jvm.exec) (hZ : Z.Warmed39 s.vm) (eT : T.heap = h) (A : Ary Z h a .byte vs) (hj : ¬ j < 0) (hv : vs[j.toNatClampNeg]? = some v) {g : JFrame} (hg : g.method = m) {rest : List Value} (hs : g.stack = .int j :: .ref a :: rest) (hd : decode c.code g.pc = .ok (.baload, 1)) (target : State)
    (hr : Steps p.tables e below (T.setTop { g with pc := g.pc + 1, stack := v :: rest }) target) : Steps p.tables e below (T.setTop g) target := by
  obtain ⟨cl, Ar, hin, hat⟩ := A.ld hj hv
  exact X.baloadBytes hx (by rw [eT]; exact Ar.1) (State.isArrayOf_alike hZ.alike Ar.2.1) Ar.2.2 hin hat hg hs hd target hr
theorem ldZ {p : Program} {l : Launch} {e : Env} {R : Room} {s : State} {m : MethodId} {args : Array Value} {below : List Frame} {meth : Method} {c : Code} {T : State} {locs : List Loc} {cells slots : Nat} (X : Stand p l e R s m args below meth c T locs cells slots) (hx : p.tables.exec = Jvm.exec) (hZ : Z.Warmed39 s.vm) (eT : T.heap = h) (A : Ary Z h a .boolean vs) (hj : ¬ j < 0) (hv : vs[j.toNatClampNeg]? = some v) {g : JFrame} (hg : g.method = m) {rest : List Value} (hs : g.stack = .int j :: .ref a :: rest) (hd : decode c.code g.pc = .ok (.baload, 1)) (target : State)
    (hr : Steps p.tables e below (T.setTop { g with pc := g.pc + 1, stack := v :: rest }) target) : Steps p.tables e below (T.setTop g) target := by
  obtain ⟨cl, Ar, hin, hat⟩ := A.ld hj hv
  exact X.baloadBooleans hx (by rw [eT]; exact Ar.1) (State.isArrayOf_alike hZ.alike Ar.2.1) Ar.2.2 hin hat hg hs hd target hr
theorem ldR {p : Program} {l : Launch} {e : Env} {R : Room} {s : State} {m : MethodId} {args : Array Value} {below : List Frame} {meth : Method} {c : Code} {T : State} {locs : List Loc} {cells slots : Nat} (X : Stand p l e R s m args below meth c T locs cells slots) (hx : p.tables.exec = Jvm.exec) (hZ : Z.Warmed39 s.vm) (eT : T.heap = h) (A : Ary Z h a ty vs) (ht : ty.isReference = true) (hj : ¬ j < 0) (hv : vs[j.toNatClampNeg]? = some v) {g : JFrame} (hg : g.method = m) {rest : List Value} (hs : g.stack = .int j :: .ref a :: rest) (hd : decode c.code g.pc = .ok (.aaload, 1)) (target : State)
    (hr : Steps p.tables e below (T.setTop { g with pc := g.pc + 1, stack := v :: rest }) target) : Steps p.tables e below (T.setTop g) target := by
  obtain ⟨cl, Ar, hin, hat⟩ := A.ld hj hv
  exact X.aaload hx (by rw [eT]; exact Ar.1) (State.isArrayOf_alike hZ.alike Ar.2.1) ht Ar.2.2 hin hat hg hs hd target hr
theorem alen {p : Program} {l : Launch} {e : Env} {R : Room} {s : State} {m : MethodId} {args : Array Value} {below : List Frame} {meth : Method} {c : Code} {T : State} {locs : List Loc} {cells slots : Nat} (X : Stand p l e R s m args below meth c T locs cells slots) (hx : p.tables.exec = Jvm.exec) (hZ : Z.Warmed39 s.vm) (eT : T.heap = h) (A : Ary Z h a ty vs) (hn : vs.length.toInt32 = z) {g : JFrame} (hg : g.method = m) {rest : List Value} (hs : g.stack = .ref a :: rest) (hd : decode c.code g.pc = .ok (.arraylength, 1)) (target : State)
    (hr : Steps p.tables e below (T.setTop { g with pc := g.pc + 1, stack := .int z :: rest }) target) : Steps p.tables e below (T.setTop g) target := by
  obtain ⟨cl, Ar, ln⟩ := A.len
  exact X.arraylength hx (by rw [eT]; exact Ar.1) (State.isArrayOf_alike hZ.alike Ar.2.1) hg hs hd target (by rw [ln.trans hn]; exact hr)
theorem getI {xs : List Int32} {i : Nat} (q : i < xs.length) : (xs.map Value.int)[i]? = some (.int (xs.getD i 0)) := by
  simp [List.getElem?_map, List.getD_eq_getElem?_getD, List.getElem?_eq_getElem q]
theorem setI {xs : List Int32} {i : Nat} {x : Int32} : (xs.map Value.int).set i (.int x) = (xs.set i x).map Value.int := List.map_set.symm
/-- an array made over the class C -/
def OvA (Z : State) (h : Heap) (a : Addr) (C : String) : Prop := ∃ c : Cell, h[a]? = some c ∧ Ovr Z c.cls C
theorem OvA.keep {C : String} (O : OvA Z h a C) (K : Keep h h' ws) : OvA Z h' a C := by
  obtain ⟨c, e, o⟩ := O
  obtain ⟨c', q, r1, -, -⟩ := K.2.2 a c e
  exact ⟨c', q, r1 ▸ o⟩
theorem stA {C : String} {y : Addr} (O : OvA Z h a C) (A : Ary Z h a ty vs) (I : Ins Z h y C true) : Sto Z h a (.ref y) := by
  obtain ⟨c, A, -⟩ := A
  obtain ⟨c', e, o⟩ := O
  cases A.1.symm.trans e
  exact Sto.of A o I
theorem eqi_v {args : Array Value} {first s : State} {o : Option Outcome} {idx : List Nat} {t : Term} {k : Int32} (q : (Cond.eq t (.int k)).value args first o s idx = some true) : t.eval args first o idx s = some (.int k) := by
  simp only [Cond.value, Term.eval] at q
  cases ht : t.eval args first o idx s with
  | none => simp [ht] at q
  | some x => cases x <;> simp [ht] at q ⊢; exact q
theorem nin1 {x y : Addr} (q : x ≠ y) : x ∉ [y] := ninS q nin0
end Heap
end Jvm.Own
namespace Jvm.Pilot.@@N@@
open Jvm Jvm.ClassFile Sem Op Lib Jvm.Free Jvm.Stand Jvm.LawKit Jvm.RoadKit Jvm.Own Bundle Jvm.Pilot.@@N@@.Jvm.D
/-- what tableBytes returns -/
def own_tb (n r : Int64) : Prop := ∃ j : Nat, j ≤ 31 ∧ r = Int64.ofInt (4 * 2 ^ (10 + j)) ∧ 2 * n.toInt ≤ 2 ^ (10 + j) ∧ (j = 0 ∨ (2 : Int) ^ (10 + j) < 4 * n.toInt)
def own_inv (n q : Int64) : Prop := ∃ j : Nat, j ≤ 31 ∧ q.toInt = 2 ^ (10 + j) ∧ (j = 0 ∨ (2 : Int) ^ (10 + j) < 4 * n.toInt)
theorem own_pows : ∀ j : Fin 32, (2 : Int) ^ (10 + j.1) = (Int64.ofInt (2 ^ (10 + j.1))).toInt ∧ (1024 : Int) ≤ 2 ^ (10 + j.1) ∧ (2 : Int) ^ (10 + j.1) ≤ 2 ^ 41 := by decide
theorem own_two (n : Int64) (h0 : 0 ≤ n.toInt) (h1 : n.toInt < 2 ^ 40) : ((2 : Int64) * n).toInt = 2 * n.toInt := by
  rw [Int64.toInt_mul]; have : (2 : Int64).toInt = 2 := rfl
  rw [this]; exact Int.bmod_eq_of_le (by omega) (by omega)
theorem own_init (n : Int64) : own_inv n 1024 := ⟨0, by decide, by decide, Or.inl rfl⟩
theorem own_q2 (q : Int64) (h0 : 0 ≤ q.toInt) (h1 : q.toInt < 2 ^ 42) : (q * 2).toInt = q.toInt * 2 ∧ (q * 4).toInt = q.toInt * 4 := by
  rw [Int64.toInt_mul, Int64.toInt_mul]; have e : (2 : Int64).toInt = 2 := rfl; have e4 : (4 : Int64).toInt = 4 := rfl
  rw [e, e4]; exact ⟨Int.bmod_eq_of_le (by omega) (by omega), Int.bmod_eq_of_le (by omega) (by omega)⟩
theorem own_back {n q : Int64} (h0 : 0 ≤ n.toInt) (h1 : n.toInt < 2 ^ 40) (hI : own_inv n q) (hc : q < 2 * n) : own_inv n (q * 2) ∧ (2 * n.toInt - (q * 2).toInt).toNat < (2 * n.toInt - q.toInt).toNat := by
  obtain ⟨j, hj, e, r⟩ := hI
  rw [Int64.lt_iff_toInt_lt, own_two n h0 h1] at hc
  obtain ⟨p1, p2, p3⟩ := own_pows ⟨j, by omega⟩
  dsimp only at p1 p2 p3
  have e2 := (own_q2 q (by omega) (by omega)).1
  have hlt : (2 : Int) ^ (10 + (j + 1)) = 2 ^ (10 + j) * 2 := by rw [← Nat.add_assoc, Int.pow_succ]
  have hj1 : j + 1 ≤ 31 := by
    refine Nat.le_of_not_lt fun q' => ?_
    have : j = 31 := by omega
    subst this
    omega
  refine ⟨⟨j + 1, hj1, by rw [e2, e, hlt], Or.inr (by rw [hlt]; omega)⟩, by omega⟩
theorem own_exit {n q : Int64} (h0 : 0 ≤ n.toInt) (h1 : n.toInt < 2 ^ 40) (hI : own_inv n q) (hc : ¬ q < 2 * n) : own_tb n (q * 4) := by
  obtain ⟨j, hj, e, r⟩ := hI
  rw [Int64.lt_iff_toInt_lt, own_two n h0 h1] at hc
  obtain ⟨p1, p2, p3⟩ := own_pows ⟨j, by omega⟩
  dsimp only at p1 p2 p3
  have e2 := (own_q2 q (by omega) (by omega)).2
  refine ⟨j, hj, ?_, by omega, r⟩
  rw [← Int64.ofInt_toInt (q * 4), e2, e, Int.mul_comm]
theorem own_mask (x : Int64) : 0 ≤ (x &&& (1099511627775 : Int64)).toInt ∧ (x &&& (1099511627775 : Int64)).toInt < 2 ^ 40 := by
  rw [c_maskL x 1099511627775 40 (by decide) (by decide)]
  have h : ((2 ^ 40 : Nat) : Int) = 2 ^ 40 := by decide
  rw [h]
  omega
theorem own_fin : ∀ j : Fin 32, let r := Int64.ofInt (4 * 2 ^ (10 + j.1)); r % 4 = 0 ∧ 0 < r / 4 ∧ ((r / 4) &&& (r / 4 - 1)) = 0 ∧ ¬ r / 4 < 1024 ∧ (r / 4).toInt = 2 ^ (10 + j.1) ∧ (r / 4 / 2).toInt * 2 = 2 ^ (10 + j.1) ∧ (j.1 = 0 → r / 4 = 1024) := by decide +kernel
theorem own_facts {n r : Int64} (h0 : 0 ≤ n.toInt) (h1 : n.toInt < 2 ^ 40) (h : own_tb n r) : r % 4 = 0 ∧ 0 < r / 4 ∧ ((r / 4) &&& (r / 4 - 1)) = 0 ∧ ¬ r / 4 < 1024 ∧ ¬ r / 4 < 2 * n ∧ (¬ r / 4 = 1024 → r / 4 / 2 < 2 * n) := by
  obtain ⟨j, hj, rfl, a, b⟩ := h
  obtain ⟨f1, f2, f3, f4, f5, f6, f7⟩ := own_fin ⟨j, by omega⟩
  dsimp only at f1 f2 f3 f4 f5 f6 f7
  refine ⟨f1, f2, f3, f4, ?_, fun q => ?_⟩
  · rw [Int64.lt_iff_toInt_lt, own_two n h0 h1, f5]; omega
  · rw [Int64.lt_iff_toInt_lt, own_two n h0 h1]
    rcases b with rfl | b
    · exact absurd (f7 rfl) q
    · omega
theorem d1_0 : decode prog_95_method_2_code 0 = .ok (.ldc2_w 26, 3) := by decide +kernel
theorem d1_3 : decode prog_95_method_2_code 3 = .ok (.lstore_n 2, 1) := by decide +kernel
theorem d1_4 : decode prog_95_method_2_code 4 = .ok (.lload_n 2, 1) := by decide +kernel
theorem d1_5 : decode prog_95_method_2_code 5 = .ok (.ldc2_w 28, 3) := by decide +kernel
theorem d1_8 : decode prog_95_method_2_code 8 = .ok (.lload_n 0, 1) := by decide +kernel
theorem d1_9 : decode prog_95_method_2_code 9 = .ok (.lmul, 1) := by decide +kernel
theorem d1_10 : decode prog_95_method_2_code 10 = .ok (.lcmp, 1) := by decide +kernel
theorem d1_11 : decode prog_95_method_2_code 11 = .ok (.ifCond .ge 12, 3) := by decide +kernel
theorem d1_14 : decode prog_95_method_2_code 14 = .ok (.lload_n 2, 1) := by decide +kernel
theorem d1_15 : decode prog_95_method_2_code 15 = .ok (.ldc2_w 28, 3) := by decide +kernel
theorem d1_18 : decode prog_95_method_2_code 18 = .ok (.lmul, 1) := by decide +kernel
theorem d1_19 : decode prog_95_method_2_code 19 = .ok (.lstore_n 2, 1) := by decide +kernel
theorem d1_20 : decode prog_95_method_2_code 20 = .ok (.goto (-16), 3) := by decide +kernel
theorem d1_23 : decode prog_95_method_2_code 23 = .ok (.lload_n 2, 1) := by decide +kernel
theorem d1_24 : decode prog_95_method_2_code 24 = .ok (.ldc2_w 32, 3) := by decide +kernel
theorem d1_27 : decode prog_95_method_2_code 27 = .ok (.lmul, 1) := by decide +kernel
theorem d1_28 : decode prog_95_method_2_code 28 = .ok (.lreturn, 1) := by decide +kernel
theorem pn_1 : plainName "com/example/petrel/petrel/model/StateIndex" = true := by first | (simp [plainName, overriddenIn]; done) | decide +kernel
theorem ef_1 (m : MethodId) (x0 : Int64) : entryFrame m #[(.long x0)] 4 = mkF m 0 #[.val (.long x0), .second, .unset, .unset] [] := by first | (simp [entryFrame, mkF, argsToLocals, Value.category]; done) | rfl
def Q1 (Z : State) (q0 : Int64) (h0 : Heap) (n0 : Nat) (v : Option Value) (h : Heap) (L : List Loc) : Prop := ∃ r : Int64, v = some (.long r) ∧ own_tb q0 r ∧ Fr n0 L ∧ h = h0
set_option maxRecDepth 65536 in
set_option maxHeartbeats 40000000 in
theorem rm1 (l : Launch) (Z : State) (a0 : Array Value) (hw : ∀ d ∈ tables_1, d.before a0 Z = true) (ws : List Jvm.Cond) (q0 : Int64) (h0 : Heap) (n0 : Nat) (Z0 : n0 ≤ h0.size) (hn0 : 0 ≤ q0.toInt) (hn1 : q0.toInt < 2 ^ 40) :
    MetFree l (⟨"com/example/petrel/petrel/model/StateIndex", "tableBytes", "(J)J"⟩ : MethodName) (head1 (Jvm.Cond.code (⟨"com/example/petrel/petrel/model/StateIndex", "tableBytes", "(J)J"⟩ : MethodName) prog_95_method_2_code 4 (some .long) :: ws) ({ frames := 0, cells := 0, slots := 0, locals := 0 } : Room)) (fun a U => a = #[(.long q0)] ∧ Z.Warmed39 U.vm ∧ U.heap = h0) (fun _ _ _ _ _ => True) (fun _ U o U' => ∃ v L, o = .returned v ∧ Q1 Z q0 h0 n0 v U'.heap L ∧ FrameEnd U o U' L ({ frames := 0, cells := 0, slots := 0, locals := 0 } : Room).cells ({ frames := 0, cells := 0, slots := 0, locals := 0 } : Room).slots) := by
  refine MetFree.of_bodySF (plainFor_of_name pn_1) hisR ?_
  intro p e s m args below meth c s₁ Bd hml0 hP hK
  obtain ⟨rfl, hZ, hh⟩ := hP
  have hx := Bd.exec
  have hby := Bd.bytes
  have hml : c.maxLocals = 4 := hml0
  have hown : s.vm.findClass "com/example/petrel/petrel/model/StateIndex" = some m.cls := findClass_of_methodNamed Bd.named
  have hnm := (name_of_methodNamed Bd.named Bd.method).1
  have hlk : meth.locks = false := BodyLoose.notSynchronized Bd
  have X0 : Stand p l e ({ frames := 0, cells := 0, slots := 0, locals := 0 } : Room) s m #[(.long q0)] below meth c s₁ [] 0 0 := Stand.of_body Bd
  have e0 : s₁.heap = h0 := by rw [← hh, Bd.state]; rfl
  have N0 := Fr.nil n0
  show Run p e s below (Q1 Z q0 h0 n0) ({ frames := 0, cells := 0, slots := 0, locals := 0 } : Room).cells ({ frames := 0, cells := 0, slots := 0, locals := 0 } : Room).slots s₁ (entryFrame m #[(.long q0)] 4)
  rw [ef_1]
  show Run _ _ _ _ _ _ _ s₁ (mkF m 0 #[.val (.long q0), .second, .unset, .unset] [])
  refine go (T' := s₁) (f' := (mkF m 3 #[.val (.long q0), .second, .unset, .unset] [(.long (1024 : Int64))])) (by intro t k; exact X0.ldc2Long hx hown (mvT hZ (hw _ (List.mem_of_getElem? (i := 5) rfl))) (g := (mkF m 0 #[.val (.long q0), .second, .unset, .unset] [])) rfl (hb hby d1_0) _ k) ?_
  show Run _ _ _ _ _ _ _ s₁ (mkF m 3 #[.val (.long q0), .second, .unset, .unset] [(.long (1024 : Int64))])
  refine go (T' := s₁) (f' := (mkF m 4 #[.val (.long q0), .second, .val (.long (1024 : Int64)), .second] [])) (by intro t k; exact XS.lstoreN X0.here hx rfl (hb hby d1_3) rfl (l' := #[.val (.long q0), .second, .val (.long (1024 : Int64)), .second]) rfl k) ?_
  have LOOP4 : ∀ (k : Nat) (q2 : Int64), own_inv q0 q2 → (2 * q0.toInt - q2.toInt).toNat < k → Run p e s below (Q1 Z q0 h0 n0) ({ frames := 0, cells := 0, slots := 0, locals := 0 } : Room).cells ({ frames := 0, cells := 0, slots := 0, locals := 0 } : Room).slots s₁ (mkF m 4 #[.val (.long q0), .second, .val (.long q2), .second] []) := by
    intro k
    induction k with
    | zero => intro q2 _ hk; exact absurd hk (Nat.not_lt_zero _)
    | succ k ih =>
      intro q2 hI hk
      show Run _ _ _ _ _ _ _ s₁ (mkF m 4 #[.val (.long q0), .second, .val (.long q2), .second] [])
      refine go (T' := s₁) (f' := (mkF m 5 #[.val (.long q0), .second, .val (.long q2), .second] [(.long q2)])) (by intro t k; exact XS.lloadN X0.here hx rfl (hb hby d1_4) rfl k) ?_
      show Run _ _ _ _ _ _ _ s₁ (mkF m 5 #[.val (.long q0), .second, .val (.long q2), .second] [(.long q2)])
      refine go (T' := s₁) (f' := (mkF m 8 #[.val (.long q0), .second, .val (.long q2), .second] [(.long (2 : Int64)), (.long q2)])) (by intro t k; exact X0.ldc2Long hx hown (mvT hZ (hw _ (List.mem_of_getElem? (i := 6) rfl))) (g := (mkF m 5 #[.val (.long q0), .second, .val (.long q2), .second] [(.long q2)])) rfl (hb hby d1_5) _ k) ?_
      show Run _ _ _ _ _ _ _ s₁ (mkF m 8 #[.val (.long q0), .second, .val (.long q2), .second] [(.long (2 : Int64)), (.long q2)])
      refine go (T' := s₁) (f' := (mkF m 9 #[.val (.long q0), .second, .val (.long q2), .second] [(.long q0), (.long (2 : Int64)), (.long q2)])) (by intro t k; exact XS.lloadN X0.here hx rfl (hb hby d1_8) rfl k) ?_
      show Run _ _ _ _ _ _ _ s₁ (mkF m 9 #[.val (.long q0), .second, .val (.long q2), .second] [(.long q0), (.long (2 : Int64)), (.long q2)])
      refine go (T' := s₁) (f' := (mkF m 10 #[.val (.long q0), .second, .val (.long q2), .second] [(.long ((2 : Int64) * q0)), (.long q2)])) (by intro t k; exact XS.lmul X0.here hx rfl (hb hby d1_9) rfl k) ?_
      show Run _ _ _ _ _ _ _ s₁ (mkF m 10 #[.val (.long q0), .second, .val (.long q2), .second] [(.long ((2 : Int64) * q0)), (.long q2)])
      refine go (T' := s₁) (f' := (mkF m 11 #[.val (.long q0), .second, .val (.long q2), .second] [(.int (lcmpW q2 ((2 : Int64) * q0)))])) (by intro t k; exact XS.lcmp X0.here hx rfl (hb hby d1_10) rfl k) ?_
      show Run _ _ _ _ _ _ _ s₁ (mkF m 11 #[.val (.long q0), .second, .val (.long q2), .second] [(.int (lcmpW q2 ((2 : Int64) * q0)))])
      by_cases hc11 : q2 < ((2 : Int64) * q0)
      · refine go (T' := s₁) (f' := (mkF m 14 #[.val (.long q0), .second, .val (.long q2), .second] [])) (by intro t k; exact XS.ifNo X0.here hx rfl (hb hby d1_11) rfl ((if0 _ _).trans (tlt ((lw_lt _ _).mpr hc11)).2.1) k) ?_
        show Run _ _ _ _ _ _ _ s₁ (mkF m 14 #[.val (.long q0), .second, .val (.long q2), .second] [])
        refine go (T' := s₁) (f' := (mkF m 15 #[.val (.long q0), .second, .val (.long q2), .second] [(.long q2)])) (by intro t k; exact XS.lloadN X0.here hx rfl (hb hby d1_14) rfl k) ?_
        show Run _ _ _ _ _ _ _ s₁ (mkF m 15 #[.val (.long q0), .second, .val (.long q2), .second] [(.long q2)])
        refine go (T' := s₁) (f' := (mkF m 18 #[.val (.long q0), .second, .val (.long q2), .second] [(.long (2 : Int64)), (.long q2)])) (by intro t k; exact X0.ldc2Long hx hown (mvT hZ (hw _ (List.mem_of_getElem? (i := 6) rfl))) (g := (mkF m 15 #[.val (.long q0), .second, .val (.long q2), .second] [(.long q2)])) rfl (hb hby d1_15) _ k) ?_
        show Run _ _ _ _ _ _ _ s₁ (mkF m 18 #[.val (.long q0), .second, .val (.long q2), .second] [(.long (2 : Int64)), (.long q2)])
        refine go (T' := s₁) (f' := (mkF m 19 #[.val (.long q0), .second, .val (.long q2), .second] [(.long (q2 * (2 : Int64)))])) (by intro t k; exact XS.lmul X0.here hx rfl (hb hby d1_18) rfl k) ?_
        show Run _ _ _ _ _ _ _ s₁ (mkF m 19 #[.val (.long q0), .second, .val (.long q2), .second] [(.long (q2 * (2 : Int64)))])
        refine go (T' := s₁) (f' := (mkF m 20 #[.val (.long q0), .second, .val (.long (q2 * (2 : Int64))), .second] [])) (by intro t k; exact XS.lstoreN X0.here hx rfl (hb hby d1_19) rfl (l' := #[.val (.long q0), .second, .val (.long (q2 * (2 : Int64))), .second]) rfl k) ?_
        show Run _ _ _ _ _ _ _ s₁ (mkF m 20 #[.val (.long q0), .second, .val (.long (q2 * (2 : Int64))), .second] [])
        refine go (T' := s₁) (f' := (mkF m 4 #[.val (.long q0), .second, .val (.long (q2 * (2 : Int64))), .second] [])) (by intro t k; exact XS.goto X0.here hx rfl (pc0 := 20) (pc' := 4) rfl (hb hby d1_20) (by decide) (by decide) k) ?_
        show Run _ _ _ _ _ _ _ s₁ (mkF m 4 #[.val (.long q0), .second, .val (.long (q2 * (2 : Int64))), .second] [])
        exact ih (q2 * (2 : Int64)) ((own_back hn0 hn1 hI hc11).1) (Nat.lt_of_lt_of_le (own_back hn0 hn1 hI hc11).2 (Nat.le_of_lt_succ hk))
      · refine go (T' := s₁) (f' := (mkF m 23 #[.val (.long q0), .second, .val (.long q2), .second] [])) (by intro t k; exact XS.ifYes X0.here hx rfl (pc0 := 11) (pc' := 23) rfl (hb hby d1_11) rfl ((if0 _ _).trans (flt (fun q => hc11 ((lw_lt _ _).mp q))).2.1) (by decide) (by decide) k) ?_
        show Run _ _ _ _ _ _ _ s₁ (mkF m 23 #[.val (.long q0), .second, .val (.long q2), .second] [])
        refine go (T' := s₁) (f' := (mkF m 24 #[.val (.long q0), .second, .val (.long q2), .second] [(.long q2)])) (by intro t k; exact XS.lloadN X0.here hx rfl (hb hby d1_23) rfl k) ?_
        show Run _ _ _ _ _ _ _ s₁ (mkF m 24 #[.val (.long q0), .second, .val (.long q2), .second] [(.long q2)])
        refine go (T' := s₁) (f' := (mkF m 27 #[.val (.long q0), .second, .val (.long q2), .second] [(.long (4 : Int64)), (.long q2)])) (by intro t k; exact X0.ldc2Long hx hown (mvT hZ (hw _ (List.mem_of_getElem? (i := 7) rfl))) (g := (mkF m 24 #[.val (.long q0), .second, .val (.long q2), .second] [(.long q2)])) rfl (hb hby d1_24) _ k) ?_
        show Run _ _ _ _ _ _ _ s₁ (mkF m 27 #[.val (.long q0), .second, .val (.long q2), .second] [(.long (4 : Int64)), (.long q2)])
        refine go (T' := s₁) (f' := (mkF m 28 #[.val (.long q0), .second, .val (.long q2), .second] [(.long (q2 * (4 : Int64)))])) (by intro t k; exact XS.lmul X0.here hx rfl (hb hby d1_27) rfl k) ?_
        show Run _ _ _ _ _ _ _ s₁ (mkF m 28 #[.val (.long q0), .second, .val (.long q2), .second] [(.long (q2 * (4 : Int64)))])
        refine retW X0 hx (t := .long) Bd.returns rfl (Or.inr (Or.inl ⟨rfl, rfl, _, rfl⟩)) (hb hby d1_28) hlk (by decide) (by decide) ?_
        show Q1 Z q0 h0 n0 _ s₁.heap _
        rw [e0]
        have hv : own_tb q0 (q2 * (4 : Int64)) := by
          exact own_exit hn0 hn1 hI hc11
        exact ⟨_, rfl, hv, N0, rfl⟩
  exact LOOP4 _ (1024 : Int64) (own_init _) (Nat.lt_succ_self _)
theorem pd_28J29J : parseMethodDescriptor "(J)J" = some ⟨[.long], some .long⟩ := by decide +kernel
theorem pn_0 : plainName "com/example/petrel/petrel/model/StateIndexTableBytesPinLaw" = true := by first | (simp [plainName, overriddenIn]; done) | decide +kernel
theorem ef_0 (m : MethodId) (x0 : Int64) : entryFrame m #[(.long x0)] maxLocals = mkF m 0 #[.val (.long x0), .second, .unset, .unset, .unset, .unset, .unset, .unset, .unset] [] := by first | (simp [entryFrame, mkF, argsToLocals, Value.category, maxLocals]; done) | rfl
def Q0 (Z : State) (q0 : Int64) (h0 : Heap) (n0 : Nat) (v : Option Value) (h : Heap) (L : List Loc) : Prop := v = some (.int (1 : Int32)) ∧ Fr n0 L
set_option maxRecDepth 65536 in
set_option maxHeartbeats 40000000 in
theorem rm0 (l : Launch) (Z : State) (a0 : Array Value) (hw : ∀ d ∈ tables_1, d.before a0 Z = true) (ws : List Jvm.Cond) (q0 : Int64) (h0 : Heap) (n0 : Nat) (Z0 : n0 ≤ h0.size) :
    MetFree l x (head1 (Jvm.Cond.code x code maxLocals ret :: ws) room_1) (fun a U => a = #[(.long q0)] ∧ Z.Warmed39 U.vm ∧ U.heap = h0) (fun _ _ _ _ _ => True) (fun _ U o U' => ∃ v L, o = .returned v ∧ Q0 Z q0 h0 n0 v U'.heap L ∧ FrameEnd U o U' L room_1.cells room_1.slots) := by
  refine MetFree.of_bodySF (plainFor_of_name pn_0) hisR ?_
  intro p e s m args below meth c s₁ Bd hml0 hP hK
  obtain ⟨rfl, hZ, hh⟩ := hP
  have hx := Bd.exec
  have hby := Bd.bytes
  have hml : c.maxLocals = 9 := hml0
  have hown : s.vm.findClass "com/example/petrel/petrel/model/StateIndexTableBytesPinLaw" = some m.cls := findClass_of_methodNamed Bd.named
  have hnm := (name_of_methodNamed Bd.named Bd.method).1
  have hlk : meth.locks = false := BodyLoose.notSynchronized Bd
  have X0 : Stand p l e room_1 s m #[(.long q0)] below meth c s₁ [] 0 0 := Stand.of_body Bd
  have e0 : s₁.heap = h0 := by rw [← hh, Bd.state]; rfl
  have N0 := Fr.nil n0
  show Run p e s below (Q0 Z q0 h0 n0) room_1.cells room_1.slots s₁ (entryFrame m #[(.long q0)] maxLocals)
  rw [ef_0]
  show Run _ _ _ _ _ _ _ s₁ (mkF m 0 #[.val (.long q0), .second, .unset, .unset, .unset, .unset, .unset, .unset, .unset] [])
  refine go (T' := s₁) (f' := (mkF m 1 #[.val (.long q0), .second, .unset, .unset, .unset, .unset, .unset, .unset, .unset] [(.long q0)])) (by intro t k; exact XS.lloadN X0.here hx rfl (hb hby at_0) rfl k) ?_
  show Run _ _ _ _ _ _ _ s₁ (mkF m 1 #[.val (.long q0), .second, .unset, .unset, .unset, .unset, .unset, .unset, .unset] [(.long q0)])
  refine go (T' := s₁) (f' := (mkF m 4 #[.val (.long q0), .second, .unset, .unset, .unset, .unset, .unset, .unset, .unset] [(.long (1099511627775 : Int64)), (.long q0)])) (by intro t k; exact X0.ldc2Long hx hown (mvT hZ (hw _ (List.mem_of_getElem? (i := 0) rfl))) (g := (mkF m 1 #[.val (.long q0), .second, .unset, .unset, .unset, .unset, .unset, .unset, .unset] [(.long q0)])) rfl (hb hby at_1) _ k) ?_
  show Run _ _ _ _ _ _ _ s₁ (mkF m 4 #[.val (.long q0), .second, .unset, .unset, .unset, .unset, .unset, .unset, .unset] [(.long (1099511627775 : Int64)), (.long q0)])
  refine go (T' := s₁) (f' := (mkF m 5 #[.val (.long q0), .second, .unset, .unset, .unset, .unset, .unset, .unset, .unset] [(.long (q0 &&& (1099511627775 : Int64)))])) (by intro t k; exact XS.land X0.here hx rfl (hb hby at_4) rfl k) ?_
  show Run _ _ _ _ _ _ _ s₁ (mkF m 5 #[.val (.long q0), .second, .unset, .unset, .unset, .unset, .unset, .unset, .unset] [(.long (q0 &&& (1099511627775 : Int64)))])
  refine go (T' := s₁) (f' := (mkF m 6 #[.val (.long q0), .second, .val (.long (q0 &&& (1099511627775 : Int64))), .second, .unset, .unset, .unset, .unset, .unset] [])) (by intro t k; exact XS.lstoreN X0.here hx rfl (hb hby at_5) rfl (l' := #[.val (.long q0), .second, .val (.long (q0 &&& (1099511627775 : Int64))), .second, .unset, .unset, .unset, .unset, .unset]) rfl k) ?_
  show Run _ _ _ _ _ _ _ s₁ (mkF m 6 #[.val (.long q0), .second, .val (.long (q0 &&& (1099511627775 : Int64))), .second, .unset, .unset, .unset, .unset, .unset] [])
  refine go (T' := s₁) (f' := (mkF m 7 #[.val (.long q0), .second, .val (.long (q0 &&& (1099511627775 : Int64))), .second, .unset, .unset, .unset, .unset, .unset] [(.long (q0 &&& (1099511627775 : Int64)))])) (by intro t k; exact XS.lloadN X0.here hx rfl (hb hby at_6) rfl k) ?_
  show Run _ _ _ _ _ _ _ s₁ (mkF m 7 #[.val (.long q0), .second, .val (.long (q0 &&& (1099511627775 : Int64))), .second, .unset, .unset, .unset, .unset, .unset] [(.long (q0 &&& (1099511627775 : Int64)))])
  obtain ⟨_, _, ⟨T1, Lz1, kz1, nz1⟩, -, X1, ⟨Lc1, hQ1, lz1, yz1, zz1⟩, st1⟩ := Jvm.LawKit.callS X0 hx (y := (⟨"com/example/petrel/petrel/model/StateIndex", "tableBytes", "(J)J"⟩ : MethodName)) hown (mvT hZ (hw _ (List.mem_of_getElem? (i := 1) rfl))) (mvT hZ (hw _ (List.mem_of_getElem? (i := 2) rfl))) (mvT hZ (hw _ (List.mem_of_getElem? (i := 3) rfl))) (mvT hZ (hw _ (List.mem_of_getElem? (i := 4) rfl))) (by decide) (backOf (W := 0) (rm1 l Z a0 hw [] (q0 &&& (1099511627775 : Int64))  h0 n0 Z0 (own_mask q0).1 (own_mask q0).2) hZ (hw _ (List.mem_of_getElem? (i := 4) rfl)) (hw _ (List.mem_of_getElem? (i := 3) rfl)) (by decide) (by decide)) (g := (mkF m 7 #[.val (.long q0), .second, .val (.long (q0 &&& (1099511627775 : Int64))), .second, .unset, .unset, .unset, .unset, .unset] [(.long (q0 &&& (1099511627775 : Int64)))])) rfl (by rw [hml]; rfl) (argsL := [(.long (q0 &&& (1099511627775 : Int64)))]) (rest := []) (lenOf pd_28J29J rfl) rfl (by show 2 * 0 + _ ≤ _; exact Nat.le_of_eq rfl) (hb hby at_7) (fun _ _ => ⟨rfl, e0, (by decide : 0 + 0 ≤ _), (by decide : 0 + 0 ≤ _)⟩)
  dsimp only [Pt.U, Pt.locs, Pt.cells, Pt.slots] at X1 lz1 yz1 zz1 st1 hQ1
  subst lz1 yz1 zz1
  obtain ⟨r1, rfl, hR1, N1q, e1⟩ := hQ1
  have N1 := Fr.app N0 N1q
  refine go st1 ?_
  show Run _ _ _ _ _ _ _ T1 (mkF m 10 #[.val (.long q0), .second, .val (.long (q0 &&& (1099511627775 : Int64))), .second, .unset, .unset, .unset, .unset, .unset] [(.long r1)])
  refine go (T' := T1) (f' := (mkF m 12 #[.val (.long q0), .second, .val (.long (q0 &&& (1099511627775 : Int64))), .second, .val (.long r1), .second, .unset, .unset, .unset] [])) (by intro t k; exact XS.lstore X1.here hx rfl (hb hby at_10) rfl (l' := #[.val (.long q0), .second, .val (.long (q0 &&& (1099511627775 : Int64))), .second, .val (.long r1), .second, .unset, .unset, .unset]) rfl k) ?_
  show Run _ _ _ _ _ _ _ T1 (mkF m 12 #[.val (.long q0), .second, .val (.long (q0 &&& (1099511627775 : Int64))), .second, .val (.long r1), .second, .unset, .unset, .unset] [])
  refine go (T' := T1) (f' := (mkF m 14 #[.val (.long q0), .second, .val (.long (q0 &&& (1099511627775 : Int64))), .second, .val (.long r1), .second, .unset, .unset, .unset] [(.long r1)])) (by intro t k; exact XS.lload X1.here hx rfl (hb hby at_12) rfl k) ?_
  show Run _ _ _ _ _ _ _ T1 (mkF m 14 #[.val (.long q0), .second, .val (.long (q0 &&& (1099511627775 : Int64))), .second, .val (.long r1), .second, .unset, .unset, .unset] [(.long r1)])
  refine go (T' := T1) (f' := (mkF m 17 #[.val (.long q0), .second, .val (.long (q0 &&& (1099511627775 : Int64))), .second, .val (.long r1), .second, .unset, .unset, .unset] [(.long (4 : Int64)), (.long r1)])) (by intro t k; exact X1.ldc2Long hx hown (mvT hZ (hw _ (List.mem_of_getElem? (i := 8) rfl))) (g := (mkF m 14 #[.val (.long q0), .second, .val (.long (q0 &&& (1099511627775 : Int64))), .second, .val (.long r1), .second, .unset, .unset, .unset] [(.long r1)])) rfl (hb hby at_14) _ k) ?_
  show Run _ _ _ _ _ _ _ T1 (mkF m 17 #[.val (.long q0), .second, .val (.long (q0 &&& (1099511627775 : Int64))), .second, .val (.long r1), .second, .unset, .unset, .unset] [(.long (4 : Int64)), (.long r1)])
  refine go (T' := T1) (f' := (mkF m 18 #[.val (.long q0), .second, .val (.long (q0 &&& (1099511627775 : Int64))), .second, .val (.long r1), .second, .unset, .unset, .unset] [(.long (r1 % (4 : Int64)))])) (by intro t k; exact XS.lrem X1.here hx rfl (hb hby at_17) rfl (by decide) (by rw [lrem_mod]; exact k)) ?_
  show Run _ _ _ _ _ _ _ T1 (mkF m 18 #[.val (.long q0), .second, .val (.long (q0 &&& (1099511627775 : Int64))), .second, .val (.long r1), .second, .unset, .unset, .unset] [(.long (r1 % (4 : Int64)))])
  refine go (T' := T1) (f' := (mkF m 19 #[.val (.long q0), .second, .val (.long (q0 &&& (1099511627775 : Int64))), .second, .val (.long r1), .second, .unset, .unset, .unset] [(.long (0 : Int64)), (.long (r1 % (4 : Int64)))])) (by intro t k; exact XS.lconst X1.here hx rfl (hb hby at_18) k) ?_
  show Run _ _ _ _ _ _ _ T1 (mkF m 19 #[.val (.long q0), .second, .val (.long (q0 &&& (1099511627775 : Int64))), .second, .val (.long r1), .second, .unset, .unset, .unset] [(.long (0 : Int64)), (.long (r1 % (4 : Int64)))])
  refine go (T' := T1) (f' := (mkF m 20 #[.val (.long q0), .second, .val (.long (q0 &&& (1099511627775 : Int64))), .second, .val (.long r1), .second, .unset, .unset, .unset] [(.int (lcmpW (r1 % (4 : Int64)) (0 : Int64)))])) (by intro t k; exact XS.lcmp X1.here hx rfl (hb hby at_19) rfl k) ?_
  show Run _ _ _ _ _ _ _ T1 (mkF m 20 #[.val (.long q0), .second, .val (.long (q0 &&& (1099511627775 : Int64))), .second, .val (.long r1), .second, .unset, .unset, .unset] [(.int (lcmpW (r1 % (4 : Int64)) (0 : Int64)))])
  by_cases hc20 : (r1 % (4 : Int64)) = (0 : Int64)
  · refine go (T' := T1) (f' := (mkF m 25 #[.val (.long q0), .second, .val (.long (q0 &&& (1099511627775 : Int64))), .second, .val (.long r1), .second, .unset, .unset, .unset] [])) (by intro t k; exact XS.ifYes X1.here hx rfl (pc0 := 20) (pc' := 25) rfl (hb hby at_20) rfl ((if0 _ _).trans (teq ((lw_eq _ _).mpr hc20)).1) (by decide) (by decide) k) ?_
    show Run _ _ _ _ _ _ _ T1 (mkF m 25 #[.val (.long q0), .second, .val (.long (q0 &&& (1099511627775 : Int64))), .second, .val (.long r1), .second, .unset, .unset, .unset] [])
    refine go (T' := T1) (f' := (mkF m 27 #[.val (.long q0), .second, .val (.long (q0 &&& (1099511627775 : Int64))), .second, .val (.long r1), .second, .unset, .unset, .unset] [(.long r1)])) (by intro t k; exact XS.lload X1.here hx rfl (hb hby at_25) rfl k) ?_
    show Run _ _ _ _ _ _ _ T1 (mkF m 27 #[.val (.long q0), .second, .val (.long (q0 &&& (1099511627775 : Int64))), .second, .val (.long r1), .second, .unset, .unset, .unset] [(.long r1)])
    refine go (T' := T1) (f' := (mkF m 30 #[.val (.long q0), .second, .val (.long (q0 &&& (1099511627775 : Int64))), .second, .val (.long r1), .second, .unset, .unset, .unset] [(.long (4 : Int64)), (.long r1)])) (by intro t k; exact X1.ldc2Long hx hown (mvT hZ (hw _ (List.mem_of_getElem? (i := 8) rfl))) (g := (mkF m 27 #[.val (.long q0), .second, .val (.long (q0 &&& (1099511627775 : Int64))), .second, .val (.long r1), .second, .unset, .unset, .unset] [(.long r1)])) rfl (hb hby at_27) _ k) ?_
    show Run _ _ _ _ _ _ _ T1 (mkF m 30 #[.val (.long q0), .second, .val (.long (q0 &&& (1099511627775 : Int64))), .second, .val (.long r1), .second, .unset, .unset, .unset] [(.long (4 : Int64)), (.long r1)])
    refine go (T' := T1) (f' := (mkF m 31 #[.val (.long q0), .second, .val (.long (q0 &&& (1099511627775 : Int64))), .second, .val (.long r1), .second, .unset, .unset, .unset] [(.long (r1 / (4 : Int64)))])) (by intro t k; exact XS.ldiv X1.here hx rfl (hb hby at_30) rfl (by decide) k) ?_
    show Run _ _ _ _ _ _ _ T1 (mkF m 31 #[.val (.long q0), .second, .val (.long (q0 &&& (1099511627775 : Int64))), .second, .val (.long r1), .second, .unset, .unset, .unset] [(.long (r1 / (4 : Int64)))])
    refine go (T' := T1) (f' := (mkF m 33 #[.val (.long q0), .second, .val (.long (q0 &&& (1099511627775 : Int64))), .second, .val (.long r1), .second, .val (.long (r1 / (4 : Int64))), .second, .unset] [])) (by intro t k; exact XS.lstore X1.here hx rfl (hb hby at_31) rfl (l' := #[.val (.long q0), .second, .val (.long (q0 &&& (1099511627775 : Int64))), .second, .val (.long r1), .second, .val (.long (r1 / (4 : Int64))), .second, .unset]) rfl k) ?_
    show Run _ _ _ _ _ _ _ T1 (mkF m 33 #[.val (.long q0), .second, .val (.long (q0 &&& (1099511627775 : Int64))), .second, .val (.long r1), .second, .val (.long (r1 / (4 : Int64))), .second, .unset] [])
    refine go (T' := T1) (f' := (mkF m 35 #[.val (.long q0), .second, .val (.long (q0 &&& (1099511627775 : Int64))), .second, .val (.long r1), .second, .val (.long (r1 / (4 : Int64))), .second, .unset] [(.long (r1 / (4 : Int64)))])) (by intro t k; exact XS.lload X1.here hx rfl (hb hby at_33) rfl k) ?_
    show Run _ _ _ _ _ _ _ T1 (mkF m 35 #[.val (.long q0), .second, .val (.long (q0 &&& (1099511627775 : Int64))), .second, .val (.long r1), .second, .val (.long (r1 / (4 : Int64))), .second, .unset] [(.long (r1 / (4 : Int64)))])
    refine go (T' := T1) (f' := (mkF m 36 #[.val (.long q0), .second, .val (.long (q0 &&& (1099511627775 : Int64))), .second, .val (.long r1), .second, .val (.long (r1 / (4 : Int64))), .second, .unset] [(.long (0 : Int64)), (.long (r1 / (4 : Int64)))])) (by intro t k; exact XS.lconst X1.here hx rfl (hb hby at_35) k) ?_
    show Run _ _ _ _ _ _ _ T1 (mkF m 36 #[.val (.long q0), .second, .val (.long (q0 &&& (1099511627775 : Int64))), .second, .val (.long r1), .second, .val (.long (r1 / (4 : Int64))), .second, .unset] [(.long (0 : Int64)), (.long (r1 / (4 : Int64)))])
    refine go (T' := T1) (f' := (mkF m 37 #[.val (.long q0), .second, .val (.long (q0 &&& (1099511627775 : Int64))), .second, .val (.long r1), .second, .val (.long (r1 / (4 : Int64))), .second, .unset] [(.int (lcmpW (r1 / (4 : Int64)) (0 : Int64)))])) (by intro t k; exact XS.lcmp X1.here hx rfl (hb hby at_36) rfl k) ?_
    show Run _ _ _ _ _ _ _ T1 (mkF m 37 #[.val (.long q0), .second, .val (.long (q0 &&& (1099511627775 : Int64))), .second, .val (.long r1), .second, .val (.long (r1 / (4 : Int64))), .second, .unset] [(.int (lcmpW (r1 / (4 : Int64)) (0 : Int64)))])
    obtain ⟨z2, hz2⟩ : ∃ z : Int32, z = (if (0 : Int64) < (r1 / (4 : Int64)) then (if ((r1 / (4 : Int64)) &&& ((r1 / (4 : Int64)) - (1 : Int64))) = (0 : Int64) then (1 : Int32) else (0 : Int32)) else (0 : Int32)) := ⟨_, rfl⟩
    have J37 : Run p e s below (Q0 Z q0 h0 n0) room_1.cells room_1.slots T1 (mkF m 57 #[.val (.long q0), .second, .val (.long (q0 &&& (1099511627775 : Int64))), .second, .val (.long r1), .second, .val (.long (r1 / (4 : Int64))), .second, .unset] [(.int z2)]) := by
      show Run _ _ _ _ _ _ _ T1 (mkF m 57 #[.val (.long q0), .second, .val (.long (q0 &&& (1099511627775 : Int64))), .second, .val (.long r1), .second, .val (.long (r1 / (4 : Int64))), .second, .unset] [(.int z2)])
      refine go (T' := T1) (f' := (mkF m 59 #[.val (.long q0), .second, .val (.long (q0 &&& (1099511627775 : Int64))), .second, .val (.long r1), .second, .val (.long (r1 / (4 : Int64))), .second, .val (.int z2)] [])) (by intro t k; exact XS.istore X1.here hx rfl (hb hby at_57) rfl (l' := #[.val (.long q0), .second, .val (.long (q0 &&& (1099511627775 : Int64))), .second, .val (.long r1), .second, .val (.long (r1 / (4 : Int64))), .second, .val (.int z2)]) rfl k) ?_
      show Run _ _ _ _ _ _ _ T1 (mkF m 59 #[.val (.long q0), .second, .val (.long (q0 &&& (1099511627775 : Int64))), .second, .val (.long r1), .second, .val (.long (r1 / (4 : Int64))), .second, .val (.int z2)] [])
      refine go (T' := T1) (f' := (mkF m 61 #[.val (.long q0), .second, .val (.long (q0 &&& (1099511627775 : Int64))), .second, .val (.long r1), .second, .val (.long (r1 / (4 : Int64))), .second, .val (.int z2)] [(.int z2)])) (by intro t k; exact XS.iload X1.here hx rfl (hb hby at_59) rfl k) ?_
      show Run _ _ _ _ _ _ _ T1 (mkF m 61 #[.val (.long q0), .second, .val (.long (q0 &&& (1099511627775 : Int64))), .second, .val (.long r1), .second, .val (.long (r1 / (4 : Int64))), .second, .val (.int z2)] [(.int z2)])
      by_cases hc61 : z2 = (0 : Int32)
      · refine go (T' := T1) (f' := (mkF m 64 #[.val (.long q0), .second, .val (.long (q0 &&& (1099511627775 : Int64))), .second, .val (.long r1), .second, .val (.long (r1 / (4 : Int64))), .second, .val (.int z2)] [])) (by intro t k; exact XS.ifNo X1.here hx rfl (hb hby at_61) rfl ((if0 _ _).trans (teq hc61).2) k) ?_
        show Run _ _ _ _ _ _ _ T1 (mkF m 64 #[.val (.long q0), .second, .val (.long (q0 &&& (1099511627775 : Int64))), .second, .val (.long r1), .second, .val (.long (r1 / (4 : Int64))), .second, .val (.int z2)] [])
        refine go (T' := T1) (f' := (mkF m 65 #[.val (.long q0), .second, .val (.long (q0 &&& (1099511627775 : Int64))), .second, .val (.long r1), .second, .val (.long (r1 / (4 : Int64))), .second, .val (.int z2)] [(.int (0 : Int32))])) (by intro t k; exact XS.iconst X1.here hx rfl (hb hby at_64) k) ?_
        show Run _ _ _ _ _ _ _ T1 (mkF m 65 #[.val (.long q0), .second, .val (.long (q0 &&& (1099511627775 : Int64))), .second, .val (.long r1), .second, .val (.long (r1 / (4 : Int64))), .second, .val (.int z2)] [(.int (0 : Int32))])
        refine retZ X1 hx (t := .boolean) Bd.returns (by simp) (hb hby at_65) hlk (by decide) (by decide) ?_
        show Q0 Z q0 h0 n0 _ T1.heap _
        rw [e1]
        have hv' : (nar .boolean (0 : Int32)) = (1 : Int32) := by
          obtain ⟨f1, f2, f3, f4, f5, f6⟩ := own_facts (own_mask q0).1 (own_mask q0).2 hR1
          simp_all [nar]
        have hv : (some (.int (nar .boolean (0 : Int32))) : Option Value) = some (.int (1 : Int32)) := by rw [hv']
        exact ⟨hv, N1⟩
      · refine go (T' := T1) (f' := (mkF m 66 #[.val (.long q0), .second, .val (.long (q0 &&& (1099511627775 : Int64))), .second, .val (.long r1), .second, .val (.long (r1 / (4 : Int64))), .second, .val (.int z2)] [])) (by intro t k; exact XS.ifYes X1.here hx rfl (pc0 := 61) (pc' := 66) rfl (hb hby at_61) rfl ((if0 _ _).trans (feq hc61).2) (by decide) (by decide) k) ?_
        show Run _ _ _ _ _ _ _ T1 (mkF m 66 #[.val (.long q0), .second, .val (.long (q0 &&& (1099511627775 : Int64))), .second, .val (.long r1), .second, .val (.long (r1 / (4 : Int64))), .second, .val (.int z2)] [])
        refine go (T' := T1) (f' := (mkF m 68 #[.val (.long q0), .second, .val (.long (q0 &&& (1099511627775 : Int64))), .second, .val (.long r1), .second, .val (.long (r1 / (4 : Int64))), .second, .val (.int z2)] [(.long (r1 / (4 : Int64)))])) (by intro t k; exact XS.lload X1.here hx rfl (hb hby at_66) rfl k) ?_
        show Run _ _ _ _ _ _ _ T1 (mkF m 68 #[.val (.long q0), .second, .val (.long (q0 &&& (1099511627775 : Int64))), .second, .val (.long r1), .second, .val (.long (r1 / (4 : Int64))), .second, .val (.int z2)] [(.long (r1 / (4 : Int64)))])
        refine go (T' := T1) (f' := (mkF m 71 #[.val (.long q0), .second, .val (.long (q0 &&& (1099511627775 : Int64))), .second, .val (.long r1), .second, .val (.long (r1 / (4 : Int64))), .second, .val (.int z2)] [(.long (1024 : Int64)), (.long (r1 / (4 : Int64)))])) (by intro t k; exact X1.ldc2Long hx hown (mvT hZ (hw _ (List.mem_of_getElem? (i := 9) rfl))) (g := (mkF m 68 #[.val (.long q0), .second, .val (.long (q0 &&& (1099511627775 : Int64))), .second, .val (.long r1), .second, .val (.long (r1 / (4 : Int64))), .second, .val (.int z2)] [(.long (r1 / (4 : Int64)))])) rfl (hb hby at_68) _ k) ?_
        show Run _ _ _ _ _ _ _ T1 (mkF m 71 #[.val (.long q0), .second, .val (.long (q0 &&& (1099511627775 : Int64))), .second, .val (.long r1), .second, .val (.long (r1 / (4 : Int64))), .second, .val (.int z2)] [(.long (1024 : Int64)), (.long (r1 / (4 : Int64)))])
        refine go (T' := T1) (f' := (mkF m 72 #[.val (.long q0), .second, .val (.long (q0 &&& (1099511627775 : Int64))), .second, .val (.long r1), .second, .val (.long (r1 / (4 : Int64))), .second, .val (.int z2)] [(.int (lcmpW (r1 / (4 : Int64)) (1024 : Int64)))])) (by intro t k; exact XS.lcmp X1.here hx rfl (hb hby at_71) rfl k) ?_
        show Run _ _ _ _ _ _ _ T1 (mkF m 72 #[.val (.long q0), .second, .val (.long (q0 &&& (1099511627775 : Int64))), .second, .val (.long r1), .second, .val (.long (r1 / (4 : Int64))), .second, .val (.int z2)] [(.int (lcmpW (r1 / (4 : Int64)) (1024 : Int64)))])
        by_cases hc72 : (r1 / (4 : Int64)) < (1024 : Int64)
        · refine go (T' := T1) (f' := (mkF m 86 #[.val (.long q0), .second, .val (.long (q0 &&& (1099511627775 : Int64))), .second, .val (.long r1), .second, .val (.long (r1 / (4 : Int64))), .second, .val (.int z2)] [])) (by intro t k; exact XS.ifYes X1.here hx rfl (pc0 := 72) (pc' := 86) rfl (hb hby at_72) rfl ((if0 _ _).trans (tlt ((lw_lt _ _).mpr hc72)).1) (by decide) (by decide) k) ?_
          show Run _ _ _ _ _ _ _ T1 (mkF m 86 #[.val (.long q0), .second, .val (.long (q0 &&& (1099511627775 : Int64))), .second, .val (.long r1), .second, .val (.long (r1 / (4 : Int64))), .second, .val (.int z2)] [])
          refine go (T' := T1) (f' := (mkF m 87 #[.val (.long q0), .second, .val (.long (q0 &&& (1099511627775 : Int64))), .second, .val (.long r1), .second, .val (.long (r1 / (4 : Int64))), .second, .val (.int z2)] [(.int (0 : Int32))])) (by intro t k; exact XS.iconst X1.here hx rfl (hb hby at_86) k) ?_
          show Run _ _ _ _ _ _ _ T1 (mkF m 87 #[.val (.long q0), .second, .val (.long (q0 &&& (1099511627775 : Int64))), .second, .val (.long r1), .second, .val (.long (r1 / (4 : Int64))), .second, .val (.int z2)] [(.int (0 : Int32))])
          refine retZ X1 hx (t := .boolean) Bd.returns (by simp) (hb hby at_87) hlk (by decide) (by decide) ?_
          show Q0 Z q0 h0 n0 _ T1.heap _
          rw [e1]
          have hv' : (nar .boolean (0 : Int32)) = (1 : Int32) := by
            obtain ⟨f1, f2, f3, f4, f5, f6⟩ := own_facts (own_mask q0).1 (own_mask q0).2 hR1
            simp_all [nar]
          have hv : (some (.int (nar .boolean (0 : Int32))) : Option Value) = some (.int (1 : Int32)) := by rw [hv']
          exact ⟨hv, N1⟩
        · refine go (T' := T1) (f' := (mkF m 75 #[.val (.long q0), .second, .val (.long (q0 &&& (1099511627775 : Int64))), .second, .val (.long r1), .second, .val (.long (r1 / (4 : Int64))), .second, .val (.int z2)] [])) (by intro t k; exact XS.ifNo X1.here hx rfl (hb hby at_72) rfl ((if0 _ _).trans (flt (fun q => hc72 ((lw_lt _ _).mp q))).1) k) ?_
          show Run _ _ _ _ _ _ _ T1 (mkF m 75 #[.val (.long q0), .second, .val (.long (q0 &&& (1099511627775 : Int64))), .second, .val (.long r1), .second, .val (.long (r1 / (4 : Int64))), .second, .val (.int z2)] [])
          refine go (T' := T1) (f' := (mkF m 77 #[.val (.long q0), .second, .val (.long (q0 &&& (1099511627775 : Int64))), .second, .val (.long r1), .second, .val (.long (r1 / (4 : Int64))), .second, .val (.int z2)] [(.long (r1 / (4 : Int64)))])) (by intro t k; exact XS.lload X1.here hx rfl (hb hby at_75) rfl k) ?_
          show Run _ _ _ _ _ _ _ T1 (mkF m 77 #[.val (.long q0), .second, .val (.long (q0 &&& (1099511627775 : Int64))), .second, .val (.long r1), .second, .val (.long (r1 / (4 : Int64))), .second, .val (.int z2)] [(.long (r1 / (4 : Int64)))])
          refine go (T' := T1) (f' := (mkF m 80 #[.val (.long q0), .second, .val (.long (q0 &&& (1099511627775 : Int64))), .second, .val (.long r1), .second, .val (.long (r1 / (4 : Int64))), .second, .val (.int z2)] [(.long (2 : Int64)), (.long (r1 / (4 : Int64)))])) (by intro t k; exact X1.ldc2Long hx hown (mvT hZ (hw _ (List.mem_of_getElem? (i := 10) rfl))) (g := (mkF m 77 #[.val (.long q0), .second, .val (.long (q0 &&& (1099511627775 : Int64))), .second, .val (.long r1), .second, .val (.long (r1 / (4 : Int64))), .second, .val (.int z2)] [(.long (r1 / (4 : Int64)))])) rfl (hb hby at_77) _ k) ?_
          show Run _ _ _ _ _ _ _ T1 (mkF m 80 #[.val (.long q0), .second, .val (.long (q0 &&& (1099511627775 : Int64))), .second, .val (.long r1), .second, .val (.long (r1 / (4 : Int64))), .second, .val (.int z2)] [(.long (2 : Int64)), (.long (r1 / (4 : Int64)))])
          refine go (T' := T1) (f' := (mkF m 81 #[.val (.long q0), .second, .val (.long (q0 &&& (1099511627775 : Int64))), .second, .val (.long r1), .second, .val (.long (r1 / (4 : Int64))), .second, .val (.int z2)] [(.long (q0 &&& (1099511627775 : Int64))), (.long (2 : Int64)), (.long (r1 / (4 : Int64)))])) (by intro t k; exact XS.lloadN X1.here hx rfl (hb hby at_80) rfl k) ?_
          show Run _ _ _ _ _ _ _ T1 (mkF m 81 #[.val (.long q0), .second, .val (.long (q0 &&& (1099511627775 : Int64))), .second, .val (.long r1), .second, .val (.long (r1 / (4 : Int64))), .second, .val (.int z2)] [(.long (q0 &&& (1099511627775 : Int64))), (.long (2 : Int64)), (.long (r1 / (4 : Int64)))])
          refine go (T' := T1) (f' := (mkF m 82 #[.val (.long q0), .second, .val (.long (q0 &&& (1099511627775 : Int64))), .second, .val (.long r1), .second, .val (.long (r1 / (4 : Int64))), .second, .val (.int z2)] [(.long ((2 : Int64) * (q0 &&& (1099511627775 : Int64)))), (.long (r1 / (4 : Int64)))])) (by intro t k; exact XS.lmul X1.here hx rfl (hb hby at_81) rfl k) ?_
          show Run _ _ _ _ _ _ _ T1 (mkF m 82 #[.val (.long q0), .second, .val (.long (q0 &&& (1099511627775 : Int64))), .second, .val (.long r1), .second, .val (.long (r1 / (4 : Int64))), .second, .val (.int z2)] [(.long ((2 : Int64) * (q0 &&& (1099511627775 : Int64)))), (.long (r1 / (4 : Int64)))])
          refine go (T' := T1) (f' := (mkF m 83 #[.val (.long q0), .second, .val (.long (q0 &&& (1099511627775 : Int64))), .second, .val (.long r1), .second, .val (.long (r1 / (4 : Int64))), .second, .val (.int z2)] [(.int (lcmpW (r1 / (4 : Int64)) ((2 : Int64) * (q0 &&& (1099511627775 : Int64)))))])) (by intro t k; exact XS.lcmp X1.here hx rfl (hb hby at_82) rfl k) ?_
          show Run _ _ _ _ _ _ _ T1 (mkF m 83 #[.val (.long q0), .second, .val (.long (q0 &&& (1099511627775 : Int64))), .second, .val (.long r1), .second, .val (.long (r1 / (4 : Int64))), .second, .val (.int z2)] [(.int (lcmpW (r1 / (4 : Int64)) ((2 : Int64) * (q0 &&& (1099511627775 : Int64)))))])
          by_cases hc83 : (r1 / (4 : Int64)) < ((2 : Int64) * (q0 &&& (1099511627775 : Int64)))
          · refine go (T' := T1) (f' := (mkF m 86 #[.val (.long q0), .second, .val (.long (q0 &&& (1099511627775 : Int64))), .second, .val (.long r1), .second, .val (.long (r1 / (4 : Int64))), .second, .val (.int z2)] [])) (by intro t k; exact XS.ifNo X1.here hx rfl (hb hby at_83) rfl ((if0 _ _).trans (tlt ((lw_lt _ _).mpr hc83)).2.1) k) ?_
            show Run _ _ _ _ _ _ _ T1 (mkF m 86 #[.val (.long q0), .second, .val (.long (q0 &&& (1099511627775 : Int64))), .second, .val (.long r1), .second, .val (.long (r1 / (4 : Int64))), .second, .val (.int z2)] [])
            refine go (T' := T1) (f' := (mkF m 87 #[.val (.long q0), .second, .val (.long (q0 &&& (1099511627775 : Int64))), .second, .val (.long r1), .second, .val (.long (r1 / (4 : Int64))), .second, .val (.int z2)] [(.int (0 : Int32))])) (by intro t k; exact XS.iconst X1.here hx rfl (hb hby at_86) k) ?_
            show Run _ _ _ _ _ _ _ T1 (mkF m 87 #[.val (.long q0), .second, .val (.long (q0 &&& (1099511627775 : Int64))), .second, .val (.long r1), .second, .val (.long (r1 / (4 : Int64))), .second, .val (.int z2)] [(.int (0 : Int32))])
            refine retZ X1 hx (t := .boolean) Bd.returns (by simp) (hb hby at_87) hlk (by decide) (by decide) ?_
            show Q0 Z q0 h0 n0 _ T1.heap _
            rw [e1]
            have hv' : (nar .boolean (0 : Int32)) = (1 : Int32) := by
              obtain ⟨f1, f2, f3, f4, f5, f6⟩ := own_facts (own_mask q0).1 (own_mask q0).2 hR1
              simp_all [nar]
            have hv : (some (.int (nar .boolean (0 : Int32))) : Option Value) = some (.int (1 : Int32)) := by rw [hv']
            exact ⟨hv, N1⟩
          · refine go (T' := T1) (f' := (mkF m 88 #[.val (.long q0), .second, .val (.long (q0 &&& (1099511627775 : Int64))), .second, .val (.long r1), .second, .val (.long (r1 / (4 : Int64))), .second, .val (.int z2)] [])) (by intro t k; exact XS.ifYes X1.here hx rfl (pc0 := 83) (pc' := 88) rfl (hb hby at_83) rfl ((if0 _ _).trans (flt (fun q => hc83 ((lw_lt _ _).mp q))).2.1) (by decide) (by decide) k) ?_
            show Run _ _ _ _ _ _ _ T1 (mkF m 88 #[.val (.long q0), .second, .val (.long (q0 &&& (1099511627775 : Int64))), .second, .val (.long r1), .second, .val (.long (r1 / (4 : Int64))), .second, .val (.int z2)] [])
            refine go (T' := T1) (f' := (mkF m 90 #[.val (.long q0), .second, .val (.long (q0 &&& (1099511627775 : Int64))), .second, .val (.long r1), .second, .val (.long (r1 / (4 : Int64))), .second, .val (.int z2)] [(.long (r1 / (4 : Int64)))])) (by intro t k; exact XS.lload X1.here hx rfl (hb hby at_88) rfl k) ?_
            show Run _ _ _ _ _ _ _ T1 (mkF m 90 #[.val (.long q0), .second, .val (.long (q0 &&& (1099511627775 : Int64))), .second, .val (.long r1), .second, .val (.long (r1 / (4 : Int64))), .second, .val (.int z2)] [(.long (r1 / (4 : Int64)))])
            refine go (T' := T1) (f' := (mkF m 93 #[.val (.long q0), .second, .val (.long (q0 &&& (1099511627775 : Int64))), .second, .val (.long r1), .second, .val (.long (r1 / (4 : Int64))), .second, .val (.int z2)] [(.long (1024 : Int64)), (.long (r1 / (4 : Int64)))])) (by intro t k; exact X1.ldc2Long hx hown (mvT hZ (hw _ (List.mem_of_getElem? (i := 9) rfl))) (g := (mkF m 90 #[.val (.long q0), .second, .val (.long (q0 &&& (1099511627775 : Int64))), .second, .val (.long r1), .second, .val (.long (r1 / (4 : Int64))), .second, .val (.int z2)] [(.long (r1 / (4 : Int64)))])) rfl (hb hby at_90) _ k) ?_
            show Run _ _ _ _ _ _ _ T1 (mkF m 93 #[.val (.long q0), .second, .val (.long (q0 &&& (1099511627775 : Int64))), .second, .val (.long r1), .second, .val (.long (r1 / (4 : Int64))), .second, .val (.int z2)] [(.long (1024 : Int64)), (.long (r1 / (4 : Int64)))])
            refine go (T' := T1) (f' := (mkF m 94 #[.val (.long q0), .second, .val (.long (q0 &&& (1099511627775 : Int64))), .second, .val (.long r1), .second, .val (.long (r1 / (4 : Int64))), .second, .val (.int z2)] [(.int (lcmpW (r1 / (4 : Int64)) (1024 : Int64)))])) (by intro t k; exact XS.lcmp X1.here hx rfl (hb hby at_93) rfl k) ?_
            show Run _ _ _ _ _ _ _ T1 (mkF m 94 #[.val (.long q0), .second, .val (.long (q0 &&& (1099511627775 : Int64))), .second, .val (.long r1), .second, .val (.long (r1 / (4 : Int64))), .second, .val (.int z2)] [(.int (lcmpW (r1 / (4 : Int64)) (1024 : Int64)))])
            obtain ⟨z3, hz3⟩ : ∃ z : Int32, z = (if (r1 / (4 : Int64)) = (1024 : Int64) then (1 : Int32) else (if ((r1 / (4 : Int64)) / (2 : Int64)) < ((2 : Int64) * (q0 &&& (1099511627775 : Int64))) then (1 : Int32) else (0 : Int32))) := ⟨_, rfl⟩
            have J94 : Run p e s below (Q0 Z q0 h0 n0) room_1.cells room_1.slots T1 (mkF m 117 #[.val (.long q0), .second, .val (.long (q0 &&& (1099511627775 : Int64))), .second, .val (.long r1), .second, .val (.long (r1 / (4 : Int64))), .second, .val (.int z2)] [(.int z3)]) := by
              show Run _ _ _ _ _ _ _ T1 (mkF m 117 #[.val (.long q0), .second, .val (.long (q0 &&& (1099511627775 : Int64))), .second, .val (.long r1), .second, .val (.long (r1 / (4 : Int64))), .second, .val (.int z2)] [(.int z3)])
              refine retZ X1 hx (t := .boolean) Bd.returns (by simp) (hb hby at_117) hlk (by decide) (by decide) ?_
              show Q0 Z q0 h0 n0 _ T1.heap _
              rw [e1]
              have hv' : (nar .boolean z3) = (1 : Int32) := by
                obtain ⟨f1, f2, f3, f4, f5, f6⟩ := own_facts (own_mask q0).1 (own_mask q0).2 hR1
                simp_all [nar]
              have hv : (some (.int (nar .boolean z3)) : Option Value) = some (.int (1 : Int32)) := by rw [hv']
              exact ⟨hv, N1⟩
            show Run _ _ _ _ _ _ _ T1 (mkF m 94 #[.val (.long q0), .second, .val (.long (q0 &&& (1099511627775 : Int64))), .second, .val (.long r1), .second, .val (.long (r1 / (4 : Int64))), .second, .val (.int z2)] [(.int (lcmpW (r1 / (4 : Int64)) (1024 : Int64)))])
            by_cases hc94 : (r1 / (4 : Int64)) = (1024 : Int64)
            · refine go (T' := T1) (f' := (mkF m 112 #[.val (.long q0), .second, .val (.long (q0 &&& (1099511627775 : Int64))), .second, .val (.long r1), .second, .val (.long (r1 / (4 : Int64))), .second, .val (.int z2)] [])) (by intro t k; exact XS.ifYes X1.here hx rfl (pc0 := 94) (pc' := 112) rfl (hb hby at_94) rfl ((if0 _ _).trans (teq ((lw_eq _ _).mpr hc94)).1) (by decide) (by decide) k) ?_
              show Run _ _ _ _ _ _ _ T1 (mkF m 112 #[.val (.long q0), .second, .val (.long (q0 &&& (1099511627775 : Int64))), .second, .val (.long r1), .second, .val (.long (r1 / (4 : Int64))), .second, .val (.int z2)] [])
              refine go (T' := T1) (f' := (mkF m 113 #[.val (.long q0), .second, .val (.long (q0 &&& (1099511627775 : Int64))), .second, .val (.long r1), .second, .val (.long (r1 / (4 : Int64))), .second, .val (.int z2)] [(.int (1 : Int32))])) (by intro t k; exact XS.iconst X1.here hx rfl (hb hby at_112) k) ?_
              show Run _ _ _ _ _ _ _ T1 (mkF m 113 #[.val (.long q0), .second, .val (.long (q0 &&& (1099511627775 : Int64))), .second, .val (.long r1), .second, .val (.long (r1 / (4 : Int64))), .second, .val (.int z2)] [(.int (1 : Int32))])
              refine go (T' := T1) (f' := (mkF m 117 #[.val (.long q0), .second, .val (.long (q0 &&& (1099511627775 : Int64))), .second, .val (.long r1), .second, .val (.long (r1 / (4 : Int64))), .second, .val (.int z2)] [(.int (1 : Int32))])) (by intro t k; exact XS.goto X1.here hx rfl (pc0 := 113) (pc' := 117) rfl (hb hby at_113) (by decide) (by decide) k) ?_
              have ez3 : z3 = (1 : Int32) := (hz3).trans (if_pos hc94)
              subst ez3
              exact J94
            · refine go (T' := T1) (f' := (mkF m 97 #[.val (.long q0), .second, .val (.long (q0 &&& (1099511627775 : Int64))), .second, .val (.long r1), .second, .val (.long (r1 / (4 : Int64))), .second, .val (.int z2)] [])) (by intro t k; exact XS.ifNo X1.here hx rfl (hb hby at_94) rfl ((if0 _ _).trans (feq (fun q => hc94 ((lw_eq _ _).mp q))).1) k) ?_
              show Run _ _ _ _ _ _ _ T1 (mkF m 97 #[.val (.long q0), .second, .val (.long (q0 &&& (1099511627775 : Int64))), .second, .val (.long r1), .second, .val (.long (r1 / (4 : Int64))), .second, .val (.int z2)] [])
              refine go (T' := T1) (f' := (mkF m 99 #[.val (.long q0), .second, .val (.long (q0 &&& (1099511627775 : Int64))), .second, .val (.long r1), .second, .val (.long (r1 / (4 : Int64))), .second, .val (.int z2)] [(.long (r1 / (4 : Int64)))])) (by intro t k; exact XS.lload X1.here hx rfl (hb hby at_97) rfl k) ?_
              show Run _ _ _ _ _ _ _ T1 (mkF m 99 #[.val (.long q0), .second, .val (.long (q0 &&& (1099511627775 : Int64))), .second, .val (.long r1), .second, .val (.long (r1 / (4 : Int64))), .second, .val (.int z2)] [(.long (r1 / (4 : Int64)))])
              refine go (T' := T1) (f' := (mkF m 102 #[.val (.long q0), .second, .val (.long (q0 &&& (1099511627775 : Int64))), .second, .val (.long r1), .second, .val (.long (r1 / (4 : Int64))), .second, .val (.int z2)] [(.long (2 : Int64)), (.long (r1 / (4 : Int64)))])) (by intro t k; exact X1.ldc2Long hx hown (mvT hZ (hw _ (List.mem_of_getElem? (i := 10) rfl))) (g := (mkF m 99 #[.val (.long q0), .second, .val (.long (q0 &&& (1099511627775 : Int64))), .second, .val (.long r1), .second, .val (.long (r1 / (4 : Int64))), .second, .val (.int z2)] [(.long (r1 / (4 : Int64)))])) rfl (hb hby at_99) _ k) ?_
              show Run _ _ _ _ _ _ _ T1 (mkF m 102 #[.val (.long q0), .second, .val (.long (q0 &&& (1099511627775 : Int64))), .second, .val (.long r1), .second, .val (.long (r1 / (4 : Int64))), .second, .val (.int z2)] [(.long (2 : Int64)), (.long (r1 / (4 : Int64)))])
              refine go (T' := T1) (f' := (mkF m 103 #[.val (.long q0), .second, .val (.long (q0 &&& (1099511627775 : Int64))), .second, .val (.long r1), .second, .val (.long (r1 / (4 : Int64))), .second, .val (.int z2)] [(.long ((r1 / (4 : Int64)) / (2 : Int64)))])) (by intro t k; exact XS.ldiv X1.here hx rfl (hb hby at_102) rfl (by decide) k) ?_
              show Run _ _ _ _ _ _ _ T1 (mkF m 103 #[.val (.long q0), .second, .val (.long (q0 &&& (1099511627775 : Int64))), .second, .val (.long r1), .second, .val (.long (r1 / (4 : Int64))), .second, .val (.int z2)] [(.long ((r1 / (4 : Int64)) / (2 : Int64)))])
              refine go (T' := T1) (f' := (mkF m 106 #[.val (.long q0), .second, .val (.long (q0 &&& (1099511627775 : Int64))), .second, .val (.long r1), .second, .val (.long (r1 / (4 : Int64))), .second, .val (.int z2)] [(.long (2 : Int64)), (.long ((r1 / (4 : Int64)) / (2 : Int64)))])) (by intro t k; exact X1.ldc2Long hx hown (mvT hZ (hw _ (List.mem_of_getElem? (i := 10) rfl))) (g := (mkF m 103 #[.val (.long q0), .second, .val (.long (q0 &&& (1099511627775 : Int64))), .second, .val (.long r1), .second, .val (.long (r1 / (4 : Int64))), .second, .val (.int z2)] [(.long ((r1 / (4 : Int64)) / (2 : Int64)))])) rfl (hb hby at_103) _ k) ?_
              show Run _ _ _ _ _ _ _ T1 (mkF m 106 #[.val (.long q0), .second, .val (.long (q0 &&& (1099511627775 : Int64))), .second, .val (.long r1), .second, .val (.long (r1 / (4 : Int64))), .second, .val (.int z2)] [(.long (2 : Int64)), (.long ((r1 / (4 : Int64)) / (2 : Int64)))])
              refine go (T' := T1) (f' := (mkF m 107 #[.val (.long q0), .second, .val (.long (q0 &&& (1099511627775 : Int64))), .second, .val (.long r1), .second, .val (.long (r1 / (4 : Int64))), .second, .val (.int z2)] [(.long (q0 &&& (1099511627775 : Int64))), (.long (2 : Int64)), (.long ((r1 / (4 : Int64)) / (2 : Int64)))])) (by intro t k; exact XS.lloadN X1.here hx rfl (hb hby at_106) rfl k) ?_
              show Run _ _ _ _ _ _ _ T1 (mkF m 107 #[.val (.long q0), .second, .val (.long (q0 &&& (1099511627775 : Int64))), .second, .val (.long r1), .second, .val (.long (r1 / (4 : Int64))), .second, .val (.int z2)] [(.long (q0 &&& (1099511627775 : Int64))), (.long (2 : Int64)), (.long ((r1 / (4 : Int64)) / (2 : Int64)))])
              refine go (T' := T1) (f' := (mkF m 108 #[.val (.long q0), .second, .val (.long (q0 &&& (1099511627775 : Int64))), .second, .val (.long r1), .second, .val (.long (r1 / (4 : Int64))), .second, .val (.int z2)] [(.long ((2 : Int64) * (q0 &&& (1099511627775 : Int64)))), (.long ((r1 / (4 : Int64)) / (2 : Int64)))])) (by intro t k; exact XS.lmul X1.here hx rfl (hb hby at_107) rfl k) ?_
              show Run _ _ _ _ _ _ _ T1 (mkF m 108 #[.val (.long q0), .second, .val (.long (q0 &&& (1099511627775 : Int64))), .second, .val (.long r1), .second, .val (.long (r1 / (4 : Int64))), .second, .val (.int z2)] [(.long ((2 : Int64) * (q0 &&& (1099511627775 : Int64)))), (.long ((r1 / (4 : Int64)) / (2 : Int64)))])
              refine go (T' := T1) (f' := (mkF m 109 #[.val (.long q0), .second, .val (.long (q0 &&& (1099511627775 : Int64))), .second, .val (.long r1), .second, .val (.long (r1 / (4 : Int64))), .second, .val (.int z2)] [(.int (lcmpW ((r1 / (4 : Int64)) / (2 : Int64)) ((2 : Int64) * (q0 &&& (1099511627775 : Int64)))))])) (by intro t k; exact XS.lcmp X1.here hx rfl (hb hby at_108) rfl k) ?_
              show Run _ _ _ _ _ _ _ T1 (mkF m 109 #[.val (.long q0), .second, .val (.long (q0 &&& (1099511627775 : Int64))), .second, .val (.long r1), .second, .val (.long (r1 / (4 : Int64))), .second, .val (.int z2)] [(.int (lcmpW ((r1 / (4 : Int64)) / (2 : Int64)) ((2 : Int64) * (q0 &&& (1099511627775 : Int64)))))])
              by_cases hc109 : ((r1 / (4 : Int64)) / (2 : Int64)) < ((2 : Int64) * (q0 &&& (1099511627775 : Int64)))
              · refine go (T' := T1) (f' := (mkF m 112 #[.val (.long q0), .second, .val (.long (q0 &&& (1099511627775 : Int64))), .second, .val (.long r1), .second, .val (.long (r1 / (4 : Int64))), .second, .val (.int z2)] [])) (by intro t k; exact XS.ifNo X1.here hx rfl (hb hby at_109) rfl ((if0 _ _).trans (tlt ((lw_lt _ _).mpr hc109)).2.1) k) ?_
                show Run _ _ _ _ _ _ _ T1 (mkF m 112 #[.val (.long q0), .second, .val (.long (q0 &&& (1099511627775 : Int64))), .second, .val (.long r1), .second, .val (.long (r1 / (4 : Int64))), .second, .val (.int z2)] [])
                refine go (T' := T1) (f' := (mkF m 113 #[.val (.long q0), .second, .val (.long (q0 &&& (1099511627775 : Int64))), .second, .val (.long r1), .second, .val (.long (r1 / (4 : Int64))), .second, .val (.int z2)] [(.int (1 : Int32))])) (by intro t k; exact XS.iconst X1.here hx rfl (hb hby at_112) k) ?_
                show Run _ _ _ _ _ _ _ T1 (mkF m 113 #[.val (.long q0), .second, .val (.long (q0 &&& (1099511627775 : Int64))), .second, .val (.long r1), .second, .val (.long (r1 / (4 : Int64))), .second, .val (.int z2)] [(.int (1 : Int32))])
                refine go (T' := T1) (f' := (mkF m 117 #[.val (.long q0), .second, .val (.long (q0 &&& (1099511627775 : Int64))), .second, .val (.long r1), .second, .val (.long (r1 / (4 : Int64))), .second, .val (.int z2)] [(.int (1 : Int32))])) (by intro t k; exact XS.goto X1.here hx rfl (pc0 := 113) (pc' := 117) rfl (hb hby at_113) (by decide) (by decide) k) ?_
                have ez3 : z3 = (1 : Int32) := ((hz3).trans (if_neg hc94)).trans (if_pos hc109)
                subst ez3
                exact J94
              · refine go (T' := T1) (f' := (mkF m 116 #[.val (.long q0), .second, .val (.long (q0 &&& (1099511627775 : Int64))), .second, .val (.long r1), .second, .val (.long (r1 / (4 : Int64))), .second, .val (.int z2)] [])) (by intro t k; exact XS.ifYes X1.here hx rfl (pc0 := 109) (pc' := 116) rfl (hb hby at_109) rfl ((if0 _ _).trans (flt (fun q => hc109 ((lw_lt _ _).mp q))).2.1) (by decide) (by decide) k) ?_
                show Run _ _ _ _ _ _ _ T1 (mkF m 116 #[.val (.long q0), .second, .val (.long (q0 &&& (1099511627775 : Int64))), .second, .val (.long r1), .second, .val (.long (r1 / (4 : Int64))), .second, .val (.int z2)] [])
                refine go (T' := T1) (f' := (mkF m 117 #[.val (.long q0), .second, .val (.long (q0 &&& (1099511627775 : Int64))), .second, .val (.long r1), .second, .val (.long (r1 / (4 : Int64))), .second, .val (.int z2)] [(.int (0 : Int32))])) (by intro t k; exact XS.iconst X1.here hx rfl (hb hby at_116) k) ?_
                have ez3 : z3 = (0 : Int32) := ((hz3).trans (if_neg hc94)).trans (if_neg hc109)
                subst ez3
                exact J94
    show Run _ _ _ _ _ _ _ T1 (mkF m 37 #[.val (.long q0), .second, .val (.long (q0 &&& (1099511627775 : Int64))), .second, .val (.long r1), .second, .val (.long (r1 / (4 : Int64))), .second, .unset] [(.int (lcmpW (r1 / (4 : Int64)) (0 : Int64)))])
    by_cases hc37 : (0 : Int64) < (r1 / (4 : Int64))
    · refine go (T' := T1) (f' := (mkF m 40 #[.val (.long q0), .second, .val (.long (q0 &&& (1099511627775 : Int64))), .second, .val (.long r1), .second, .val (.long (r1 / (4 : Int64))), .second, .unset] [])) (by intro t k; exact XS.ifNo X1.here hx rfl (hb hby at_37) rfl ((if0 _ _).trans (tlt ((lw_gt _ _).mpr hc37)).2.2.2) k) ?_
      show Run _ _ _ _ _ _ _ T1 (mkF m 40 #[.val (.long q0), .second, .val (.long (q0 &&& (1099511627775 : Int64))), .second, .val (.long r1), .second, .val (.long (r1 / (4 : Int64))), .second, .unset] [])
      refine go (T' := T1) (f' := (mkF m 42 #[.val (.long q0), .second, .val (.long (q0 &&& (1099511627775 : Int64))), .second, .val (.long r1), .second, .val (.long (r1 / (4 : Int64))), .second, .unset] [(.long (r1 / (4 : Int64)))])) (by intro t k; exact XS.lload X1.here hx rfl (hb hby at_40) rfl k) ?_
      show Run _ _ _ _ _ _ _ T1 (mkF m 42 #[.val (.long q0), .second, .val (.long (q0 &&& (1099511627775 : Int64))), .second, .val (.long r1), .second, .val (.long (r1 / (4 : Int64))), .second, .unset] [(.long (r1 / (4 : Int64)))])
      refine go (T' := T1) (f' := (mkF m 44 #[.val (.long q0), .second, .val (.long (q0 &&& (1099511627775 : Int64))), .second, .val (.long r1), .second, .val (.long (r1 / (4 : Int64))), .second, .unset] [(.long (r1 / (4 : Int64))), (.long (r1 / (4 : Int64)))])) (by intro t k; exact XS.lload X1.here hx rfl (hb hby at_42) rfl k) ?_
      show Run _ _ _ _ _ _ _ T1 (mkF m 44 #[.val (.long q0), .second, .val (.long (q0 &&& (1099511627775 : Int64))), .second, .val (.long r1), .second, .val (.long (r1 / (4 : Int64))), .second, .unset] [(.long (r1 / (4 : Int64))), (.long (r1 / (4 : Int64)))])
      refine go (T' := T1) (f' := (mkF m 45 #[.val (.long q0), .second, .val (.long (q0 &&& (1099511627775 : Int64))), .second, .val (.long r1), .second, .val (.long (r1 / (4 : Int64))), .second, .unset] [(.long (1 : Int64)), (.long (r1 / (4 : Int64))), (.long (r1 / (4 : Int64)))])) (by intro t k; exact XS.lconst X1.here hx rfl (hb hby at_44) k) ?_
      show Run _ _ _ _ _ _ _ T1 (mkF m 45 #[.val (.long q0), .second, .val (.long (q0 &&& (1099511627775 : Int64))), .second, .val (.long r1), .second, .val (.long (r1 / (4 : Int64))), .second, .unset] [(.long (1 : Int64)), (.long (r1 / (4 : Int64))), (.long (r1 / (4 : Int64)))])
      refine go (T' := T1) (f' := (mkF m 46 #[.val (.long q0), .second, .val (.long (q0 &&& (1099511627775 : Int64))), .second, .val (.long r1), .second, .val (.long (r1 / (4 : Int64))), .second, .unset] [(.long ((r1 / (4 : Int64)) - (1 : Int64))), (.long (r1 / (4 : Int64)))])) (by intro t k; exact XS.lsub X1.here hx rfl (hb hby at_45) rfl k) ?_
      show Run _ _ _ _ _ _ _ T1 (mkF m 46 #[.val (.long q0), .second, .val (.long (q0 &&& (1099511627775 : Int64))), .second, .val (.long r1), .second, .val (.long (r1 / (4 : Int64))), .second, .unset] [(.long ((r1 / (4 : Int64)) - (1 : Int64))), (.long (r1 / (4 : Int64)))])
      refine go (T' := T1) (f' := (mkF m 47 #[.val (.long q0), .second, .val (.long (q0 &&& (1099511627775 : Int64))), .second, .val (.long r1), .second, .val (.long (r1 / (4 : Int64))), .second, .unset] [(.long ((r1 / (4 : Int64)) &&& ((r1 / (4 : Int64)) - (1 : Int64))))])) (by intro t k; exact XS.land X1.here hx rfl (hb hby at_46) rfl k) ?_
      show Run _ _ _ _ _ _ _ T1 (mkF m 47 #[.val (.long q0), .second, .val (.long (q0 &&& (1099511627775 : Int64))), .second, .val (.long r1), .second, .val (.long (r1 / (4 : Int64))), .second, .unset] [(.long ((r1 / (4 : Int64)) &&& ((r1 / (4 : Int64)) - (1 : Int64))))])
      refine go (T' := T1) (f' := (mkF m 48 #[.val (.long q0), .second, .val (.long (q0 &&& (1099511627775 : Int64))), .second, .val (.long r1), .second, .val (.long (r1 / (4 : Int64))), .second, .unset] [(.long (0 : Int64)), (.long ((r1 / (4 : Int64)) &&& ((r1 / (4 : Int64)) - (1 : Int64))))])) (by intro t k; exact XS.lconst X1.here hx rfl (hb hby at_47) k) ?_
      show Run _ _ _ _ _ _ _ T1 (mkF m 48 #[.val (.long q0), .second, .val (.long (q0 &&& (1099511627775 : Int64))), .second, .val (.long r1), .second, .val (.long (r1 / (4 : Int64))), .second, .unset] [(.long (0 : Int64)), (.long ((r1 / (4 : Int64)) &&& ((r1 / (4 : Int64)) - (1 : Int64))))])
      refine go (T' := T1) (f' := (mkF m 49 #[.val (.long q0), .second, .val (.long (q0 &&& (1099511627775 : Int64))), .second, .val (.long r1), .second, .val (.long (r1 / (4 : Int64))), .second, .unset] [(.int (lcmpW ((r1 / (4 : Int64)) &&& ((r1 / (4 : Int64)) - (1 : Int64))) (0 : Int64)))])) (by intro t k; exact XS.lcmp X1.here hx rfl (hb hby at_48) rfl k) ?_
      show Run _ _ _ _ _ _ _ T1 (mkF m 49 #[.val (.long q0), .second, .val (.long (q0 &&& (1099511627775 : Int64))), .second, .val (.long r1), .second, .val (.long (r1 / (4 : Int64))), .second, .unset] [(.int (lcmpW ((r1 / (4 : Int64)) &&& ((r1 / (4 : Int64)) - (1 : Int64))) (0 : Int64)))])
      by_cases hc49 : ((r1 / (4 : Int64)) &&& ((r1 / (4 : Int64)) - (1 : Int64))) = (0 : Int64)
      · refine go (T' := T1) (f' := (mkF m 52 #[.val (.long q0), .second, .val (.long (q0 &&& (1099511627775 : Int64))), .second, .val (.long r1), .second, .val (.long (r1 / (4 : Int64))), .second, .unset] [])) (by intro t k; exact XS.ifNo X1.here hx rfl (hb hby at_49) rfl ((if0 _ _).trans (teq ((lw_eq _ _).mpr hc49)).2) k) ?_
        show Run _ _ _ _ _ _ _ T1 (mkF m 52 #[.val (.long q0), .second, .val (.long (q0 &&& (1099511627775 : Int64))), .second, .val (.long r1), .second, .val (.long (r1 / (4 : Int64))), .second, .unset] [])
        refine go (T' := T1) (f' := (mkF m 53 #[.val (.long q0), .second, .val (.long (q0 &&& (1099511627775 : Int64))), .second, .val (.long r1), .second, .val (.long (r1 / (4 : Int64))), .second, .unset] [(.int (1 : Int32))])) (by intro t k; exact XS.iconst X1.here hx rfl (hb hby at_52) k) ?_
        show Run _ _ _ _ _ _ _ T1 (mkF m 53 #[.val (.long q0), .second, .val (.long (q0 &&& (1099511627775 : Int64))), .second, .val (.long r1), .second, .val (.long (r1 / (4 : Int64))), .second, .unset] [(.int (1 : Int32))])
        refine go (T' := T1) (f' := (mkF m 57 #[.val (.long q0), .second, .val (.long (q0 &&& (1099511627775 : Int64))), .second, .val (.long r1), .second, .val (.long (r1 / (4 : Int64))), .second, .unset] [(.int (1 : Int32))])) (by intro t k; exact XS.goto X1.here hx rfl (pc0 := 53) (pc' := 57) rfl (hb hby at_53) (by decide) (by decide) k) ?_
        have ez2 : z2 = (1 : Int32) := ((hz2).trans (if_pos hc37)).trans (if_pos hc49)
        subst ez2
        exact J37
      · refine go (T' := T1) (f' := (mkF m 56 #[.val (.long q0), .second, .val (.long (q0 &&& (1099511627775 : Int64))), .second, .val (.long r1), .second, .val (.long (r1 / (4 : Int64))), .second, .unset] [])) (by intro t k; exact XS.ifYes X1.here hx rfl (pc0 := 49) (pc' := 56) rfl (hb hby at_49) rfl ((if0 _ _).trans (feq (fun q => hc49 ((lw_eq _ _).mp q))).2) (by decide) (by decide) k) ?_
        show Run _ _ _ _ _ _ _ T1 (mkF m 56 #[.val (.long q0), .second, .val (.long (q0 &&& (1099511627775 : Int64))), .second, .val (.long r1), .second, .val (.long (r1 / (4 : Int64))), .second, .unset] [])
        refine go (T' := T1) (f' := (mkF m 57 #[.val (.long q0), .second, .val (.long (q0 &&& (1099511627775 : Int64))), .second, .val (.long r1), .second, .val (.long (r1 / (4 : Int64))), .second, .unset] [(.int (0 : Int32))])) (by intro t k; exact XS.iconst X1.here hx rfl (hb hby at_56) k) ?_
        have ez2 : z2 = (0 : Int32) := ((hz2).trans (if_pos hc37)).trans (if_neg hc49)
        subst ez2
        exact J37
    · refine go (T' := T1) (f' := (mkF m 56 #[.val (.long q0), .second, .val (.long (q0 &&& (1099511627775 : Int64))), .second, .val (.long r1), .second, .val (.long (r1 / (4 : Int64))), .second, .unset] [])) (by intro t k; exact XS.ifYes X1.here hx rfl (pc0 := 37) (pc' := 56) rfl (hb hby at_37) rfl ((if0 _ _).trans (flt (fun q => hc37 ((lw_gt _ _).mp q))).2.2.2) (by decide) (by decide) k) ?_
      show Run _ _ _ _ _ _ _ T1 (mkF m 56 #[.val (.long q0), .second, .val (.long (q0 &&& (1099511627775 : Int64))), .second, .val (.long r1), .second, .val (.long (r1 / (4 : Int64))), .second, .unset] [])
      refine go (T' := T1) (f' := (mkF m 57 #[.val (.long q0), .second, .val (.long (q0 &&& (1099511627775 : Int64))), .second, .val (.long r1), .second, .val (.long (r1 / (4 : Int64))), .second, .unset] [(.int (0 : Int32))])) (by intro t k; exact XS.iconst X1.here hx rfl (hb hby at_56) k) ?_
      have ez2 : z2 = (0 : Int32) := (hz2).trans (if_neg hc37)
      subst ez2
      exact J37
  · refine go (T' := T1) (f' := (mkF m 23 #[.val (.long q0), .second, .val (.long (q0 &&& (1099511627775 : Int64))), .second, .val (.long r1), .second, .unset, .unset, .unset] [])) (by intro t k; exact XS.ifNo X1.here hx rfl (hb hby at_20) rfl ((if0 _ _).trans (feq (fun q => hc20 ((lw_eq _ _).mp q))).1) k) ?_
    show Run _ _ _ _ _ _ _ T1 (mkF m 23 #[.val (.long q0), .second, .val (.long (q0 &&& (1099511627775 : Int64))), .second, .val (.long r1), .second, .unset, .unset, .unset] [])
    refine go (T' := T1) (f' := (mkF m 24 #[.val (.long q0), .second, .val (.long (q0 &&& (1099511627775 : Int64))), .second, .val (.long r1), .second, .unset, .unset, .unset] [(.int (0 : Int32))])) (by intro t k; exact XS.iconst X1.here hx rfl (hb hby at_23) k) ?_
    show Run _ _ _ _ _ _ _ T1 (mkF m 24 #[.val (.long q0), .second, .val (.long (q0 &&& (1099511627775 : Int64))), .second, .val (.long r1), .second, .unset, .unset, .unset] [(.int (0 : Int32))])
    refine retZ X1 hx (t := .boolean) Bd.returns (by simp) (hb hby at_24) hlk (by decide) (by decide) ?_
    show Q0 Z q0 h0 n0 _ T1.heap _
    rw [e1]
    have hv' : (nar .boolean (0 : Int32)) = (1 : Int32) := by
      obtain ⟨f1, f2, f3, f4, f5, f6⟩ := own_facts (own_mask q0).1 (own_mask q0).2 hR1
      simp_all [nar]
    have hv : (some (.int (nar .boolean (0 : Int32))) : Option Value) = some (.int (1 : Int32)) := by rw [hv']
    exact ⟨hv, N1⟩
set_option maxRecDepth 65536 in
set_option maxHeartbeats 40000000 in
theorem comes_1 {Post : Tables → Env → Array Value → State → Outcome → State → Prop} (hpost : ∀ tb e args s v u, (limb_1_1.after args s (.returned v) u = true ∧ limb_1_2.after args s (.returned v) u = true ∧ True) → FrameEnd s (.returned v) u (Jvm.fieldLocs frame_1_writes args s ++ Jvm.arrayLocs frame_1_arrays args s ++ Jvm.staticLocs frame_1_statics s) 0 0 → Post tb e args s (.returned v) u) :
    ArmFor flags0 classFile x code maxLocals ret World_1 tables_1 room_1 Calls_1 rest_1 Pre_1 Post := by
  intro l hfl _ _ p e ha hc hk s m args below hf hA hF happ hP
  obtain ⟨hcalls, hrest, hpre⟩ := hP
  obtain ⟨-, -, -, hnamed, -, -, -, hat⟩ := (Spec.applies_iff hf).mp happ
  obtain ⟨hg, hn⟩ := and_e (Cond.before_iff.mp (show (Jvm.Cond.and given_1 narrow_1).before args s = true from hpre))
  obtain ⟨g1, g2⟩ := and_e hg
  obtain ⟨w0, rfl⟩ : ∃ w0 : Value, args = #[w0] := by
    have hs : args.size = 1 := by simpa [Cond.value, given_1] using g1
    obtain ⟨L⟩ := args
    match L, hs with
    | [w0], _ => exact ⟨w0, rfl⟩
  have hw := fun d (hd : d ∈ tables_1) => atoms_spec (ws := Jvm.Cond.code x code maxLocals ret :: tables_1) hat d (List.mem_cons_of_mem _ hd)
  have hfit : Fit s := fun {y c} hc i hi => by
    obtain ⟨ha, rfl⟩ := Array.getElem?_eq_some_iff.mp hc
    have q := List.all_eq_true.mp ((Array.all_eq_true_iff_forall_mem.mp hF) _ (Array.getElem_mem ha)) i (List.mem_range.mpr hi)
    simpa [Array.getElem?_eq_getElem hi] using q
  obtain ⟨i0, ei0⟩ := isL_v g2
  obtain rfl : w0 = (.long i0) := Option.some.inj ei0
  obtain ⟨n, o, h1, h2, h3, _, L, rfl, ⟨rfl, N⟩, hq⟩ := rm0 l s _ hw tables_1 i0 s.heap s.heap.size (Nat.le_refl _) p e ha hc hk s m _ below hf ((Spec.applies_iff_loose hf).mp happ).1 ⟨rfl, State.Warmed39.refl s, rfl⟩ trivial
  refine ⟨n, _, h1, h2, h3, hpost _ _ _ _ _ _ ⟨Cond.after_iff.mpr rfl, Cond.after_iff.mpr (eq_i res_at (Term.int_eval (1)) rfl), trivial⟩ ⟨hq.1, hq.2.1, (hq.2.2.sift fun y hy => Or.inr (N y hy)).mono (by decide) (by decide)⟩⟩
theorem main_1_1 : Claimed_1_1 := comes_1 fun _ _ _ _ _ _ h hF => ⟨h.1, hF⟩
theorem main_1_2 : Claimed_1_2 := comes_1 fun _ _ _ _ _ _ h hF => ⟨h.2.1, hF⟩
end Jvm.Pilot.@@N@@
namespace Jvm.Pilot.@@N@@
open Jvm Jvm.ClassFile Sem Op Lib Jvm.Free Jvm.Stand Jvm.Pilot.@@N@@.Jvm.D
/-! MADE BY PROGRAM (witnessworld.py) out of the Statement's table words and the real class files: 9 classes; the members and pool entries that the words name. The judged class is class 1, her method 1. -/
namespace start1
open Jvm.ClassFile
def u (s : String) : CpInfo := .utf8 (stringToUtf16 s)
/-- a pool by its gaps: so many unusable entries, then the entry; so many at the end -/
def gap : Nat → List CpInfo → List CpInfo
  | 0, r => r
  | n + 1, r => .unusable :: gap n r
def poolList (es : List (Nat × CpInfo)) (last : Nat) : List CpInfo := es.foldr (fun e r => gap e.1 (e.2 :: r)) (gap last [])
def pool (es : List (Nat × CpInfo)) (last : Nat) : Array CpInfo := ⟨poolList es last⟩
def fileOf (pool : Array CpInfo) (this : Nat) (attrs : Array Attribute := #[]) (ms : Array MethodInfo := #[]) (fl : Nat := 33) (sup : Nat := 0) (ifs : Array Nat := #[]) (fds : Array FieldInfo := #[]) : ClassFile where
  minorVersion := 0
  majorVersion := 65
  constantPool := pool
  accessFlags := fl
  thisClass := this
  superClass := sup
  interfaces := ifs
  fields := fds
  methods := ms
  attributes := attrs
def plain (name : String) (sup : Option ClassId) : Class where
  name := name
  kind := .ordinary
  loader := none
  accessFlags := 33
  super := sup
  interfaces := #[]
  cf := none
  fields := #[]
  methods := #[]
  instanceTypes := #[]
  staticTypes := #[]
  resolved := #[]
  callSites := []
  init := .initialized
  statics := none
  mirror := none

def pool0 : Array CpInfo := pool [(5, u "<init>"), (0, u "()V"), (1, .class_ 10), (1, u "java/lang/Object")] 113

def k0m0 : Method := { name := "<init>", desc := "()V", sig := { parameters := [], returnType := none }, accessFlags := 1, code := none }
/-- java/lang/Object -/
def k0 : Class := { plain "java/lang/Object" none with
  accessFlags := 33
  interfaces := #[]
  cf := some (fileOf pool0 8 #[] #[{ accessFlags := 1, nameIndex := 5, descriptorIndex := 6, attributes := #[] }] 33 0 #[] #[])
  fields := #[]
  methods := #[k0m0]
  instanceTypes := #[]
  staticTypes := #[]
  resolved := Array.replicate 124 none
  statics := none }

def pool1 : Array CpInfo := pool [(2, .class_ 4), (1, u "java/lang/Object"), (0, u "<init>"), (0, u "()V"), (0, .long 1099511627775), (1, .methodref 10 11), (0, .class_ 12), (0, .nameAndType 13 14), (0, u "com/example/petrel/petrel/model/StateIndex"), (0, u "tableBytes"), (0, u "(J)J"), (0, .long 4), (1, .long 1024), (1, .long 2), (1, .class_ 22), (0, u "com/example/petrel/petrel/model/StateIndexTableBytesPinLaw"), (2, u "law"), (0, u "(J)Z")] 3

def k1m0 : Method := { name := "<init>", desc := "()V", sig := { parameters := [], returnType := none }, accessFlags := 2, code := none }
def k1c1 : Code := { maxStack := 6, maxLocals := 9, code := code, exceptionTable := #[], attributes := #[] }
def k1m1 : Method := { name := "law", desc := "(J)Z", sig := { parameters := [.long], returnType := some .boolean }, accessFlags := 9, code := some k1c1 }
/-- com/example/petrel/petrel/model/StateIndexTableBytesPinLaw -/
def k1 : Class := { plain "com/example/petrel/petrel/model/StateIndexTableBytesPinLaw" (some 0) with
  accessFlags := 49
  interfaces := #[]
  cf := some (fileOf pool1 21 #[] #[{ accessFlags := 2, nameIndex := 5, descriptorIndex := 6, attributes := #[] }, { accessFlags := 9, nameIndex := 25, descriptorIndex := 26, attributes := #[] }] 49 2 #[] #[])
  fields := #[]
  methods := #[k1m0, k1m1]
  instanceTypes := #[]
  staticTypes := #[]
  resolved := Array.replicate 30 none
  statics := none }

def pool2 : Array CpInfo := pool [(2, .class_ 4), (1, u "java/lang/Object"), (2, .class_ 8), (0, u "com/example/petrel/petrel/model/StateIndex"), (2, u "table"), (0, u "[I"), (11, u "words"), (0, u "I"), (0, .long 1024), (1, .long 2), (3, .long 4), (13, u "size"), (8, u "first"), (11, u "(J)J"), (4, u "MAX_SIZE"), (1, u "INITIAL_LENGTH"), (5, u "tableBytes")] 25

def k2c0 : Code := { maxStack := 6, maxLocals := 4, code := prog_95_method_2_code, exceptionTable := #[], attributes := #[] }
def k2m0 : Method := { name := "tableBytes", desc := "(J)J", sig := { parameters := [.long], returnType := some .long }, accessFlags := 9, code := some k2c0 }
/-- com/example/petrel/petrel/model/StateIndex -/
def k2 : Class := { plain "com/example/petrel/petrel/model/StateIndex" (some 0) with
  accessFlags := 49
  interfaces := #[]
  cf := some (fileOf pool2 7 #[] #[{ accessFlags := 9, nameIndex := 80, descriptorIndex := 67, attributes := #[] }] 49 2 #[] #[{ accessFlags := 25, nameIndex := 72, descriptorIndex := 25, attributes := #[] }, { accessFlags := 26, nameIndex := 74, descriptorIndex := 25, attributes := #[] }, { accessFlags := 18, nameIndex := 24, descriptorIndex := 25, attributes := #[] }, { accessFlags := 2, nameIndex := 55, descriptorIndex := 25, attributes := #[] }, { accessFlags := 2, nameIndex := 46, descriptorIndex := 25, attributes := #[] }, { accessFlags := 2, nameIndex := 11, descriptorIndex := 12, attributes := #[] }])
  fields := #[{ name := "MAX_SIZE", type := .int, accessFlags := 25, slot := 0, constantValue := 0 }, { name := "INITIAL_LENGTH", type := .int, accessFlags := 26, slot := 1, constantValue := 0 }, { name := "words", type := .int, accessFlags := 18, slot := 0, constantValue := 0 }, { name := "first", type := .int, accessFlags := 2, slot := 1, constantValue := 0 }, { name := "size", type := .int, accessFlags := 2, slot := 2, constantValue := 0 }, { name := "table", type := (.array .int), accessFlags := 2, slot := 3, constantValue := 0 }]
  methods := #[k2m0]
  instanceTypes := #[.int, .int, .int, (.array .int)]
  staticTypes := #[.int, .int]
  resolved := Array.replicate 106 none
  statics := none }

def pool3 : Array CpInfo := pool [(1, u "java/lang/Cloneable"), (0, .class_ 1), (0, u "java/lang/Object"), (0, .class_ 3)] 3

/-- java/lang/Cloneable -/
def k3 : Class := { plain "java/lang/Cloneable" (some 0) with
  accessFlags := 1537
  interfaces := #[]
  cf := some (fileOf pool3 2 #[] #[] 1537 4 #[] #[])
  fields := #[]
  methods := #[]
  instanceTypes := #[]
  staticTypes := #[]
  resolved := Array.replicate 8 none
  statics := none }

def pool4 : Array CpInfo := pool [(1, u "java/io/Serializable"), (0, .class_ 1), (0, u "java/lang/Object"), (0, .class_ 3)] 3

/-- java/io/Serializable -/
def k4 : Class := { plain "java/io/Serializable" (some 0) with
  accessFlags := 1537
  interfaces := #[]
  cf := some (fileOf pool4 2 #[] #[] 1537 4 #[] #[])
  fields := #[]
  methods := #[]
  instanceTypes := #[]
  staticTypes := #[]
  resolved := Array.replicate 8 none
  statics := none }

/-- the primitive byte -/
def k5 : Class := { plain "byte" none with kind := .primitive 'B', accessFlags := 0x411 }
/-- [B -/
def k6 : Class := { plain "[B" (some 0) with kind := .array 5 .byte, interfaces := #[3, 4], accessFlags := 1041 }

/-- the primitive int -/
def k7 : Class := { plain "int" none with kind := .primitive 'I', accessFlags := 0x411 }
/-- [I -/
def k8 : Class := { plain "[I" (some 0) with kind := .array 7 .int, interfaces := #[3, 4], accessFlags := 1041 }

def heap : Heap := #[]
def classes : Array Class := #[k0, k1, k2, k3, k4, k5, k6, k7, k8]
def interned : List (Array UInt16 × Addr) := []
def slotsUsed : Nat := 0
def theMethod : MethodId := ⟨1, 1⟩
def args0 : Array Value := #[.long 5]
def aboutOver (below : List Frame) : State where
  vm := { classes := classes, interned := interned.toArray }
  heap := heap
  slotsUsed := slotsUsed
  threads := #[{ frames := .invoking theMethod args0 :: below }]
def below0 : List Frame := [.native { method := ⟨0, 0⟩, args := #[] }]
def about1 : State := aboutOver below0
def p0 : Program := .bare "" "" ""
def e0 : Env := launch0.env 0 0 0
theorem w_frames : about1.frames = Frame.invoking theMethod args0 :: below0 := rfl
set_option maxRecDepth 65536 in
theorem w_args : argsFit about1.vm theMethod args0 = true := by decide +kernel
set_option maxRecDepth 65536 in
theorem w_heap : heapFits about1 = true := by decide +kernel
set_option maxRecDepth 65536 in
theorem w_runnable : about1.curStatus? = some .runnable := by decide +kernel
set_option maxRecDepth 65536 in
theorem w_alone : about1.alone = true := by decide +kernel
set_option maxRecDepth 65536 in
theorem w_named : about1.methodNamed? x = some theMethod := by decide +kernel
set_option maxRecDepth 65536 in
theorem w_hears : about1.hears theMethod below0 = true := by decide +kernel
set_option maxRecDepth 65536 in
theorem w_ripe : about1.ripe theMethod args0 below0 = true := by decide +kernel
theorem w_running : about1.status = .running := rfl
set_option maxRecDepth 65536 in
theorem w_room : about1.hasRoom e0.platform room_1 = true :=
  launch0.hasRoom_least _ room_1 (by decide +kernel) (by decide +kernel) (by decide +kernel) (by decide +kernel) (by decide +kernel) (by decide +kernel)
theorem allAtoms_all (ts : List Jvm.Cond) (a : Array Jvm.Value) (st : Jvm.State) : (allAtoms ts).before a st = ts.all (fun c => c.before a st) := by
  induction ts with
  | nil => rfl
  | cons c t ih =>
    show (Jvm.Cond.and c (allAtoms t)).before a st = _
    rw [Jvm.Cond.before_and, ih, List.all_cons]
def words1 : List Jvm.Cond := Jvm.Cond.code x code maxLocals ret :: tables_1
/-- a 'code' word, met by the world's own term for the bytes: nothing is compared byte by byte -/
theorem code_word {y : MethodName} {bytes : ByteArray} {mx : Nat} {rt : Option FieldType} {a : Array Value} {s : State} {m : MethodId} {meth : Method} {c : Code} (h1 : s.methodNamed? y = some m) (h2 : s.vm.method? m = some meth) (h3 : meth.code = some c) (h4 : c.code = bytes)
    (h5 : (c.maxLocals == mx && c.exceptionTable.isEmpty && decide (c.maxStack ≤ mostOperands) && decide (meth.sig.returnType = rt) && !meth.locks && decide (parseMethodDescriptor y.desc = some meth.sig)) = true) : (Jvm.Cond.code y bytes mx rt).before a s = true := by
  simp only [Bool.and_eq_true, beq_iff_eq, Bool.not_eq_true', decide_eq_true_eq] at h5
  obtain ⟨⟨⟨⟨⟨g1, g2⟩, g3⟩, g4⟩, g5⟩, g6⟩ := h5
  simp [Cond.before, Cond.holds, Cond.value, h1, h2, h3, h4, g1, g2, g3, g4, g5, g6]
def isCode : Jvm.Cond → Bool
  | .code _ _ _ _ => true
  | _ => false
theorem all_split {L : List Jvm.Cond} {P : Jvm.Cond → Bool} (h1 : L.all (fun c => isCode c || P c) = true) (h2 : ∀ c ∈ L.filter isCode, P c = true) : L.all P = true := by
  refine List.all_eq_true.mpr fun c hc => ?_
  have h := List.all_eq_true.mp h1 c hc
  rcases Bool.eq_false_or_eq_true (isCode c) with hi | hi
  · exact h2 c (List.mem_filter.mpr ⟨hc, hi⟩)
  · simpa [hi] using h
set_option maxRecDepth 65536 in
theorem w_c0 : (Jvm.Cond.code x code maxLocals ret).before args0 about1 = true := code_word (m := ⟨1, 1⟩) (meth := k1m1) (c := k1c1) (by decide +kernel) rfl rfl rfl (by decide +kernel)
set_option maxRecDepth 65536 in
theorem w_c1 : (Jvm.Cond.code ({ cls := "com/example/petrel/petrel/model/StateIndex", name := "tableBytes", desc := "(J)J" } : Jvm.MethodName) prog_95_method_2_code (4 : Nat) (Option.some Jvm.ClassFile.FieldType.long)).before args0 about1 = true := code_word (m := ⟨2, 0⟩) (meth := k2m0) (c := k2c0) (by decide +kernel) rfl rfl rfl (by decide +kernel)
def codes1 : List Jvm.Cond := [Jvm.Cond.code x code maxLocals ret, Jvm.Cond.code ({ cls := "com/example/petrel/petrel/model/StateIndex", name := "tableBytes", desc := "(J)J" } : Jvm.MethodName) prog_95_method_2_code (4 : Nat) (Option.some Jvm.ClassFile.FieldType.long)]
set_option maxRecDepth 65536 in
theorem codes_eq : words1.filter isCode = codes1 := rfl
theorem w_codes : ∀ c ∈ words1.filter isCode, c.before args0 about1 = true := by
  rw [codes_eq]
  intro c hc
  simp only [codes1, List.mem_cons, List.not_mem_nil, or_false] at hc
  rcases hc with rfl | rfl
  · exact w_c0
  · exact w_c1
set_option maxRecDepth 65536 in
theorem w_t1 : words1.all (fun c => isCode c || c.before args0 about1) = true := by decide +kernel
theorem w_tables : (allAtoms (Jvm.Cond.code x code maxLocals ret :: tables_1)).before args0 about1 = true := by
  rw [allAtoms_all]
  show words1.all (fun c => c.before args0 about1) = true
  refine all_split ?_ w_codes
  rw [w_t1]
set_option maxRecDepth 65536 in
theorem w_case : (Jvm.Cond.and given_1 narrow_1).before args0 about1 = true := by decide +kernel
theorem w_applies : (headSpec (Jvm.Cond.code x code maxLocals ret :: tables_1) room_1).applies x e0.platform about1 = true :=
  (Spec.applies_iff w_frames).mpr ⟨w_running, w_runnable, w_alone, w_named, w_hears, w_ripe, w_room, w_tables⟩
theorem atStart : AtStart classFile x code maxLocals ret World_1 tables_1 room_1 Calls_1 rest_1 Pre_1 launch0 p0 e0 about1 theMethod args0 below0 :=
  ⟨lists_1, trivial, launch0.admits_env _ _ _, launch0.least_env, fairChoices_fair.cas, fairChoices_fair.clock, w_frames, w_args, w_heap, w_applies, trivial, trivial, w_case⟩
end start1
theorem witness_1 : WitnessClaimed_1 := ⟨start1.p0, start1.e0, start1.about1, start1.theMethod, start1.args0, start1.below0, start1.atStart⟩
end Jvm.Pilot.@@N@@
