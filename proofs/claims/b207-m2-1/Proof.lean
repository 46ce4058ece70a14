import JvmDerived
import JvmDerived.Pilot.@@N@@Statement
import JvmDerived.Pilot.@@N@@Code
set_option linter.unusedVariables false
set_option linter.unusedSimpArgs false
namespace Jvm.Own
open Sem ClassFile Op Lib Jvm.Stand Jvm.Free Jvm.LawKit Jvm.RoadKit
/-- from the frame f over T the run ends in a return that Q speaks of -/
def Run (p : Program) (e : Env) (s : State) (below : List Frame) (Q : Option Value → Heap → List Loc → Prop) (cm sm : Nat) (T : State) (f : JFrame) : Prop :=
  ∃ s₂ o, Steps p.tables e below (T.setTop f) s₂ ∧ s₂.status = .running ∧ Ended s₂ below o ∧ ∃ v L, o = .returned v ∧ Q v s₂.heap L ∧ FrameEnd s o s₂ L cm sm
section Own
variable {p : Program} {l : Launch} {e : Env} {R : Room} {s : State} {m : MethodId} {args : Array Value} {below : List Frame} {meth : Method} {c : Code} {T : State} {locs : List Loc} {cells slots : Nat} {Q : Option Value → Heap → List Loc → Prop} {cm sm : Nat}
theorem go {T' : State} {f f' : JFrame} (st : ∀ target, Steps p.tables e below (T'.setTop f') target → Steps p.tables e below (T.setTop f) target) (k : Run p e s below Q cm sm T' f') : Run p e s below Q cm sm T f := by
  obtain ⟨s₂, o, h, r⟩ := k
  exact ⟨s₂, o, st _ h, r⟩
theorem retZ (X : Stand p l e R s m args below meth c T locs cells slots) (hx : p.tables.exec = Jvm.exec) {pc : Nat} {Ls : Array Slot} {z : Int32} {t : FieldType} {rest : List Value} (hret : meth.sig.returnType = some t) (ht : t = .boolean ∨ t = .byte ∨ t = .char ∨ t = .short)
    (hd : decode c.code pc = .ok (.ireturn, 1)) (hlk : meth.locks = false) (hc : cells ≤ cm) (hs : slots ≤ sm) (hq : Q (some (.int (nar t z))) T.heap locs) : Run p e s below Q cm sm T (mkF m pc Ls (.int z :: rest)) := by
  obtain ⟨fs, hr, hrun, hended, hW, hsame⟩ := X.leave (v := some (.int (nar t z))) (fun h => by rw [hret] at h; cases h) hlk
  exact ⟨_, _, retN X hx hret ht hd hr, hrun, hended, _, _, rfl, hq, ⟨_, rfl⟩, hW, hsame.mono hc hs⟩
theorem retW (X : Stand p l e R s m args below meth c T locs cells slots) (hx : p.tables.exec = Jvm.exec) {pc : Nat} {Ls : Array Slot} {w : Value} {t : FieldType} {i : Instr} {rest : List Value} (hret : meth.sig.returnType = some t) (hn : narrow t w = w)
    (hi : (i = .ireturn ∧ (t = .int ∨ t = .boolean ∨ t = .byte ∨ t = .char ∨ t = .short) ∧ ∃ z, w = .int z) ∨ (i = .lreturn ∧ t = .long ∧ ∃ z, w = .long z) ∨ (i = .dreturn ∧ t = .double ∧ ∃ z, w = .double z) ∨ (i = .freturn ∧ t = .float ∧ ∃ z, w = .float z) ∨ (i = .areturn ∧ t.isReference = true ∧ w.isRef = true))
    (hd : decode c.code pc = .ok (i, 1)) (hlk : meth.locks = false) (hc : cells ≤ cm) (hs : slots ≤ sm) (hq : Q (some w) T.heap locs) : Run p e s below Q cm sm T (mkF m pc Ls (w :: rest)) := by
  obtain ⟨fs, hr, hrun, hended, hW, hsame⟩ := X.leave (v := some w) (fun h => by rw [hret] at h; cases h) hlk
  exact ⟨_, _, retOut X hx hret hn hi hd hr, hrun, hended, _, _, rfl, hq, ⟨_, rfl⟩, hW, hsame.mono hc hs⟩
theorem retV (X : Stand p l e R s m args below meth c T locs cells slots) (hx : p.tables.exec = Jvm.exec) {pc : Nat} {Ls : Array Slot} (hret : meth.sig.returnType = none)
    (hd : decode c.code pc = .ok (.return_, 1)) (hlk : meth.locks = false) (hc : cells ≤ cm) (hs : slots ≤ sm) (hq : Q none T.heap locs) : Run p e s below Q cm sm T (mkF m pc Ls []) := by
  obtain ⟨fs, hr, hrun, hended, hW, hsame⟩ := X.leave (v := none) (fun _ => rfl) hlk
  exact ⟨_, _, X.returnOut hx hret hd hr, hrun, hended, _, _, rfl, hq, ⟨_, rfl⟩, hW, hsame.mono hc hs⟩
end Own
section Heap
variable {Z : State} {h h' h0 : Heap} {a b : Addr} {ty : FieldType} {vs : List Value} {ws ws' : List Addr} {v : Value} {k : ClassId} {z j : Int32}
/-- an array and all that it holds -/
def Ary (Z : State) (h : Heap) (a : Addr) (ty : FieldType) (vs : List Value) : Prop := ∃ c : Cell, Arr Z h a c ty ∧ c.slots.toList = vs ∧ vs.length < 2147483648 ∧ ∀ v ∈ vs, fits ty v = true
theorem Ary.lt (A : Ary Z h a ty vs) : a < h.size := by obtain ⟨c, A, -⟩ := A; exact A.lt
theorem Ary.ext (A : Ary Z h a ty vs) (E : Ext h h') : Ary Z h' a ty vs := by obtain ⟨c, A, r⟩ := A; exact ⟨c, A.ext E, r⟩
theorem Ary.keep (A : Ary Z h a ty vs) (K : Keep h h' ws) (q : a ∉ ws) : Ary Z h' a ty vs := by obtain ⟨c, A, r⟩ := A; exact ⟨c, ⟨K.2.1 a c A.1 q, A.2⟩, r⟩
theorem Ary.set (A : Ary Z h a ty vs) {i : Nat} (W : Wr h h' a i v) (hv : fits ty v = true) : Ary Z h' a ty (vs.set i v) := by
  obtain ⟨c, A, e, l, f⟩ := A
  refine ⟨_, A.same W, by simp [Cell.setSlot, e], by simpa using l, fun w hw => ?_⟩
  rcases List.mem_or_eq_of_mem_set hw with q | rfl
  · exact f w q
  · exact hv
theorem Ary.ld (A : Ary Z h a ty vs) (hj : ¬ j < 0) (hv : vs[j.toNatClampNeg]? = some v) : ∃ c : Cell, Arr Z h a c ty ∧ ¬ (j < 0 ∨ c.slots.size ≤ j.toNatClampNeg) ∧ c.slots[j.toNatClampNeg]? = some v := by
  obtain ⟨c, A, e, l, f⟩ := A
  have q : c.slots[j.toNatClampNeg]? = some v := by rw [← Array.getElem?_toList, e]; exact hv
  exact ⟨c, A, fun r => r.elim hj fun y => absurd (Array.getElem?_eq_some_iff.mp q).1 (Nat.not_lt.mpr y), q⟩
theorem Ary.st (A : Ary Z h a ty vs) (hj : ¬ j < 0) (hl : j.toNatClampNeg < vs.length) : ∃ c : Cell, Arr Z h a c ty ∧ ¬ (j < 0 ∨ c.slots.size ≤ j.toNatClampNeg) := by
  obtain ⟨c, A, e, l, f⟩ := A
  refine ⟨c, A, fun r => r.elim hj fun y => ?_⟩
  rw [← e, Array.length_toList] at hl
  omega
theorem Ary.len (A : Ary Z h a ty vs) : ∃ c : Cell, Arr Z h a c ty ∧ c.slots.size.toInt32 = vs.length.toInt32 := by
  obtain ⟨c, A, e, l, f⟩ := A
  exact ⟨c, A, by rw [← e, Array.length_toList]⟩
theorem Ary.new (A : Arr Z h a (newA k ty z) ty) : Ary Z h a ty (List.replicate z.toNatClampNeg (defaultValue ty)) := by
  refine ⟨_, A, by simp [newA], ?_, fun v hv => ?_⟩
  · rw [List.length_replicate]
    have := Int32.toInt_lt z
    simp only [Int32.toNatClampNeg]
    omega
  · rw [List.eq_of_mem_replicate hv]
    cases ty <;> rfl
theorem Ary.fit (A : Ary Z h a ty vs) : ∃ c : Cell, Arr Z h a c ty ∧ FitC Z c ∧ c.slots.toList = vs ∧ c.slots.size = vs.length ∧ ∀ (h' : Heap) (b : Addr), Arr Z h' b (cloneOf c) ty → Ary Z h' b ty vs := by
  obtain ⟨c, A, e, l, f⟩ := A
  refine ⟨c, A, fitC_of A fun i hi v hv => ?_, e, by rw [← e, Array.length_toList], fun _ _ B => ⟨_, B, e, l, f⟩⟩
  refine f v ?_
  rw [← e]
  exact List.mem_of_getElem? (by rw [Array.getElem?_toList]; exact hv)
theorem ldI {p : Program} {l : Launch} {e : Env} {R : Room} {s : State} {m : MethodId} {args : Array Value} {below : List Frame} {meth : Method} {c : Code} {T : State} {locs : List Loc} {cells slots : Nat} (X : Stand p l e R s m args below meth c T locs cells slots) (hx : p.tables.exec = Jvm.exec) (hZ : Z.Warmed39 s.vm) (eT : T.heap = h) (A : Ary Z h a .int vs) (hj : ¬ j < 0) (hv : vs[j.toNatClampNeg]? = some v) {g : JFrame} (hg : g.method = m) {rest : List Value} (hs : g.stack = .int j :: .ref a :: rest) (hd : decode c.code g.pc = .ok (.iaload, 1)) (target : State)
    (hr : Steps p.tables e below (T.setTop { g with pc := g.pc + 1, stack := v :: rest }) target) : Steps p.tables e below (T.setTop g) target := by
  obtain ⟨cl, Ar, hin, hat⟩ := A.ld hj hv
  exact X.iaload hx (by rw [eT]; exact Ar.1) (State.isArrayOf_alike hZ.alike Ar.2.1) Ar.2.2 hin hat hg hs hd target hr
theorem ldJ {p : Program} {l : Launch} {e : Env} {R : Room} {s : State} {m : MethodId} {args : Array Value} {below : List Frame} {meth : Method} {c : Code} {T : State} {locs : List Loc} {cells slots : Nat} (X : Stand p l e R s m args below meth c T locs cells slots) (hx : p.tables.exec = Jvm.exec) (hZ : Z.Warmed39 s.vm) (eT : T.heap = h) (A : Ary Z h a .long vs) (hj : ¬ j < 0) (hv : vs[j.toNatClampNeg]? = some v) {g : JFrame} (hg : g.method = m) {rest : List Value} (hs : g.stack = .int j :: .ref a :: rest) (hd : decode c.code g.pc = .ok (.laload, 1)) (target : State)
    (hr : Steps p.tables e below (T.setTop { g with pc := g.pc + 1, stack := v :: rest }) target) : Steps p.tables e below (T.setTop g) target := by
  obtain ⟨cl, Ar, hin, hat⟩ := A.ld hj hv
  exact X.laload hx (by rw [eT]; exact Ar.1) (State.isArrayOf_alike hZ.alike Ar.2.1) Ar.2.2 hin hat hg hs hd target hr
theorem ldC {p : Program} {l : Launch} {e : Env} {R : Room} {s : State} {m : MethodId} {args : Array Value} {below : List Frame} {meth : Method} {c : Code} {T : State} {locs : List Loc} {cells slots : Nat} (X : Stand p l e R s m args below meth c T locs cells slots) (hx : p.tables.exec = Jvm.exec) (hZ : Z.Warmed39 s.vm) (eT : T.heap = h) (A : Ary Z h a .char vs) (hj : ¬ j < 0) (hv : vs[j.toNatClampNeg]? = some v) {g : JFrame} (hg : g.method = m) {rest : List Value} (hs : g.stack = .int j :: .ref a :: rest) (hd : decode c.code g.pc = .ok (.caload, 1)) (target : State)
    (hr : Steps p.tables e below (T.setTop { g with pc := g.pc + 1, stack := v :: rest }) target) : Steps p.tables e below (T.setTop g) target := by
  obtain ⟨cl, Ar, hin, hat⟩ := A.ld hj hv
  exact X.caload hx (by rw [eT]; exact Ar.1) (State.isArrayOf_alike hZ.alike Ar.2.1) Ar.2.2 hin hat hg hs hd target hr
theorem ldB {p : Program} {l : Launch} {e : Env} {R : Room} {s : State} {m : MethodId} {args : Array Value} {below : List Frame} {meth : Method} {c : Code} {T : State} {locs : List Loc} {cells slots : Nat} (X : Stand p l e R s m args below meth c T locs cells slots) (hx : p.tables.exec = Jvm.exec) (hZ : Z.Warmed39 s.vm) (eT : T.heap = h) (A : Ary Z h a .byte vs) (hj : ¬ j < 0) (hv : vs[j.toNatClampNeg]? = some v) {g : JFrame} (hg : g.method = m) {rest : List Value} (hs : g.stack = .int j :: .ref a :: rest) (hd : decode c.code g.pc = .ok (.baload, 1)) (target : State)
    (hr : Steps p.tables e below (T.setTop { g with pc := g.pc + 1, stack := v :: rest }) target) : Steps p.tables e below (T.setTop g) target := by
  obtain ⟨cl, Ar, hin, hat⟩ := A.ld hj hv
  exact X.baloadBytes hx (by rw [eT]; exact Ar.1) (State.isArrayOf_alike hZ.alike Ar.2.1) Ar.2.2 hin hat hg hs hd target hr
theorem ldZ {p : Program} {l : Launch} {e : Env} {R : Room} {s : State} {m : MethodId} {args : Array Value} {below : List Frame} {meth : Method} {c : Code} {T : State} {locs : List Loc} {cells slots : Nat} (X : Stand p l e R s m args below meth c T locs cells slots) (hx : p.tables.exec = Jvm.exec) (hZ : Z.Warmed39 s.vm) (eT : T.heap = h) (A : Ary Z h a .boolean vs) (hj : ¬ j < 0) (hv : vs[j.toNatClampNeg]? = some v) {g : JFrame} (hg : g.method = m) {rest : List Value} (hs : g.stack = .int j :: .ref a :: rest) (hd : decode c.code g.pc = .ok (.baload, 1)) (target : State)
    (hr : Steps p.tables e below (T.setTop { g with pc := g.pc + 1, stack := v :: rest }) target) : Steps p.tables e below (T.setTop g) target := by
  obtain ⟨cl, Ar, hin, hat⟩ := A.ld hj hv
  exact X.baloadBooleans hx (by rw [eT]; exact Ar.1) (State.isArrayOf_alike hZ.alike Ar.2.1) Ar.2.2 hin hat hg hs hd target hr
theorem ldR {p : Program} {l : Launch} {e : Env} {R : Room} {s : State} {m : MethodId} {args : Array Value} {below : List Frame} {meth : Method} {c : Code} {T : State} {locs : List Loc} {cells slots : Nat} (X : Stand p l e R s m args below meth c T locs cells slots) (hx : p.tables.exec = Jvm.exec) (hZ : Z.Warmed39 s.vm) (eT : T.heap = h) (A : Ary Z h a ty vs) (ht : ty.isReference = true) (hj : ¬ j < 0) (hv : vs[j.toNatClampNeg]? = some v) {g : JFrame} (hg : g.method = m) {rest : List Value} (hs : g.stack = .int j :: .ref a :: rest) (hd : decode c.code g.pc = .ok (.aaload, 1)) (target : State)
    (hr : Steps p.tables e below (T.setTop { g with pc := g.pc + 1, stack := v :: rest }) target) : Steps p.tables e below (T.setTop g) target := by
  obtain ⟨cl, Ar, hin, hat⟩ := A.ld hj hv
  exact X.aaload hx (by rw [eT]; exact Ar.1) (State.isArrayOf_alike hZ.alike Ar.2.1) ht Ar.2.2 hin hat hg hs hd target hr
theorem alen {p : Program} {l : Launch} {e : Env} {R : Room} {s : State} {m : MethodId} {args : Array Value} {below : List Frame} {meth : Method} {c : Code} {T : State} {locs : List Loc} {cells slots : Nat} (X : Stand p l e R s m args below meth c T locs cells slots) (hx : p.tables.exec = Jvm.exec) (hZ : Z.Warmed39 s.vm) (eT : T.heap = h) (A : Ary Z h a ty vs) (hn : vs.length.toInt32 = z) {g : JFrame} (hg : g.method = m) {rest : List Value} (hs : g.stack = .ref a :: rest) (hd : decode c.code g.pc = .ok (.arraylength, 1)) (target : State)
    (hr : Steps p.tables e below (T.setTop { g with pc := g.pc + 1, stack := .int z :: rest }) target) : Steps p.tables e below (T.setTop g) target := by
  obtain ⟨cl, Ar, ln⟩ := A.len
  exact X.arraylength hx (by rw [eT]; exact Ar.1) (State.isArrayOf_alike hZ.alike Ar.2.1) hg hs hd target (by rw [ln.trans hn]; exact hr)
theorem getI {xs : List Int32} {i : Nat} (q : i < xs.length) : (xs.map Value.int)[i]? = some (.int (xs.getD i 0)) := by
  simp [List.getElem?_map, List.getD_eq_getElem?_getD, List.getElem?_eq_getElem q]
theorem setI {xs : List Int32} {i : Nat} {x : Int32} : (xs.map Value.int).set i (.int x) = (xs.set i x).map Value.int := List.map_set.symm
/-- an array made over the class C -/
def OvA (Z : State) (h : Heap) (a : Addr) (C : String) : Prop := ∃ c : Cell, h[a]? = some c ∧ Ovr Z c.cls C
theorem OvA.keep {C : String} (O : OvA Z h a C) (K : Keep h h' ws) : OvA Z h' a C := by
  obtain ⟨c, e, o⟩ := O
  obtain ⟨c', q, r1, -, -⟩ := K.2.2 a c e
  exact ⟨c', q, r1 ▸ o⟩
theorem stA {C : String} {y : Addr} (O : OvA Z h a C) (A : Ary Z h a ty vs) (I : Ins Z h y C true) : Sto Z h a (.ref y) := by
  obtain ⟨c, A, -⟩ := A
  obtain ⟨c', e, o⟩ := O
  cases A.1.symm.trans e
  exact Sto.of A o I
theorem eqi_v {args : Array Value} {first s : State} {o : Option Outcome} {idx : List Nat} {t : Term} {k : Int32} (q : (Cond.eq t (.int k)).value args first o s idx = some true) : t.eval args first o idx s = some (.int k) := by
  simp only [Cond.value, Term.eval] at q
  cases ht : t.eval args first o idx s with
  | none => simp [ht] at q
  | some x => cases x <;> simp [ht] at q ⊢; exact q
theorem ary_start {args : Array Value} {s : State} {t : Term} {ty : FieldType} {a : Addr} {n : Int32} {vs : List Value} (hf : Fit s) (ev : t.eval args s none [] s = some (.ref a)) (ha : (Cond.arrayOf t ty).value args s none s [] = some true) (hl : (Cond.eq (.length t) (.int n)).value args s none s [] = some true) (hn : n = vs.length.toInt32) (hs : vs.length < 2147483648)
    (he : ∀ i, i < vs.length → (Term.elem t (.int i.toInt32)).eval args s none [] s = vs[i]?) : Ary s s.heap a ty vs := by
  obtain ⟨cl, A⟩ := Arr.start ev ha
  have hA := A.fin (Vm.Alike.refl _)
  have e1 := eqi_v hl
  have hsz : cl.slots.size < 2147483648 := by
    refine Nat.lt_of_not_le fun q => ?_
    have : ¬ cl.slots.size < 2 ^ 31 := by omega
    simp [Term.eval, ev, hA, this] at e1
  have e2 := len_f (idx := []) ev hA (by omega)
  rw [e1] at e2
  have e3 : n = cl.slots.size.toInt32 := by simpa using e2
  have e4 : cl.slots.size = vs.length := by
    have q := hn.symm.trans e3
    have q1 : vs.length.toInt32.toInt = vs.length := len_toInt (by omega)
    have q2 : cl.slots.size.toInt32.toInt = cl.slots.size := len_toInt (by omega)
    rw [q, q2] at q1
    omega
  have e5 : ∀ i, i < vs.length → cl.slots[i]? = vs[i]? := fun i hi => by
    have q := he i hi
    rw [List.getElem?_eq_getElem hi] at q
    have r := (elem_in q ev (Term.int_eval _) A.1).2
    have e : i.toInt32.toNatClampNeg = i := by simp only [Int32.toNatClampNeg, len_toInt (show i < 2 ^ 31 by omega)]; rfl
    rw [e] at r
    rw [r, List.getElem?_eq_getElem hi]
  refine ⟨cl, A, ?_, hs, fun v hv => ?_⟩
  · refine List.ext_getElem? fun i => ?_
    rw [Array.getElem?_toList]
    by_cases hi : i < vs.length
    · exact e5 i hi
    · rw [Array.getElem?_eq_none (by omega), List.getElem?_eq_none (by omega)]
  · obtain ⟨i, hi, rfl⟩ := List.getElem_of_mem hv
    have r := e5 i hi
    rw [List.getElem?_eq_getElem hi] at r
    have e : i.toInt32.toNatClampNeg = i := by simp only [Int32.toNatClampNeg, len_toInt (show i < 2 ^ 31 by omega)]; rfl
    exact elem_fits (j := i.toInt32) hf A (idx_in (by omega) (by omega)) (by rw [e]; exact r)
theorem nin1 {x y : Addr} (q : x ≠ y) : x ∉ [y] := ninS q nin0
end Heap
end Jvm.Own
namespace Jvm.Pilot.@@N@@
open Jvm Jvm.ClassFile Sem Op Lib Jvm.Free Jvm.Stand Jvm.LawKit Jvm.RoadKit Jvm.Own Bundle Jvm.Pilot.@@N@@.Jvm.D
theorem own_shr0 (n : Int32) : (n >>> ((0 : Int32) &&& 31)) = n := by
  apply Int32.toBitVec_inj.mp
  rw [Int32.toBitVec_shiftRight]
  show n.toBitVec.sshiftRight' (((0 : Int32) &&& 31).toBitVec.smod 32) = _
  rw [BitVec.sshiftRight_eq', show ((((0 : Int32) &&& 31).toBitVec.smod 32)).toNat = 0 by decide, BitVec.sshiftRight_zero]
theorem d4_0 : decode jdk_42_method_152_code 0 = .ok (.getstatic 38, 3) := by decide +kernel
theorem d4_3 : decode jdk_42_method_152_code 3 = .ok (.ifCond .eq 10, 3) := by decide +kernel
theorem d4_6 : decode jdk_42_method_152_code 6 = .ok (.aload_n 0, 1) := by decide +kernel
theorem d4_7 : decode jdk_42_method_152_code 7 = .ok (.getfield 15, 3) := by decide +kernel
theorem d4_10 : decode jdk_42_method_152_code 10 = .ok (.goto 4, 3) := by decide +kernel
theorem d4_14 : decode jdk_42_method_152_code 14 = .ok (.ireturn, 1) := by decide +kernel
theorem pn_4 : plainName "java/lang/String" = true := by first | (simp [plainName, overriddenIn]; done) | decide +kernel
theorem ef_4 (m : MethodId) (x0 : Addr) : entryFrame m #[(.ref x0)] 1 = mkF m 0 #[.val (.ref x0)] [] := by first | (simp [entryFrame, mkF, argsToLocals, Value.category]; done) | rfl
def Q4 (Z : State) (a0 : Addr) (cs : Int32) (h0 : Heap) (n0 : Nat) (v : Option Value) (h : Heap) (L : List Loc) : Prop := v = some (.int (0 : Int32)) ∧ Fr n0 L ∧ h = h0
set_option maxRecDepth 65536 in
set_option maxHeartbeats 40000000 in
theorem rm4 (l : Launch) (Z : State) (aw : Array Value) (hw : ∀ d ∈ tables_1, d.before aw Z = true) (ws : List Jvm.Cond) (a0 : Addr) (cs : Int32) (h0 : Heap) (n0 : Nat) (Z0 : n0 ≤ h0.size) (O0 : Old Z n0 h0) (S_cs : Sta Z Z.heap "java/lang/String" "COMPACT_STRINGS" "Z" (.int cs)) (hcs : ¬ (cs = (0 : Int32))) (E_a0 : Exa Z h0 a0 "java/lang/String") (F_c : Fld Z h0 a0 "java/lang/String" "coder" "B" (.int (0 : Int32))) :
    MetFree l (⟨"java/lang/String", "coder", "()B"⟩ : MethodName) (head1 (Jvm.Cond.code (⟨"java/lang/String", "coder", "()B"⟩ : MethodName) jdk_42_method_152_code 1 (some .byte) :: ws) ({ frames := 0, cells := 0, slots := 0, locals := 0 } : Room)) (fun a U => a = #[(.ref a0)] ∧ Z.Warmed39 U.vm ∧ U.heap = h0) (fun _ _ _ _ _ => True) (fun _ U o U' => ∃ v L, o = .returned v ∧ Q4 Z a0 cs h0 n0 v U'.heap L ∧ FrameEnd U o U' L ({ frames := 0, cells := 0, slots := 0, locals := 0 } : Room).cells ({ frames := 0, cells := 0, slots := 0, locals := 0 } : Room).slots) := by
  refine MetFree.of_bodySF (plainFor_of_name pn_4) hisR ?_
  intro p e s m args below meth c s₁ Bd hml0 hP hK
  obtain ⟨rfl, hZ, hh⟩ := hP
  have hx := Bd.exec
  have hby := Bd.bytes
  have hml : c.maxLocals = 1 := hml0
  have hown : s.vm.findClass "java/lang/String" = some m.cls := findClass_of_methodNamed Bd.named
  have hnm := (name_of_methodNamed Bd.named Bd.method).1
  have hlk : meth.locks = false := BodyLoose.notSynchronized Bd
  have X0 : Stand p l e ({ frames := 0, cells := 0, slots := 0, locals := 0 } : Room) s m #[(.ref a0)] below meth c s₁ [] 0 0 := Stand.of_body Bd
  have e0 : s₁.heap = h0 := by rw [← hh, Bd.state]; rfl
  have N0 := Fr.nil n0
  show Run p e s below (Q4 Z a0 cs h0 n0) ({ frames := 0, cells := 0, slots := 0, locals := 0 } : Room).cells ({ frames := 0, cells := 0, slots := 0, locals := 0 } : Room).slots s₁ (entryFrame m #[(.ref a0)] 1)
  rw [ef_4]
  show Run _ _ _ _ _ _ _ s₁ (mkF m 0 #[.val (.ref a0)] [])
  obtain ⟨T1, X1, e1, st1⟩ := getS2 X0 hx hZ hown (host := "") (Or.inl (hw _ (List.mem_of_getElem? (i := 34) rfl))) Via.refl e0 (S_cs.ext O0.2) (g := (mkF m 0 #[.val (.ref a0)] [])) rfl (hb hby d4_0)
  refine go st1 ?_
  show Run _ _ _ _ _ _ _ T1 (mkF m 3 #[.val (.ref a0)] [(.int cs)])
  refine go (T' := T1) (f' := (mkF m 6 #[.val (.ref a0)] [])) (by intro t k; exact XS.ifNo X1.here hx rfl (hb hby d4_3) rfl ((if0 _ _).trans (feq (hcs : ¬ (cs = (0 : Int32)))).1) k) ?_
  show Run _ _ _ _ _ _ _ T1 (mkF m 6 #[.val (.ref a0)] [])
  refine go (T' := T1) (f' := (mkF m 7 #[.val (.ref a0)] [(.ref a0)])) (by intro t k; exact XS.aloadN X1.here hx rfl (hb hby d4_6) rfl rfl k) ?_
  show Run _ _ _ _ _ _ _ T1 (mkF m 7 #[.val (.ref a0)] [(.ref a0)])
  obtain ⟨T2, X2, e2, st2⟩ := getF X1 hx hZ hown (host := "") (Or.inl (hw _ (List.mem_of_getElem? (i := 35) rfl))) Via.refl e1 F_c (g := (mkF m 7 #[.val (.ref a0)] [(.ref a0)])) rfl rfl (hb hby d4_7)
  refine go st2 ?_
  show Run _ _ _ _ _ _ _ T2 (mkF m 10 #[.val (.ref a0)] [(.int (0 : Int32))])
  refine go (T' := T2) (f' := (mkF m 14 #[.val (.ref a0)] [(.int (0 : Int32))])) (by intro t k; exact XS.goto X2.here hx rfl (pc0 := 10) (pc' := 14) rfl (hb hby d4_10) (by decide) (by decide) k) ?_
  show Run _ _ _ _ _ _ _ T2 (mkF m 14 #[.val (.ref a0)] [(.int (0 : Int32))])
  refine retZ X2 hx (t := .byte) Bd.returns (by simp) (hb hby d4_14) hlk (by decide) (by decide) ?_
  show Q4 Z a0 cs h0 n0 _ T2.heap _
  rw [e2]
  have hv' : (nar .byte (0 : Int32)) = (0 : Int32) := by
    rfl
  have hv : (some (.int (nar .byte (0 : Int32))) : Option Value) = some (.int (0 : Int32)) := congrArg (fun z => (some (.int z) : Option Value)) hv'
  exact ⟨hv, N0, rfl⟩
theorem d6_0 : decode jdk_42_method_154_code 0 = .ok (.getstatic 38, 3) := by decide +kernel
theorem d6_3 : decode jdk_42_method_154_code 3 = .ok (.ifCond .eq 14, 3) := by decide +kernel
theorem d6_6 : decode jdk_42_method_154_code 6 = .ok (.aload_n 0, 1) := by decide +kernel
theorem d6_7 : decode jdk_42_method_154_code 7 = .ok (.getfield 15, 3) := by decide +kernel
theorem d6_10 : decode jdk_42_method_154_code 10 = .ok (.ifCond .ne 7, 3) := by decide +kernel
theorem d6_13 : decode jdk_42_method_154_code 13 = .ok (.iconst 1, 1) := by decide +kernel
theorem d6_14 : decode jdk_42_method_154_code 14 = .ok (.goto 4, 3) := by decide +kernel
theorem d6_18 : decode jdk_42_method_154_code 18 = .ok (.ireturn, 1) := by decide +kernel
theorem ef_6 (m : MethodId) (x0 : Addr) : entryFrame m #[(.ref x0)] 1 = mkF m 0 #[.val (.ref x0)] [] := by first | (simp [entryFrame, mkF, argsToLocals, Value.category]; done) | rfl
def Q6 (Z : State) (a0 : Addr) (cs : Int32) (h0 : Heap) (n0 : Nat) (v : Option Value) (h : Heap) (L : List Loc) : Prop := v = some (.int (1 : Int32)) ∧ Fr n0 L ∧ h = h0
set_option maxRecDepth 65536 in
set_option maxHeartbeats 40000000 in
theorem rm6 (l : Launch) (Z : State) (aw : Array Value) (hw : ∀ d ∈ tables_1, d.before aw Z = true) (ws : List Jvm.Cond) (a0 : Addr) (cs : Int32) (h0 : Heap) (n0 : Nat) (Z0 : n0 ≤ h0.size) (O0 : Old Z n0 h0) (S_cs : Sta Z Z.heap "java/lang/String" "COMPACT_STRINGS" "Z" (.int cs)) (hcs : ¬ (cs = (0 : Int32))) (F_c : Fld Z h0 a0 "java/lang/String" "coder" "B" (.int (0 : Int32))) :
    MetFree l (⟨"java/lang/String", "isLatin1", "()Z"⟩ : MethodName) (head1 (Jvm.Cond.code (⟨"java/lang/String", "isLatin1", "()Z"⟩ : MethodName) jdk_42_method_154_code 1 (some .boolean) :: ws) ({ frames := 0, cells := 0, slots := 0, locals := 0 } : Room)) (fun a U => a = #[(.ref a0)] ∧ Z.Warmed39 U.vm ∧ U.heap = h0) (fun _ _ _ _ _ => True) (fun _ U o U' => ∃ v L, o = .returned v ∧ Q6 Z a0 cs h0 n0 v U'.heap L ∧ FrameEnd U o U' L ({ frames := 0, cells := 0, slots := 0, locals := 0 } : Room).cells ({ frames := 0, cells := 0, slots := 0, locals := 0 } : Room).slots) := by
  refine MetFree.of_bodySF (plainFor_of_name pn_4) hisR ?_
  intro p e s m args below meth c s₁ Bd hml0 hP hK
  obtain ⟨rfl, hZ, hh⟩ := hP
  have hx := Bd.exec
  have hby := Bd.bytes
  have hml : c.maxLocals = 1 := hml0
  have hown : s.vm.findClass "java/lang/String" = some m.cls := findClass_of_methodNamed Bd.named
  have hnm := (name_of_methodNamed Bd.named Bd.method).1
  have hlk : meth.locks = false := BodyLoose.notSynchronized Bd
  have X0 : Stand p l e ({ frames := 0, cells := 0, slots := 0, locals := 0 } : Room) s m #[(.ref a0)] below meth c s₁ [] 0 0 := Stand.of_body Bd
  have e0 : s₁.heap = h0 := by rw [← hh, Bd.state]; rfl
  have N0 := Fr.nil n0
  show Run p e s below (Q6 Z a0 cs h0 n0) ({ frames := 0, cells := 0, slots := 0, locals := 0 } : Room).cells ({ frames := 0, cells := 0, slots := 0, locals := 0 } : Room).slots s₁ (entryFrame m #[(.ref a0)] 1)
  rw [ef_6]
  show Run _ _ _ _ _ _ _ s₁ (mkF m 0 #[.val (.ref a0)] [])
  obtain ⟨T1, X1, e1, st1⟩ := getS2 X0 hx hZ hown (host := "") (Or.inl (hw _ (List.mem_of_getElem? (i := 34) rfl))) Via.refl e0 (S_cs.ext O0.2) (g := (mkF m 0 #[.val (.ref a0)] [])) rfl (hb hby d6_0)
  refine go st1 ?_
  show Run _ _ _ _ _ _ _ T1 (mkF m 3 #[.val (.ref a0)] [(.int cs)])
  refine go (T' := T1) (f' := (mkF m 6 #[.val (.ref a0)] [])) (by intro t k; exact XS.ifNo X1.here hx rfl (hb hby d6_3) rfl ((if0 _ _).trans (feq (hcs : ¬ (cs = (0 : Int32)))).1) k) ?_
  show Run _ _ _ _ _ _ _ T1 (mkF m 6 #[.val (.ref a0)] [])
  refine go (T' := T1) (f' := (mkF m 7 #[.val (.ref a0)] [(.ref a0)])) (by intro t k; exact XS.aloadN X1.here hx rfl (hb hby d6_6) rfl rfl k) ?_
  show Run _ _ _ _ _ _ _ T1 (mkF m 7 #[.val (.ref a0)] [(.ref a0)])
  obtain ⟨T2, X2, e2, st2⟩ := getF X1 hx hZ hown (host := "") (Or.inl (hw _ (List.mem_of_getElem? (i := 35) rfl))) Via.refl e1 F_c (g := (mkF m 7 #[.val (.ref a0)] [(.ref a0)])) rfl rfl (hb hby d6_7)
  refine go st2 ?_
  show Run _ _ _ _ _ _ _ T2 (mkF m 10 #[.val (.ref a0)] [(.int (0 : Int32))])
  refine go (T' := T2) (f' := (mkF m 13 #[.val (.ref a0)] [])) (by intro t k; exact XS.ifNo X2.here hx rfl (hb hby d6_10) rfl ((if0 _ _).trans (teq (rfl : (0 : Int32) = (0 : Int32))).2) k) ?_
  show Run _ _ _ _ _ _ _ T2 (mkF m 13 #[.val (.ref a0)] [])
  refine go (T' := T2) (f' := (mkF m 14 #[.val (.ref a0)] [(.int (1 : Int32))])) (by intro t k; exact XS.iconst X2.here hx rfl (hb hby d6_13) k) ?_
  show Run _ _ _ _ _ _ _ T2 (mkF m 14 #[.val (.ref a0)] [(.int (1 : Int32))])
  refine go (T' := T2) (f' := (mkF m 18 #[.val (.ref a0)] [(.int (1 : Int32))])) (by intro t k; exact XS.goto X2.here hx rfl (pc0 := 14) (pc' := 18) rfl (hb hby d6_14) (by decide) (by decide) k) ?_
  show Run _ _ _ _ _ _ _ T2 (mkF m 18 #[.val (.ref a0)] [(.int (1 : Int32))])
  refine retZ X2 hx (t := .boolean) Bd.returns (by simp) (hb hby d6_18) hlk (by decide) (by decide) ?_
  show Q6 Z a0 cs h0 n0 _ T2.heap _
  rw [e2]
  have hv' : (nar .boolean (1 : Int32)) = (1 : Int32) := by
    rfl
  have hv : (some (.int (nar .boolean (1 : Int32))) : Option Value) = some (.int (1 : Int32)) := congrArg (fun z => (some (.int z) : Option Value)) hv'
  exact ⟨hv, N0, rfl⟩
theorem d3_0 : decode jdk_42_method_54_code 0 = .ok (.aload_n 0, 1) := by decide +kernel
theorem d3_1 : decode jdk_42_method_54_code 1 = .ok (.getfield 9, 3) := by decide +kernel
theorem d3_4 : decode jdk_42_method_54_code 4 = .ok (.arraylength, 1) := by decide +kernel
theorem d3_5 : decode jdk_42_method_54_code 5 = .ok (.aload_n 0, 1) := by decide +kernel
theorem d3_6 : decode jdk_42_method_54_code 6 = .ok (.invokevirtual 335, 3) := by decide +kernel
theorem d3_9 : decode jdk_42_method_54_code 9 = .ok (.ishr, 1) := by decide +kernel
theorem d3_10 : decode jdk_42_method_54_code 10 = .ok (.ireturn, 1) := by decide +kernel
theorem pd_2829B : parseMethodDescriptor "()B" = some ⟨[], some .byte⟩ := by decide +kernel
theorem ef_3 (m : MethodId) (x0 : Addr) : entryFrame m #[(.ref x0)] 1 = mkF m 0 #[.val (.ref x0)] [] := by first | (simp [entryFrame, mkF, argsToLocals, Value.category]; done) | rfl
def Q3 (Z : State) (a0 : Addr) (cs : Int32) (b : Addr) (vs : List Value) (n : Int32) (h0 : Heap) (n0 : Nat) (v : Option Value) (h : Heap) (L : List Loc) : Prop := v = some (.int n) ∧ Fr n0 L ∧ h = h0
set_option maxRecDepth 65536 in
set_option maxHeartbeats 40000000 in
theorem rm3 (l : Launch) (Z : State) (aw : Array Value) (hw : ∀ d ∈ tables_1, d.before aw Z = true) (ws : List Jvm.Cond) (a0 : Addr) (cs : Int32) (b : Addr) (vs : List Value) (n : Int32) (h0 : Heap) (n0 : Nat) (Z0 : n0 ≤ h0.size) (O0 : Old Z n0 h0) (S_cs : Sta Z Z.heap "java/lang/String" "COMPACT_STRINGS" "Z" (.int cs)) (hcs : ¬ (cs = (0 : Int32))) (E_a0 : Exa Z h0 a0 "java/lang/String") (F_c : Fld Z h0 a0 "java/lang/String" "coder" "B" (.int (0 : Int32))) (F_v : Fld Z h0 a0 "java/lang/String" "value" "[B" (.ref b)) (A_b : Ary Z h0 b .byte vs) (hlen : vs.length.toInt32 = n) :
    MetFree l (⟨"java/lang/String", "length", "()I"⟩ : MethodName) (head1 (Jvm.Cond.code (⟨"java/lang/String", "length", "()I"⟩ : MethodName) jdk_42_method_54_code 1 (some .int) :: ws) ({ frames := 1, cells := 0, slots := 0, locals := 13 } : Room)) (fun a U => a = #[(.ref a0)] ∧ Z.Warmed39 U.vm ∧ U.heap = h0) (fun _ _ _ _ _ => True) (fun _ U o U' => ∃ v L, o = .returned v ∧ Q3 Z a0 cs b vs n h0 n0 v U'.heap L ∧ FrameEnd U o U' L ({ frames := 1, cells := 0, slots := 0, locals := 13 } : Room).cells ({ frames := 1, cells := 0, slots := 0, locals := 13 } : Room).slots) := by
  refine MetFree.of_bodySF (plainFor_of_name pn_4) hisR ?_
  intro p e s m args below meth c s₁ Bd hml0 hP hK
  obtain ⟨rfl, hZ, hh⟩ := hP
  have hx := Bd.exec
  have hby := Bd.bytes
  have hml : c.maxLocals = 1 := hml0
  have hown : s.vm.findClass "java/lang/String" = some m.cls := findClass_of_methodNamed Bd.named
  have hnm := (name_of_methodNamed Bd.named Bd.method).1
  have hlk : meth.locks = false := BodyLoose.notSynchronized Bd
  have X0 : Stand p l e ({ frames := 1, cells := 0, slots := 0, locals := 13 } : Room) s m #[(.ref a0)] below meth c s₁ [] 0 0 := Stand.of_body Bd
  have e0 : s₁.heap = h0 := by rw [← hh, Bd.state]; rfl
  have N0 := Fr.nil n0
  show Run p e s below (Q3 Z a0 cs b vs n h0 n0) ({ frames := 1, cells := 0, slots := 0, locals := 13 } : Room).cells ({ frames := 1, cells := 0, slots := 0, locals := 13 } : Room).slots s₁ (entryFrame m #[(.ref a0)] 1)
  rw [ef_3]
  show Run _ _ _ _ _ _ _ s₁ (mkF m 0 #[.val (.ref a0)] [])
  refine go (T' := s₁) (f' := (mkF m 1 #[.val (.ref a0)] [(.ref a0)])) (by intro t k; exact XS.aloadN X0.here hx rfl (hb hby d3_0) rfl rfl k) ?_
  show Run _ _ _ _ _ _ _ s₁ (mkF m 1 #[.val (.ref a0)] [(.ref a0)])
  obtain ⟨T1, X1, e1, st1⟩ := getF X0 hx hZ hown (host := "") (Or.inl (hw _ (List.mem_of_getElem? (i := 27) rfl))) Via.refl e0 F_v (g := (mkF m 1 #[.val (.ref a0)] [(.ref a0)])) rfl rfl (hb hby d3_1)
  refine go st1 ?_
  show Run _ _ _ _ _ _ _ T1 (mkF m 4 #[.val (.ref a0)] [(.ref b)])
  refine go (T' := T1) (f' := (mkF m 5 #[.val (.ref a0)] [(.int n)])) (by intro t k; exact alen X1 hx hZ e1 A_b (z := n) hlen (g := (mkF m 4 #[.val (.ref a0)] [(.ref b)])) rfl rfl (hb hby d3_4) _ k) ?_
  show Run _ _ _ _ _ _ _ T1 (mkF m 5 #[.val (.ref a0)] [(.int n)])
  refine go (T' := T1) (f' := (mkF m 6 #[.val (.ref a0)] [(.ref a0), (.int n)])) (by intro t k; exact XS.aloadN X1.here hx rfl (hb hby d3_5) rfl rfl k) ?_
  show Run _ _ _ _ _ _ _ T1 (mkF m 6 #[.val (.ref a0)] [(.ref a0), (.int n)])
  obtain ⟨cq2, kq2, q2a, q2b, q2c⟩ := isOf hZ e1 E_a0
  obtain ⟨_, _, ⟨T2, Lz2, kz2, nz2⟩, -, X2, ⟨Lc2, hQ2, lz2, yz2, zz2⟩, st2⟩ := X1.virtualBack hx (y := (⟨"java/lang/String", "coder", "()B"⟩ : MethodName)) (z := (⟨"java/lang/String", "coder", "()B"⟩ : MethodName)) hown (mvT hZ (hw _ (List.mem_of_getElem? (i := 29) rfl))) (mvT hZ (hw _ (List.mem_of_getElem? (i := 30) rfl))) (notFace_of_selects (args := #[]) (mvT hZ (hw _ (List.mem_of_getElem? (i := 32) rfl)))) (mvT hZ (hw _ (List.mem_of_getElem? (i := 32) rfl))) (mvT hZ (hw _ (List.mem_of_getElem? (i := 31) rfl))) (by decide) (backOf (W := 1) (rm4 l Z aw hw [] a0 cs h0 n0 Z0 O0 S_cs hcs E_a0 F_c) hZ (hw _ (List.mem_of_getElem? (i := 33) rfl)) (hw _ (List.mem_of_getElem? (i := 25) rfl)) (by decide) (by decide)) q2a q2c (g := (mkF m 6 #[.val (.ref a0)] [(.ref a0), (.int n)])) rfl (by rw [hml]; rfl) (Steps.refl _) (argsL := []) (rest := [(.int n)]) (lenOf pd_2829B rfl) rfl (by show 2 * 0 + _ ≤ _; exact Nat.le_of_eq rfl) (hb hby d3_6) (fun _ _ => ⟨rfl, e1, (by decide : 0 + 0 ≤ _), (by decide : 0 + 0 ≤ _)⟩)
  dsimp only [Pt.U, Pt.locs, Pt.cells, Pt.slots] at X2 lz2 yz2 zz2 st2 hQ2
  subst lz2 yz2 zz2
  obtain ⟨rfl, N2q, e2⟩ := hQ2
  have N2 := Fr.app N0 N2q
  refine go (fun _ k => st2.trans k) ?_
  show Run _ _ _ _ _ _ _ T2 (mkF m 9 #[.val (.ref a0)] [(.int (0 : Int32)), (.int n)])
  refine go (T' := T2) (f' := (mkF m 10 #[.val (.ref a0)] [(.int ((n >>> ((0 : Int32) &&& 31))))])) (by intro t k; exact XS.ishr X2.here hx rfl (hb hby d3_9) rfl k) ?_
  show Run _ _ _ _ _ _ _ T2 (mkF m 10 #[.val (.ref a0)] [(.int ((n >>> ((0 : Int32) &&& 31))))])
  refine retW X2 hx (t := .int) Bd.returns rfl (Or.inl ⟨rfl, Or.inl rfl, _, rfl⟩) (hb hby d3_10) hlk (by decide) (by decide) ?_
  show Q3 Z a0 cs b vs n h0 n0 _ T2.heap _
  rw [e2]
  have hv' : ((n >>> ((0 : Int32) &&& 31))) = n := by
    exact own_shr0 n
  have hv : (some (.int ((n >>> ((0 : Int32) &&& 31)))) : Option Value) = some (.int n) := congrArg (fun z => (some (.int z) : Option Value)) hv'
  exact ⟨hv, N2, rfl⟩
theorem d9_0 : decode jdk_41_method_11_code 0 = .ok (.iload_n 0, 1) := by decide +kernel
theorem d9_1 : decode jdk_41_method_11_code 1 = .ok (.ifCond .lt 8, 3) := by decide +kernel
theorem d9_4 : decode jdk_41_method_11_code 4 = .ok (.iload_n 0, 1) := by decide +kernel
theorem d9_5 : decode jdk_41_method_11_code 5 = .ok (.iload_n 1, 1) := by decide +kernel
theorem d9_6 : decode jdk_41_method_11_code 6 = .ok (.if_icmp .lt 10, 3) := by decide +kernel
theorem d9_16 : decode jdk_41_method_11_code 16 = .ok (.iload_n 0, 1) := by decide +kernel
theorem d9_17 : decode jdk_41_method_11_code 17 = .ok (.ireturn, 1) := by decide +kernel
theorem pn_9 : plainName "jdk/internal/util/Preconditions" = true := by first | (simp [plainName, overriddenIn]; done) | decide +kernel
theorem ef_9 (m : MethodId) (x0 : Int32) (x1 : Int32) (x2 : Addr) : entryFrame m #[(.int x0), (.int x1), (.ref x2)] 3 = mkF m 0 #[.val (.int x0), .val (.int x1), .val (.ref x2)] [] := by first | (simp [entryFrame, mkF, argsToLocals, Value.category]; done) | rfl
def Q9 (Z : State) (p0 : Int32) (p1 : Int32) (a2 : Addr) (h0 : Heap) (n0 : Nat) (v : Option Value) (h : Heap) (L : List Loc) : Prop := v = some (.int p0) ∧ Fr n0 L ∧ h = h0
set_option maxRecDepth 65536 in
set_option maxHeartbeats 40000000 in
theorem rm9 (l : Launch) (Z : State) (aw : Array Value) (hw : ∀ d ∈ tables_1, d.before aw Z = true) (ws : List Jvm.Cond) (p0 : Int32) (p1 : Int32) (a2 : Addr) (h0 : Heap) (n0 : Nat) (Z0 : n0 ≤ h0.size) (h0p : ¬ (p0 < (0 : Int32))) (hlt : p0 < p1) :
    MetFree l (⟨"jdk/internal/util/Preconditions", "checkIndex", "(IILjava/util/function/BiFunction;)I"⟩ : MethodName) (head1 (Jvm.Cond.code (⟨"jdk/internal/util/Preconditions", "checkIndex", "(IILjava/util/function/BiFunction;)I"⟩ : MethodName) jdk_41_method_11_code 3 (some .int) :: ws) ({ frames := 0, cells := 0, slots := 0, locals := 0 } : Room)) (fun a U => a = #[(.int p0), (.int p1), (.ref a2)] ∧ Z.Warmed39 U.vm ∧ U.heap = h0) (fun _ _ _ _ _ => True) (fun _ U o U' => ∃ v L, o = .returned v ∧ Q9 Z p0 p1 a2 h0 n0 v U'.heap L ∧ FrameEnd U o U' L ({ frames := 0, cells := 0, slots := 0, locals := 0 } : Room).cells ({ frames := 0, cells := 0, slots := 0, locals := 0 } : Room).slots) := by
  refine MetFree.of_bodySF (plainFor_of_name pn_9) hisR ?_
  intro p e s m args below meth c s₁ Bd hml0 hP hK
  obtain ⟨rfl, hZ, hh⟩ := hP
  have hx := Bd.exec
  have hby := Bd.bytes
  have hml : c.maxLocals = 3 := hml0
  have hown : s.vm.findClass "jdk/internal/util/Preconditions" = some m.cls := findClass_of_methodNamed Bd.named
  have hnm := (name_of_methodNamed Bd.named Bd.method).1
  have hlk : meth.locks = false := BodyLoose.notSynchronized Bd
  have X0 : Stand p l e ({ frames := 0, cells := 0, slots := 0, locals := 0 } : Room) s m #[(.int p0), (.int p1), (.ref a2)] below meth c s₁ [] 0 0 := Stand.of_body Bd
  have e0 : s₁.heap = h0 := by rw [← hh, Bd.state]; rfl
  have N0 := Fr.nil n0
  show Run p e s below (Q9 Z p0 p1 a2 h0 n0) ({ frames := 0, cells := 0, slots := 0, locals := 0 } : Room).cells ({ frames := 0, cells := 0, slots := 0, locals := 0 } : Room).slots s₁ (entryFrame m #[(.int p0), (.int p1), (.ref a2)] 3)
  rw [ef_9]
  show Run _ _ _ _ _ _ _ s₁ (mkF m 0 #[.val (.int p0), .val (.int p1), .val (.ref a2)] [])
  refine go (T' := s₁) (f' := (mkF m 1 #[.val (.int p0), .val (.int p1), .val (.ref a2)] [(.int p0)])) (by intro t k; exact XS.iloadN X0.here hx rfl (hb hby d9_0) rfl k) ?_
  show Run _ _ _ _ _ _ _ s₁ (mkF m 1 #[.val (.int p0), .val (.int p1), .val (.ref a2)] [(.int p0)])
  refine go (T' := s₁) (f' := (mkF m 4 #[.val (.int p0), .val (.int p1), .val (.ref a2)] [])) (by intro t k; exact XS.ifNo X0.here hx rfl (hb hby d9_1) rfl ((if0 _ _).trans (flt (h0p : ¬ (p0 < (0 : Int32)))).1) k) ?_
  show Run _ _ _ _ _ _ _ s₁ (mkF m 4 #[.val (.int p0), .val (.int p1), .val (.ref a2)] [])
  refine go (T' := s₁) (f' := (mkF m 5 #[.val (.int p0), .val (.int p1), .val (.ref a2)] [(.int p0)])) (by intro t k; exact XS.iloadN X0.here hx rfl (hb hby d9_4) rfl k) ?_
  show Run _ _ _ _ _ _ _ s₁ (mkF m 5 #[.val (.int p0), .val (.int p1), .val (.ref a2)] [(.int p0)])
  refine go (T' := s₁) (f' := (mkF m 6 #[.val (.int p0), .val (.int p1), .val (.ref a2)] [(.int p1), (.int p0)])) (by intro t k; exact XS.iloadN X0.here hx rfl (hb hby d9_5) rfl k) ?_
  show Run _ _ _ _ _ _ _ s₁ (mkF m 6 #[.val (.int p0), .val (.int p1), .val (.ref a2)] [(.int p1), (.int p0)])
  refine go (T' := s₁) (f' := (mkF m 16 #[.val (.int p0), .val (.int p1), .val (.ref a2)] [])) (by intro t k; exact XS.icmpYes X0.here hx rfl (pc0 := 6) (pc' := 16) rfl (hb hby d9_6) rfl (tlt (hlt : p0 < p1)).1 (by decide) (by decide) k) ?_
  show Run _ _ _ _ _ _ _ s₁ (mkF m 16 #[.val (.int p0), .val (.int p1), .val (.ref a2)] [])
  refine go (T' := s₁) (f' := (mkF m 17 #[.val (.int p0), .val (.int p1), .val (.ref a2)] [(.int p0)])) (by intro t k; exact XS.iloadN X0.here hx rfl (hb hby d9_16) rfl k) ?_
  show Run _ _ _ _ _ _ _ s₁ (mkF m 17 #[.val (.int p0), .val (.int p1), .val (.ref a2)] [(.int p0)])
  refine retW X0 hx (t := .int) Bd.returns rfl (Or.inl ⟨rfl, Or.inl rfl, _, rfl⟩) (hb hby d9_17) hlk (by decide) (by decide) ?_
  show Q9 Z p0 p1 a2 h0 n0 _ s₁.heap _
  rw [e0]
  have hv : (some (.int p0) : Option Value) = some (.int p0) := rfl
  exact ⟨hv, N0, rfl⟩
theorem ef_9n (m : MethodId) (x0 : Int32) (x1 : Int32) : entryFrame m #[(.int x0), (.int x1), .null] 3 = mkF m 0 #[.val (.int x0), .val (.int x1), .val .null] [] := by first | (simp [entryFrame, mkF, argsToLocals, Value.category]; done) | rfl
def Q9n (Z : State) (p0 : Int32) (p1 : Int32) (h0 : Heap) (n0 : Nat) (v : Option Value) (h : Heap) (L : List Loc) : Prop := v = some (.int p0) ∧ Fr n0 L ∧ h = h0
set_option maxRecDepth 65536 in
set_option maxHeartbeats 40000000 in
theorem rm9n (l : Launch) (Z : State) (aw : Array Value) (hw : ∀ d ∈ tables_1, d.before aw Z = true) (ws : List Jvm.Cond) (p0 : Int32) (p1 : Int32) (h0 : Heap) (n0 : Nat) (Z0 : n0 ≤ h0.size) (h0p : ¬ (p0 < (0 : Int32))) (hlt : p0 < p1) :
    MetFree l (⟨"jdk/internal/util/Preconditions", "checkIndex", "(IILjava/util/function/BiFunction;)I"⟩ : MethodName) (head1 (Jvm.Cond.code (⟨"jdk/internal/util/Preconditions", "checkIndex", "(IILjava/util/function/BiFunction;)I"⟩ : MethodName) jdk_41_method_11_code 3 (some .int) :: ws) ({ frames := 0, cells := 0, slots := 0, locals := 0 } : Room)) (fun a U => a = #[(.int p0), (.int p1), .null] ∧ Z.Warmed39 U.vm ∧ U.heap = h0) (fun _ _ _ _ _ => True) (fun _ U o U' => ∃ v L, o = .returned v ∧ Q9n Z p0 p1 h0 n0 v U'.heap L ∧ FrameEnd U o U' L ({ frames := 0, cells := 0, slots := 0, locals := 0 } : Room).cells ({ frames := 0, cells := 0, slots := 0, locals := 0 } : Room).slots) := by
  refine MetFree.of_bodySF (plainFor_of_name pn_9) hisR ?_
  intro p e s m args below meth c s₁ Bd hml0 hP hK
  obtain ⟨rfl, hZ, hh⟩ := hP
  have hx := Bd.exec
  have hby := Bd.bytes
  have hml : c.maxLocals = 3 := hml0
  have hown : s.vm.findClass "jdk/internal/util/Preconditions" = some m.cls := findClass_of_methodNamed Bd.named
  have hnm := (name_of_methodNamed Bd.named Bd.method).1
  have hlk : meth.locks = false := BodyLoose.notSynchronized Bd
  have X0 : Stand p l e ({ frames := 0, cells := 0, slots := 0, locals := 0 } : Room) s m #[(.int p0), (.int p1), .null] below meth c s₁ [] 0 0 := Stand.of_body Bd
  have e0 : s₁.heap = h0 := by rw [← hh, Bd.state]; rfl
  have N0 := Fr.nil n0
  show Run p e s below (Q9n Z p0 p1 h0 n0) ({ frames := 0, cells := 0, slots := 0, locals := 0 } : Room).cells ({ frames := 0, cells := 0, slots := 0, locals := 0 } : Room).slots s₁ (entryFrame m #[(.int p0), (.int p1), .null] 3)
  rw [ef_9n]
  show Run _ _ _ _ _ _ _ s₁ (mkF m 0 #[.val (.int p0), .val (.int p1), .val .null] [])
  refine go (T' := s₁) (f' := (mkF m 1 #[.val (.int p0), .val (.int p1), .val .null] [(.int p0)])) (by intro t k; exact XS.iloadN X0.here hx rfl (hb hby d9_0) rfl k) ?_
  show Run _ _ _ _ _ _ _ s₁ (mkF m 1 #[.val (.int p0), .val (.int p1), .val .null] [(.int p0)])
  refine go (T' := s₁) (f' := (mkF m 4 #[.val (.int p0), .val (.int p1), .val .null] [])) (by intro t k; exact XS.ifNo X0.here hx rfl (hb hby d9_1) rfl ((if0 _ _).trans (flt (h0p : ¬ (p0 < (0 : Int32)))).1) k) ?_
  show Run _ _ _ _ _ _ _ s₁ (mkF m 4 #[.val (.int p0), .val (.int p1), .val .null] [])
  refine go (T' := s₁) (f' := (mkF m 5 #[.val (.int p0), .val (.int p1), .val .null] [(.int p0)])) (by intro t k; exact XS.iloadN X0.here hx rfl (hb hby d9_4) rfl k) ?_
  show Run _ _ _ _ _ _ _ s₁ (mkF m 5 #[.val (.int p0), .val (.int p1), .val .null] [(.int p0)])
  refine go (T' := s₁) (f' := (mkF m 6 #[.val (.int p0), .val (.int p1), .val .null] [(.int p1), (.int p0)])) (by intro t k; exact XS.iloadN X0.here hx rfl (hb hby d9_5) rfl k) ?_
  show Run _ _ _ _ _ _ _ s₁ (mkF m 6 #[.val (.int p0), .val (.int p1), .val .null] [(.int p1), (.int p0)])
  refine go (T' := s₁) (f' := (mkF m 16 #[.val (.int p0), .val (.int p1), .val .null] [])) (by intro t k; exact XS.icmpYes X0.here hx rfl (pc0 := 6) (pc' := 16) rfl (hb hby d9_6) rfl (tlt (hlt : p0 < p1)).1 (by decide) (by decide) k) ?_
  show Run _ _ _ _ _ _ _ s₁ (mkF m 16 #[.val (.int p0), .val (.int p1), .val .null] [])
  refine go (T' := s₁) (f' := (mkF m 17 #[.val (.int p0), .val (.int p1), .val .null] [(.int p0)])) (by intro t k; exact XS.iloadN X0.here hx rfl (hb hby d9_16) rfl k) ?_
  show Run _ _ _ _ _ _ _ s₁ (mkF m 17 #[.val (.int p0), .val (.int p1), .val .null] [(.int p0)])
  refine retW X0 hx (t := .int) Bd.returns rfl (Or.inl ⟨rfl, Or.inl rfl, _, rfl⟩) (hb hby d9_17) hlk (by decide) (by decide) ?_
  show Q9n Z p0 p1 h0 n0 _ s₁.heap _
  rw [e0]
  have hv : (some (.int p0) : Option Value) = some (.int p0) := rfl
  exact ⟨hv, N0, rfl⟩
theorem d8_0 : decode jdk_42_method_155_code 0 = .ok (.iload_n 0, 1) := by decide +kernel
theorem d8_1 : decode jdk_42_method_155_code 1 = .ok (.iload_n 1, 1) := by decide +kernel
theorem d8_2 : decode jdk_42_method_155_code 2 = .ok (.getstatic 1053, 3) := by decide +kernel
theorem d8_5 : decode jdk_42_method_155_code 5 = .ok (.invokestatic 1059, 3) := by decide +kernel
theorem d8_8 : decode jdk_42_method_155_code 8 = .ok (.pop, 1) := by decide +kernel
theorem d8_9 : decode jdk_42_method_155_code 9 = .ok (.return_, 1) := by decide +kernel
theorem pd_28IILjava2futil2ffunction2fBiFunction3b29I : parseMethodDescriptor "(IILjava/util/function/BiFunction;)I" = some ⟨[.int, .int, (.object "java/util/function/BiFunction")], some .int⟩ := by decide +kernel
theorem ef_8 (m : MethodId) (x0 : Int32) (x1 : Int32) : entryFrame m #[(.int x0), (.int x1)] 2 = mkF m 0 #[.val (.int x0), .val (.int x1)] [] := by first | (simp [entryFrame, mkF, argsToLocals, Value.category]; done) | rfl
def Q8 (Z : State) (p0 : Int32) (p1 : Int32) (wf : Value) (h0 : Heap) (n0 : Nat) (v : Option Value) (h : Heap) (L : List Loc) : Prop := v = none ∧ Fr n0 L ∧ h = h0
set_option maxRecDepth 65536 in
set_option maxHeartbeats 40000000 in
theorem rm8 (l : Launch) (Z : State) (aw : Array Value) (hw : ∀ d ∈ tables_1, d.before aw Z = true) (ws : List Jvm.Cond) (p0 : Int32) (p1 : Int32) (wf : Value) (h0 : Heap) (n0 : Nat) (Z0 : n0 ≤ h0.size) (O0 : Old Z n0 h0) (S_sf : Sta Z Z.heap "jdk/internal/util/Preconditions" "SIOOBE_FORMATTER" "Ljava/util/function/BiFunction;" wf) (hwf : wf.isRef = true) (h0p : ¬ (p0 < (0 : Int32))) (hlt : p0 < p1) :
    MetFree l (⟨"java/lang/String", "checkIndex", "(II)V"⟩ : MethodName) (head1 (Jvm.Cond.code (⟨"java/lang/String", "checkIndex", "(II)V"⟩ : MethodName) jdk_42_method_155_code 2 none :: ws) ({ frames := 1, cells := 0, slots := 0, locals := 14 } : Room)) (fun a U => a = #[(.int p0), (.int p1)] ∧ Z.Warmed39 U.vm ∧ U.heap = h0) (fun _ _ _ _ _ => True) (fun _ U o U' => ∃ v L, o = .returned v ∧ Q8 Z p0 p1 wf h0 n0 v U'.heap L ∧ FrameEnd U o U' L ({ frames := 1, cells := 0, slots := 0, locals := 14 } : Room).cells ({ frames := 1, cells := 0, slots := 0, locals := 14 } : Room).slots) := by
  refine MetFree.of_bodySF (plainFor_of_name pn_4) hisR ?_
  intro p e s m args below meth c s₁ Bd hml0 hP hK
  obtain ⟨rfl, hZ, hh⟩ := hP
  have hx := Bd.exec
  have hby := Bd.bytes
  have hml : c.maxLocals = 2 := hml0
  have hown : s.vm.findClass "java/lang/String" = some m.cls := findClass_of_methodNamed Bd.named
  have hnm := (name_of_methodNamed Bd.named Bd.method).1
  have hlk : meth.locks = false := BodyLoose.notSynchronized Bd
  have X0 : Stand p l e ({ frames := 1, cells := 0, slots := 0, locals := 14 } : Room) s m #[(.int p0), (.int p1)] below meth c s₁ [] 0 0 := Stand.of_body Bd
  have e0 : s₁.heap = h0 := by rw [← hh, Bd.state]; rfl
  have N0 := Fr.nil n0
  show Run p e s below (Q8 Z p0 p1 wf h0 n0) ({ frames := 1, cells := 0, slots := 0, locals := 14 } : Room).cells ({ frames := 1, cells := 0, slots := 0, locals := 14 } : Room).slots s₁ (entryFrame m #[(.int p0), (.int p1)] 2)
  rw [ef_8]
  show Run _ _ _ _ _ _ _ s₁ (mkF m 0 #[.val (.int p0), .val (.int p1)] [])
  refine go (T' := s₁) (f' := (mkF m 1 #[.val (.int p0), .val (.int p1)] [(.int p0)])) (by intro t k; exact XS.iloadN X0.here hx rfl (hb hby d8_0) rfl k) ?_
  show Run _ _ _ _ _ _ _ s₁ (mkF m 1 #[.val (.int p0), .val (.int p1)] [(.int p0)])
  refine go (T' := s₁) (f' := (mkF m 2 #[.val (.int p0), .val (.int p1)] [(.int p1), (.int p0)])) (by intro t k; exact XS.iloadN X0.here hx rfl (hb hby d8_1) rfl k) ?_
  show Run _ _ _ _ _ _ _ s₁ (mkF m 2 #[.val (.int p0), .val (.int p1)] [(.int p1), (.int p0)])
  obtain ⟨T1, X1, e1, st1⟩ := getS2 X0 hx hZ hown (host := "") (Or.inl (hw _ (List.mem_of_getElem? (i := 54) rfl))) Via.refl e0 (S_sf.ext O0.2) (g := (mkF m 2 #[.val (.int p0), .val (.int p1)] [(.int p1), (.int p0)])) rfl (hb hby d8_2)
  refine go st1 ?_
  rcases ref_cases hwf with rfl | ⟨w9, rfl⟩
  · skip
    show Run _ _ _ _ _ _ _ T1 (mkF m 5 #[.val (.int p0), .val (.int p1)] [.null, (.int p1), (.int p0)])
    obtain ⟨_, _, ⟨T2, Lz2, kz2, nz2⟩, -, X2, ⟨Lc2, hQ2, lz2, yz2, zz2⟩, st2⟩ := Jvm.LawKit.callS X1 hx (y := (⟨"jdk/internal/util/Preconditions", "checkIndex", "(IILjava/util/function/BiFunction;)I"⟩ : MethodName)) hown (mvT hZ (hw _ (List.mem_of_getElem? (i := 56) rfl))) (mvT hZ (hw _ (List.mem_of_getElem? (i := 57) rfl))) (mvT hZ (hw _ (List.mem_of_getElem? (i := 55) rfl))) (mvT hZ (hw _ (List.mem_of_getElem? (i := 58) rfl))) (by decide) (backOf (W := 0) (rm9n l Z aw hw [] p0 p1  h0 n0 Z0 h0p hlt) hZ (hw _ (List.mem_of_getElem? (i := 58) rfl)) (hw _ (List.mem_of_getElem? (i := 55) rfl)) (by decide) (by decide)) (g := (mkF m 5 #[.val (.int p0), .val (.int p1)] [.null, (.int p1), (.int p0)])) rfl (by rw [hml]; rfl) (argsL := [(.int p0), (.int p1), .null]) (rest := []) (lenOf pd_28IILjava2futil2ffunction2fBiFunction3b29I rfl) rfl (by show 2 * 0 + _ ≤ _; exact Nat.le_of_eq rfl) (hb hby d8_5) (fun _ _ => ⟨rfl, e1, (by decide : 0 + 0 ≤ _), (by decide : 0 + 0 ≤ _)⟩)
    dsimp only [Pt.U, Pt.locs, Pt.cells, Pt.slots] at X2 lz2 yz2 zz2 st2 hQ2
    subst lz2 yz2 zz2
    obtain ⟨rfl, N2q, e2⟩ := hQ2
    have N2 := Fr.app N0 N2q
    refine go st2 ?_
    show Run _ _ _ _ _ _ _ T2 (mkF m 8 #[.val (.int p0), .val (.int p1)] [(.int p0)])
    refine go (T' := T2) (f' := (mkF m 9 #[.val (.int p0), .val (.int p1)] [])) (by intro t k; exact XS.pop X2.here hx rfl (hb hby d8_8) rfl rfl k) ?_
    show Run _ _ _ _ _ _ _ T2 (mkF m 9 #[.val (.int p0), .val (.int p1)] [])
    refine retV X2 hx Bd.returns (hb hby d8_9) hlk (by decide) (by decide) ?_
    show Q8 Z p0 p1 .null h0 n0 _ T2.heap _
    rw [e2]
    exact ⟨rfl, N2, rfl⟩
  · skip
    show Run _ _ _ _ _ _ _ T1 (mkF m 5 #[.val (.int p0), .val (.int p1)] [(.ref w9), (.int p1), (.int p0)])
    obtain ⟨_, _, ⟨T3, Lz3, kz3, nz3⟩, -, X3, ⟨Lc3, hQ3, lz3, yz3, zz3⟩, st3⟩ := Jvm.LawKit.callS X1 hx (y := (⟨"jdk/internal/util/Preconditions", "checkIndex", "(IILjava/util/function/BiFunction;)I"⟩ : MethodName)) hown (mvT hZ (hw _ (List.mem_of_getElem? (i := 56) rfl))) (mvT hZ (hw _ (List.mem_of_getElem? (i := 57) rfl))) (mvT hZ (hw _ (List.mem_of_getElem? (i := 55) rfl))) (mvT hZ (hw _ (List.mem_of_getElem? (i := 58) rfl))) (by decide) (backOf (W := 0) (rm9 l Z aw hw [] p0 p1 w9  h0 n0 Z0 h0p hlt) hZ (hw _ (List.mem_of_getElem? (i := 58) rfl)) (hw _ (List.mem_of_getElem? (i := 55) rfl)) (by decide) (by decide)) (g := (mkF m 5 #[.val (.int p0), .val (.int p1)] [(.ref w9), (.int p1), (.int p0)])) rfl (by rw [hml]; rfl) (argsL := [(.int p0), (.int p1), (.ref w9)]) (rest := []) (lenOf pd_28IILjava2futil2ffunction2fBiFunction3b29I rfl) rfl (by show 2 * 0 + _ ≤ _; exact Nat.le_of_eq rfl) (hb hby d8_5) (fun _ _ => ⟨rfl, e1, (by decide : 0 + 0 ≤ _), (by decide : 0 + 0 ≤ _)⟩)
    dsimp only [Pt.U, Pt.locs, Pt.cells, Pt.slots] at X3 lz3 yz3 zz3 st3 hQ3
    subst lz3 yz3 zz3
    obtain ⟨rfl, N3q, e3⟩ := hQ3
    have N3 := Fr.app N0 N3q
    refine go st3 ?_
    show Run _ _ _ _ _ _ _ T3 (mkF m 8 #[.val (.int p0), .val (.int p1)] [(.int p0)])
    refine go (T' := T3) (f' := (mkF m 9 #[.val (.int p0), .val (.int p1)] [])) (by intro t k; exact XS.pop X3.here hx rfl (hb hby d8_8) rfl rfl k) ?_
    show Run _ _ _ _ _ _ _ T3 (mkF m 9 #[.val (.int p0), .val (.int p1)] [])
    refine retV X3 hx Bd.returns (hb hby d8_9) hlk (by decide) (by decide) ?_
    show Q8 Z p0 p1 (.ref w9) h0 n0 _ T3.heap _
    rw [e3]
    exact ⟨rfl, N3, rfl⟩
theorem d7_0 : decode jdk_43_method_2_code 0 = .ok (.iload_n 1, 1) := by decide +kernel
theorem d7_1 : decode jdk_43_method_2_code 1 = .ok (.aload_n 0, 1) := by decide +kernel
theorem d7_2 : decode jdk_43_method_2_code 2 = .ok (.arraylength, 1) := by decide +kernel
theorem d7_3 : decode jdk_43_method_2_code 3 = .ok (.invokestatic 9, 3) := by decide +kernel
theorem d7_6 : decode jdk_43_method_2_code 6 = .ok (.aload_n 0, 1) := by decide +kernel
theorem d7_7 : decode jdk_43_method_2_code 7 = .ok (.iload_n 1, 1) := by decide +kernel
theorem d7_8 : decode jdk_43_method_2_code 8 = .ok (.baload, 1) := by decide +kernel
theorem d7_9 : decode jdk_43_method_2_code 9 = .ok (.sipush 255, 3) := by decide +kernel
theorem d7_12 : decode jdk_43_method_2_code 12 = .ok (.iand, 1) := by decide +kernel
theorem d7_13 : decode jdk_43_method_2_code 13 = .ok (.i2c, 1) := by decide +kernel
theorem d7_14 : decode jdk_43_method_2_code 14 = .ok (.ireturn, 1) := by decide +kernel
theorem pd_28II29V : parseMethodDescriptor "(II)V" = some ⟨[.int, .int], none⟩ := by decide +kernel
theorem pn_7 : plainName "java/lang/StringLatin1" = true := by first | (simp [plainName, overriddenIn]; done) | decide +kernel
theorem ef_7 (m : MethodId) (x0 : Addr) (x1 : Int32) : entryFrame m #[(.ref x0), (.int x1)] 2 = mkF m 0 #[.val (.ref x0), .val (.int x1)] [] := by first | (simp [entryFrame, mkF, argsToLocals, Value.category]; done) | rfl
def Q7 (Z : State) (a0 : Addr) (p1 : Int32) (wf : Value) (vs : List Value) (n x : Int32) (h0 : Heap) (n0 : Nat) (v : Option Value) (h : Heap) (L : List Loc) : Prop := v = some (.int (nar .char (((x &&& (255 : Int32))).toUInt32.toUInt16.toUInt32.toInt32))) ∧ Fr n0 L ∧ h = h0
set_option maxRecDepth 65536 in
set_option maxHeartbeats 40000000 in
theorem rm7 (l : Launch) (Z : State) (aw : Array Value) (hw : ∀ d ∈ tables_1, d.before aw Z = true) (ws : List Jvm.Cond) (a0 : Addr) (p1 : Int32) (wf : Value) (vs : List Value) (n x : Int32) (h0 : Heap) (n0 : Nat) (Z0 : n0 ≤ h0.size) (O0 : Old Z n0 h0) (S_sf : Sta Z Z.heap "jdk/internal/util/Preconditions" "SIOOBE_FORMATTER" "Ljava/util/function/BiFunction;" wf) (hwf : wf.isRef = true) (A_a0 : Ary Z h0 a0 .byte vs) (hlen : vs.length.toInt32 = n) (h0p : ¬ (p1 < (0 : Int32))) (hlt : p1 < n) (hget : vs[p1.toNatClampNeg]? = some (.int x)) :
    MetFree l (⟨"java/lang/StringLatin1", "charAt", "([BI)C"⟩ : MethodName) (head1 (Jvm.Cond.code (⟨"java/lang/StringLatin1", "charAt", "([BI)C"⟩ : MethodName) jdk_43_method_2_code 2 (some .char) :: ws) ({ frames := 2, cells := 0, slots := 0, locals := 27 } : Room)) (fun a U => a = #[(.ref a0), (.int p1)] ∧ Z.Warmed39 U.vm ∧ U.heap = h0) (fun _ _ _ _ _ => True) (fun _ U o U' => ∃ v L, o = .returned v ∧ Q7 Z a0 p1 wf vs n x h0 n0 v U'.heap L ∧ FrameEnd U o U' L ({ frames := 2, cells := 0, slots := 0, locals := 27 } : Room).cells ({ frames := 2, cells := 0, slots := 0, locals := 27 } : Room).slots) := by
  refine MetFree.of_bodySF (plainFor_of_name pn_7) hisR ?_
  intro p e s m args below meth c s₁ Bd hml0 hP hK
  obtain ⟨rfl, hZ, hh⟩ := hP
  have hx := Bd.exec
  have hby := Bd.bytes
  have hml : c.maxLocals = 2 := hml0
  have hown : s.vm.findClass "java/lang/StringLatin1" = some m.cls := findClass_of_methodNamed Bd.named
  have hnm := (name_of_methodNamed Bd.named Bd.method).1
  have hlk : meth.locks = false := BodyLoose.notSynchronized Bd
  have X0 : Stand p l e ({ frames := 2, cells := 0, slots := 0, locals := 27 } : Room) s m #[(.ref a0), (.int p1)] below meth c s₁ [] 0 0 := Stand.of_body Bd
  have e0 : s₁.heap = h0 := by rw [← hh, Bd.state]; rfl
  have N0 := Fr.nil n0
  show Run p e s below (Q7 Z a0 p1 wf vs n x h0 n0) ({ frames := 2, cells := 0, slots := 0, locals := 27 } : Room).cells ({ frames := 2, cells := 0, slots := 0, locals := 27 } : Room).slots s₁ (entryFrame m #[(.ref a0), (.int p1)] 2)
  rw [ef_7]
  show Run _ _ _ _ _ _ _ s₁ (mkF m 0 #[.val (.ref a0), .val (.int p1)] [])
  refine go (T' := s₁) (f' := (mkF m 1 #[.val (.ref a0), .val (.int p1)] [(.int p1)])) (by intro t k; exact XS.iloadN X0.here hx rfl (hb hby d7_0) rfl k) ?_
  show Run _ _ _ _ _ _ _ s₁ (mkF m 1 #[.val (.ref a0), .val (.int p1)] [(.int p1)])
  refine go (T' := s₁) (f' := (mkF m 2 #[.val (.ref a0), .val (.int p1)] [(.ref a0), (.int p1)])) (by intro t k; exact XS.aloadN X0.here hx rfl (hb hby d7_1) rfl rfl k) ?_
  show Run _ _ _ _ _ _ _ s₁ (mkF m 2 #[.val (.ref a0), .val (.int p1)] [(.ref a0), (.int p1)])
  refine go (T' := s₁) (f' := (mkF m 3 #[.val (.ref a0), .val (.int p1)] [(.int n), (.int p1)])) (by intro t k; exact alen X0 hx hZ e0 A_a0 (z := n) hlen (g := (mkF m 2 #[.val (.ref a0), .val (.int p1)] [(.ref a0), (.int p1)])) rfl rfl (hb hby d7_2) _ k) ?_
  show Run _ _ _ _ _ _ _ s₁ (mkF m 3 #[.val (.ref a0), .val (.int p1)] [(.int n), (.int p1)])
  obtain ⟨_, _, ⟨T1, Lz1, kz1, nz1⟩, -, X1, ⟨Lc1, hQ1, lz1, yz1, zz1⟩, st1⟩ := Jvm.LawKit.callS X0 hx (y := (⟨"java/lang/String", "checkIndex", "(II)V"⟩ : MethodName)) hown (mvT hZ (hw _ (List.mem_of_getElem? (i := 51) rfl))) (mvT hZ (hw _ (List.mem_of_getElem? (i := 52) rfl))) (mvT hZ (hw _ (List.mem_of_getElem? (i := 25) rfl))) (mvT hZ (hw _ (List.mem_of_getElem? (i := 53) rfl))) (by decide) (backOf (W := 0) (rm8 l Z aw hw [] p1 n wf h0 n0 Z0 O0 S_sf hwf h0p hlt) hZ (hw _ (List.mem_of_getElem? (i := 53) rfl)) (hw _ (List.mem_of_getElem? (i := 25) rfl)) (by decide) (by decide)) (g := (mkF m 3 #[.val (.ref a0), .val (.int p1)] [(.int n), (.int p1)])) rfl (by rw [hml]; rfl) (argsL := [(.int p1), (.int n)]) (rest := []) (lenOf pd_28II29V rfl) rfl (by show 2 * 0 + _ ≤ _; exact Nat.le_of_eq rfl) (hb hby d7_3) (fun _ _ => ⟨rfl, e0, (by decide : 0 + 0 ≤ _), (by decide : 0 + 0 ≤ _)⟩)
  dsimp only [Pt.U, Pt.locs, Pt.cells, Pt.slots] at X1 lz1 yz1 zz1 st1 hQ1
  subst lz1 yz1 zz1
  obtain ⟨rfl, N1q, e1⟩ := hQ1
  have N1 := Fr.app N0 N1q
  refine go st1 ?_
  show Run _ _ _ _ _ _ _ T1 (mkF m 6 #[.val (.ref a0), .val (.int p1)] [])
  refine go (T' := T1) (f' := (mkF m 7 #[.val (.ref a0), .val (.int p1)] [(.ref a0)])) (by intro t k; exact XS.aloadN X1.here hx rfl (hb hby d7_6) rfl rfl k) ?_
  show Run _ _ _ _ _ _ _ T1 (mkF m 7 #[.val (.ref a0), .val (.int p1)] [(.ref a0)])
  refine go (T' := T1) (f' := (mkF m 8 #[.val (.ref a0), .val (.int p1)] [(.int p1), (.ref a0)])) (by intro t k; exact XS.iloadN X1.here hx rfl (hb hby d7_7) rfl k) ?_
  show Run _ _ _ _ _ _ _ T1 (mkF m 8 #[.val (.ref a0), .val (.int p1)] [(.int p1), (.ref a0)])
  refine go (T' := T1) (f' := (mkF m 9 #[.val (.ref a0), .val (.int p1)] [(.int x)])) (by intro t k; exact ldB X1 hx hZ e1 A_a0 (j := p1) (v := (.int x)) h0p hget (g := (mkF m 8 #[.val (.ref a0), .val (.int p1)] [(.int p1), (.ref a0)])) rfl rfl (hb hby d7_8) _ k) ?_
  show Run _ _ _ _ _ _ _ T1 (mkF m 9 #[.val (.ref a0), .val (.int p1)] [(.int x)])
  refine go (T' := T1) (f' := (mkF m 12 #[.val (.ref a0), .val (.int p1)] [(.int (255 : Int32)), (.int x)])) (by intro t k; exact XS.sipush X1.here hx rfl (hb hby d7_9) k) ?_
  show Run _ _ _ _ _ _ _ T1 (mkF m 12 #[.val (.ref a0), .val (.int p1)] [(.int (255 : Int32)), (.int x)])
  refine go (T' := T1) (f' := (mkF m 13 #[.val (.ref a0), .val (.int p1)] [(.int (x &&& (255 : Int32)))])) (by intro t k; exact XS.iand X1.here hx rfl (hb hby d7_12) rfl k) ?_
  show Run _ _ _ _ _ _ _ T1 (mkF m 13 #[.val (.ref a0), .val (.int p1)] [(.int (x &&& (255 : Int32)))])
  refine go (T' := T1) (f' := (mkF m 14 #[.val (.ref a0), .val (.int p1)] [(.int (((x &&& (255 : Int32))).toUInt32.toUInt16.toUInt32.toInt32))])) (by intro t k; exact XS.i2c X1.here hx rfl (hb hby d7_13) rfl k) ?_
  show Run _ _ _ _ _ _ _ T1 (mkF m 14 #[.val (.ref a0), .val (.int p1)] [(.int (((x &&& (255 : Int32))).toUInt32.toUInt16.toUInt32.toInt32))])
  refine retZ X1 hx (t := .char) Bd.returns (by simp) (hb hby d7_14) hlk (by decide) (by decide) ?_
  show Q7 Z a0 p1 wf vs n x h0 n0 _ T1.heap _
  rw [e1]
  have hv : (some (.int (nar .char (((x &&& (255 : Int32))).toUInt32.toUInt16.toUInt32.toInt32))) : Option Value) = some (.int (nar .char (((x &&& (255 : Int32))).toUInt32.toUInt16.toUInt32.toInt32))) := rfl
  exact ⟨hv, N1, rfl⟩
theorem own_nar2 (y : Int32) : nar .char (nar .char y) = nar .char y := by
  simp only [nar, UInt32.toUInt32_toInt32, UInt16.toUInt16_toUInt32]
theorem d5_0 : decode jdk_42_method_56_code 0 = .ok (.aload_n 0, 1) := by decide +kernel
theorem d5_1 : decode jdk_42_method_56_code 1 = .ok (.invokevirtual 492, 3) := by decide +kernel
theorem d5_4 : decode jdk_42_method_56_code 4 = .ok (.ifCond .eq 12, 3) := by decide +kernel
theorem d5_7 : decode jdk_42_method_56_code 7 = .ok (.aload_n 0, 1) := by decide +kernel
theorem d5_8 : decode jdk_42_method_56_code 8 = .ok (.getfield 9, 3) := by decide +kernel
theorem d5_11 : decode jdk_42_method_56_code 11 = .ok (.iload_n 1, 1) := by decide +kernel
theorem d5_12 : decode jdk_42_method_56_code 12 = .ok (.invokestatic 495, 3) := by decide +kernel
theorem d5_15 : decode jdk_42_method_56_code 15 = .ok (.ireturn, 1) := by decide +kernel
theorem pd_2829Z : parseMethodDescriptor "()Z" = some ⟨[], some .boolean⟩ := by decide +kernel
theorem pd_285bBI29C : parseMethodDescriptor "([BI)C" = some ⟨[(.array .byte), .int], some .char⟩ := by decide +kernel
theorem ef_5 (m : MethodId) (x0 : Addr) (x1 : Int32) : entryFrame m #[(.ref x0), (.int x1)] 2 = mkF m 0 #[.val (.ref x0), .val (.int x1)] [] := by first | (simp [entryFrame, mkF, argsToLocals, Value.category]; done) | rfl
def Q5 (Z : State) (a0 : Addr) (p1 : Int32) (cs : Int32) (wf : Value) (b : Addr) (vs : List Value) (n x y : Int32) (h0 : Heap) (n0 : Nat) (v : Option Value) (h : Heap) (L : List Loc) : Prop := v = some (.int y) ∧ Fr n0 L ∧ h = h0
set_option maxRecDepth 65536 in
set_option maxHeartbeats 40000000 in
theorem rm5 (l : Launch) (Z : State) (aw : Array Value) (hw : ∀ d ∈ tables_1, d.before aw Z = true) (ws : List Jvm.Cond) (a0 : Addr) (p1 : Int32) (cs : Int32) (wf : Value) (b : Addr) (vs : List Value) (n x y : Int32) (h0 : Heap) (n0 : Nat) (Z0 : n0 ≤ h0.size) (O0 : Old Z n0 h0) (S_cs : Sta Z Z.heap "java/lang/String" "COMPACT_STRINGS" "Z" (.int cs)) (hcs : ¬ (cs = (0 : Int32))) (S_sf : Sta Z Z.heap "jdk/internal/util/Preconditions" "SIOOBE_FORMATTER" "Ljava/util/function/BiFunction;" wf) (hwf : wf.isRef = true) (E_a0 : Exa Z h0 a0 "java/lang/String") (F_c : Fld Z h0 a0 "java/lang/String" "coder" "B" (.int (0 : Int32))) (F_v : Fld Z h0 a0 "java/lang/String" "value" "[B" (.ref b)) (A_b : Ary Z h0 b .byte vs) (hlen : vs.length.toInt32 = n) (h0p : ¬ (p1 < (0 : Int32))) (hlt : p1 < n) (hget : vs[p1.toNatClampNeg]? = some (.int x)) (hy : (nar .char (((x &&& (255 : Int32))).toUInt32.toUInt16.toUInt32.toInt32)) = y) :
    MetFree l (⟨"java/lang/String", "charAt", "(I)C"⟩ : MethodName) (head1 (Jvm.Cond.code (⟨"java/lang/String", "charAt", "(I)C"⟩ : MethodName) jdk_42_method_56_code 2 (some .char) :: ws) ({ frames := 3, cells := 0, slots := 0, locals := 40 } : Room)) (fun a U => a = #[(.ref a0), (.int p1)] ∧ Z.Warmed39 U.vm ∧ U.heap = h0) (fun _ _ _ _ _ => True) (fun _ U o U' => ∃ v L, o = .returned v ∧ Q5 Z a0 p1 cs wf b vs n x y h0 n0 v U'.heap L ∧ FrameEnd U o U' L ({ frames := 3, cells := 0, slots := 0, locals := 40 } : Room).cells ({ frames := 3, cells := 0, slots := 0, locals := 40 } : Room).slots) := by
  refine MetFree.of_bodySF (plainFor_of_name pn_4) hisR ?_
  intro p e s m args below meth c s₁ Bd hml0 hP hK
  obtain ⟨rfl, hZ, hh⟩ := hP
  have hx := Bd.exec
  have hby := Bd.bytes
  have hml : c.maxLocals = 2 := hml0
  have hown : s.vm.findClass "java/lang/String" = some m.cls := findClass_of_methodNamed Bd.named
  have hnm := (name_of_methodNamed Bd.named Bd.method).1
  have hlk : meth.locks = false := BodyLoose.notSynchronized Bd
  have X0 : Stand p l e ({ frames := 3, cells := 0, slots := 0, locals := 40 } : Room) s m #[(.ref a0), (.int p1)] below meth c s₁ [] 0 0 := Stand.of_body Bd
  have e0 : s₁.heap = h0 := by rw [← hh, Bd.state]; rfl
  have N0 := Fr.nil n0
  show Run p e s below (Q5 Z a0 p1 cs wf b vs n x y h0 n0) ({ frames := 3, cells := 0, slots := 0, locals := 40 } : Room).cells ({ frames := 3, cells := 0, slots := 0, locals := 40 } : Room).slots s₁ (entryFrame m #[(.ref a0), (.int p1)] 2)
  rw [ef_5]
  show Run _ _ _ _ _ _ _ s₁ (mkF m 0 #[.val (.ref a0), .val (.int p1)] [])
  refine go (T' := s₁) (f' := (mkF m 1 #[.val (.ref a0), .val (.int p1)] [(.ref a0)])) (by intro t k; exact XS.aloadN X0.here hx rfl (hb hby d5_0) rfl rfl k) ?_
  show Run _ _ _ _ _ _ _ s₁ (mkF m 1 #[.val (.ref a0), .val (.int p1)] [(.ref a0)])
  obtain ⟨cq1, kq1, q1a, q1b, q1c⟩ := isOf hZ e0 E_a0
  obtain ⟨_, _, ⟨T1, Lz1, kz1, nz1⟩, -, X1, ⟨Lc1, hQ1, lz1, yz1, zz1⟩, st1⟩ := X0.virtualBack hx (y := (⟨"java/lang/String", "isLatin1", "()Z"⟩ : MethodName)) (z := (⟨"java/lang/String", "isLatin1", "()Z"⟩ : MethodName)) hown (mvT hZ (hw _ (List.mem_of_getElem? (i := 42) rfl))) (mvT hZ (hw _ (List.mem_of_getElem? (i := 43) rfl))) (notFace_of_selects (args := #[]) (mvT hZ (hw _ (List.mem_of_getElem? (i := 45) rfl)))) (mvT hZ (hw _ (List.mem_of_getElem? (i := 45) rfl))) (mvT hZ (hw _ (List.mem_of_getElem? (i := 44) rfl))) (by decide) (backOf (W := 0) (rm6 l Z aw hw [] a0 cs h0 n0 Z0 O0 S_cs hcs F_c) hZ (hw _ (List.mem_of_getElem? (i := 46) rfl)) (hw _ (List.mem_of_getElem? (i := 25) rfl)) (by decide) (by decide)) q1a q1c (g := (mkF m 1 #[.val (.ref a0), .val (.int p1)] [(.ref a0)])) rfl (by rw [hml]; rfl) (Steps.refl _) (argsL := []) (rest := []) (lenOf pd_2829Z rfl) rfl (by show 2 * 0 + _ ≤ _; exact Nat.le_of_eq rfl) (hb hby d5_1) (fun _ _ => ⟨rfl, e0, (by decide : 0 + 0 ≤ _), (by decide : 0 + 0 ≤ _)⟩)
  dsimp only [Pt.U, Pt.locs, Pt.cells, Pt.slots] at X1 lz1 yz1 zz1 st1 hQ1
  subst lz1 yz1 zz1
  obtain ⟨rfl, N1q, e1⟩ := hQ1
  have N1 := Fr.app N0 N1q
  refine go (fun _ k => st1.trans k) ?_
  show Run _ _ _ _ _ _ _ T1 (mkF m 4 #[.val (.ref a0), .val (.int p1)] [(.int (1 : Int32))])
  refine go (T' := T1) (f' := (mkF m 7 #[.val (.ref a0), .val (.int p1)] [])) (by intro t k; exact XS.ifNo X1.here hx rfl (hb hby d5_4) rfl ((if0 _ _).trans (feq (by decide : ¬ ((1 : Int32) = (0 : Int32)))).1) k) ?_
  show Run _ _ _ _ _ _ _ T1 (mkF m 7 #[.val (.ref a0), .val (.int p1)] [])
  refine go (T' := T1) (f' := (mkF m 8 #[.val (.ref a0), .val (.int p1)] [(.ref a0)])) (by intro t k; exact XS.aloadN X1.here hx rfl (hb hby d5_7) rfl rfl k) ?_
  show Run _ _ _ _ _ _ _ T1 (mkF m 8 #[.val (.ref a0), .val (.int p1)] [(.ref a0)])
  obtain ⟨T2, X2, e2, st2⟩ := getF X1 hx hZ hown (host := "") (Or.inl (hw _ (List.mem_of_getElem? (i := 27) rfl))) Via.refl e1 F_v (g := (mkF m 8 #[.val (.ref a0), .val (.int p1)] [(.ref a0)])) rfl rfl (hb hby d5_8)
  refine go st2 ?_
  show Run _ _ _ _ _ _ _ T2 (mkF m 11 #[.val (.ref a0), .val (.int p1)] [(.ref b)])
  refine go (T' := T2) (f' := (mkF m 12 #[.val (.ref a0), .val (.int p1)] [(.int p1), (.ref b)])) (by intro t k; exact XS.iloadN X2.here hx rfl (hb hby d5_11) rfl k) ?_
  show Run _ _ _ _ _ _ _ T2 (mkF m 12 #[.val (.ref a0), .val (.int p1)] [(.int p1), (.ref b)])
  obtain ⟨_, _, ⟨T3, Lz3, kz3, nz3⟩, -, X3, ⟨Lc3, hQ3, lz3, yz3, zz3⟩, st3⟩ := Jvm.LawKit.callS X2 hx (y := (⟨"java/lang/StringLatin1", "charAt", "([BI)C"⟩ : MethodName)) hown (mvT hZ (hw _ (List.mem_of_getElem? (i := 47) rfl))) (mvT hZ (hw _ (List.mem_of_getElem? (i := 48) rfl))) (mvT hZ (hw _ (List.mem_of_getElem? (i := 49) rfl))) (mvT hZ (hw _ (List.mem_of_getElem? (i := 50) rfl))) (by decide) (backOf (W := 0) (rm7 l Z aw hw [] b p1 wf vs n x h0 n0 Z0 O0 S_sf hwf A_b hlen h0p hlt hget) hZ (hw _ (List.mem_of_getElem? (i := 50) rfl)) (hw _ (List.mem_of_getElem? (i := 49) rfl)) (by decide) (by decide)) (g := (mkF m 12 #[.val (.ref a0), .val (.int p1)] [(.int p1), (.ref b)])) rfl (by rw [hml]; rfl) (argsL := [(.ref b), (.int p1)]) (rest := []) (lenOf pd_285bBI29C rfl) rfl (by show 2 * 0 + _ ≤ _; exact Nat.le_of_eq rfl) (hb hby d5_12) (fun _ _ => ⟨rfl, e2, (by decide : 0 + 0 ≤ _), (by decide : 0 + 0 ≤ _)⟩)
  dsimp only [Pt.U, Pt.locs, Pt.cells, Pt.slots] at X3 lz3 yz3 zz3 st3 hQ3
  subst lz3 yz3 zz3
  obtain ⟨rfl, N3q, e3⟩ := hQ3
  have N3 := Fr.app N1 N3q
  refine go st3 ?_
  show Run _ _ _ _ _ _ _ T3 (mkF m 15 #[.val (.ref a0), .val (.int p1)] [(.int (nar .char (((x &&& (255 : Int32))).toUInt32.toUInt16.toUInt32.toInt32)))])
  refine retZ X3 hx (t := .char) Bd.returns (by simp) (hb hby d5_15) hlk (by decide) (by decide) ?_
  show Q5 Z a0 p1 cs wf b vs n x y h0 n0 _ T3.heap _
  rw [e3]
  have hv' : (nar .char (nar .char (((x &&& (255 : Int32))).toUInt32.toUInt16.toUInt32.toInt32))) = y := by
    exact (own_nar2 _).trans hy
  have hv : (some (.int (nar .char (nar .char (((x &&& (255 : Int32))).toUInt32.toUInt16.toUInt32.toInt32)))) : Option Value) = some (.int y) := congrArg (fun z => (some (.int z) : Option Value)) hv'
  exact ⟨hv, N3, rfl⟩
theorem d1_0 : decode method_3_code 0 = .ok (.iload_n 0, 1) := by decide +kernel
theorem d1_1 : decode method_3_code 1 = .ok (.ifCond .ne 7, 3) := by decide +kernel
theorem d1_4 : decode method_3_code 4 = .ok (.getstatic 34, 3) := by decide +kernel
theorem d1_7 : decode method_3_code 7 = .ok (.areturn, 1) := by decide +kernel
theorem pn_1 : plainName "com/example/petrel/petrel/model/OperatorAsksForRewardPinLaw" = true := by first | (simp [plainName, overriddenIn]; done) | decide +kernel
theorem ef_1k0 (m : MethodId)  : entryFrame m #[(.int (0 : Int32))] 1 = mkF m 0 #[.val (.int (0 : Int32))] [] := by first | (simp [entryFrame, mkF, argsToLocals, Value.category]; done) | rfl
def Q1k0 (Z : State) (c0 : Addr) (h0 : Heap) (n0 : Nat) (v : Option Value) (h : Heap) (L : List Loc) : Prop := v = some (.ref c0) ∧ Fr n0 L ∧ h = h0
set_option maxRecDepth 65536 in
set_option maxHeartbeats 40000000 in
theorem rm1k0 (l : Launch) (Z : State) (aw : Array Value) (hw : ∀ d ∈ tables_1, d.before aw Z = true) (ws : List Jvm.Cond) (c0 : Addr) (h0 : Heap) (n0 : Nat) (Z0 : n0 ≤ h0.size) (O0 : Old Z n0 h0) (S_0 : Sta Z Z.heap "com/example/petrel/petrel/model/Syntax$Operator" "P" "Lcom/example/petrel/petrel/model/Syntax$Operator;" (.ref c0)) :
    MetFree l (⟨"com/example/petrel/petrel/model/OperatorAsksForRewardPinLaw", "operatorAt", "(I)Lcom/example/petrel/petrel/model/Syntax$Operator;"⟩ : MethodName) (head1 (Jvm.Cond.code (⟨"com/example/petrel/petrel/model/OperatorAsksForRewardPinLaw", "operatorAt", "(I)Lcom/example/petrel/petrel/model/Syntax$Operator;"⟩ : MethodName) method_3_code 1 (some (.object "com/example/petrel/petrel/model/Syntax$Operator")) :: ws) ({ frames := 0, cells := 0, slots := 0, locals := 0 } : Room)) (fun a U => a = #[(.int (0 : Int32))] ∧ Z.Warmed39 U.vm ∧ U.heap = h0) (fun _ _ _ _ _ => True) (fun _ U o U' => ∃ v L, o = .returned v ∧ Q1k0 Z c0 h0 n0 v U'.heap L ∧ FrameEnd U o U' L ({ frames := 0, cells := 0, slots := 0, locals := 0 } : Room).cells ({ frames := 0, cells := 0, slots := 0, locals := 0 } : Room).slots) := by
  refine MetFree.of_bodySF (plainFor_of_name pn_1) hisR ?_
  intro p e s m args below meth c s₁ Bd hml0 hP hK
  obtain ⟨rfl, hZ, hh⟩ := hP
  have hx := Bd.exec
  have hby := Bd.bytes
  have hml : c.maxLocals = 1 := hml0
  have hown : s.vm.findClass "com/example/petrel/petrel/model/OperatorAsksForRewardPinLaw" = some m.cls := findClass_of_methodNamed Bd.named
  have hnm := (name_of_methodNamed Bd.named Bd.method).1
  have hlk : meth.locks = false := BodyLoose.notSynchronized Bd
  have X0 : Stand p l e ({ frames := 0, cells := 0, slots := 0, locals := 0 } : Room) s m #[(.int (0 : Int32))] below meth c s₁ [] 0 0 := Stand.of_body Bd
  have e0 : s₁.heap = h0 := by rw [← hh, Bd.state]; rfl
  have N0 := Fr.nil n0
  show Run p e s below (Q1k0 Z c0 h0 n0) ({ frames := 0, cells := 0, slots := 0, locals := 0 } : Room).cells ({ frames := 0, cells := 0, slots := 0, locals := 0 } : Room).slots s₁ (entryFrame m #[(.int (0 : Int32))] 1)
  rw [ef_1k0]
  show Run _ _ _ _ _ _ _ s₁ (mkF m 0 #[.val (.int (0 : Int32))] [])
  refine go (T' := s₁) (f' := (mkF m 1 #[.val (.int (0 : Int32))] [(.int (0 : Int32))])) (by intro t k; exact XS.iloadN X0.here hx rfl (hb hby d1_0) rfl k) ?_
  show Run _ _ _ _ _ _ _ s₁ (mkF m 1 #[.val (.int (0 : Int32))] [(.int (0 : Int32))])
  refine go (T' := s₁) (f' := (mkF m 4 #[.val (.int (0 : Int32))] [])) (by intro t k; exact XS.ifNo X0.here hx rfl (hb hby d1_1) rfl ((if0 _ _).trans (teq (rfl : (0 : Int32) = (0 : Int32))).2) k) ?_
  show Run _ _ _ _ _ _ _ s₁ (mkF m 4 #[.val (.int (0 : Int32))] [])
  obtain ⟨T1, X1, e1, st1⟩ := getS2 X0 hx hZ hown (host := "") (Or.inl (hw _ (List.mem_of_getElem? (i := 5) rfl))) Via.refl e0 (S_0.ext O0.2) (g := (mkF m 4 #[.val (.int (0 : Int32))] [])) rfl (hb hby d1_4)
  refine go st1 ?_
  show Run _ _ _ _ _ _ _ T1 (mkF m 7 #[.val (.int (0 : Int32))] [(.ref c0)])
  refine retW X1 hx (t := (.object "com/example/petrel/petrel/model/Syntax$Operator")) Bd.returns rfl (Or.inr (Or.inr (Or.inr (Or.inr ⟨rfl, rfl, rfl⟩)))) (hb hby d1_7) hlk (by decide) (by decide) ?_
  show Q1k0 Z c0 h0 n0 _ T1.heap _
  rw [e1]
  have hv : (some (.ref c0) : Option Value) = some (.ref c0) := rfl
  exact ⟨hv, N0, rfl⟩
theorem d1_8 : decode method_3_code 8 = .ok (.iload_n 0, 1) := by decide +kernel
theorem d1_9 : decode method_3_code 9 = .ok (.iconst 1, 1) := by decide +kernel
theorem d1_10 : decode method_3_code 10 = .ok (.if_icmp .ne 7, 3) := by decide +kernel
theorem d1_13 : decode method_3_code 13 = .ok (.getstatic 38, 3) := by decide +kernel
theorem d1_16 : decode method_3_code 16 = .ok (.areturn, 1) := by decide +kernel
theorem ef_1k1 (m : MethodId)  : entryFrame m #[(.int (1 : Int32))] 1 = mkF m 0 #[.val (.int (1 : Int32))] [] := by first | (simp [entryFrame, mkF, argsToLocals, Value.category]; done) | rfl
def Q1k1 (Z : State) (c1 : Addr) (h0 : Heap) (n0 : Nat) (v : Option Value) (h : Heap) (L : List Loc) : Prop := v = some (.ref c1) ∧ Fr n0 L ∧ h = h0
set_option maxRecDepth 65536 in
set_option maxHeartbeats 40000000 in
theorem rm1k1 (l : Launch) (Z : State) (aw : Array Value) (hw : ∀ d ∈ tables_1, d.before aw Z = true) (ws : List Jvm.Cond) (c1 : Addr) (h0 : Heap) (n0 : Nat) (Z0 : n0 ≤ h0.size) (O0 : Old Z n0 h0) (S_1 : Sta Z Z.heap "com/example/petrel/petrel/model/Syntax$Operator" "PMAX" "Lcom/example/petrel/petrel/model/Syntax$Operator;" (.ref c1)) :
    MetFree l (⟨"com/example/petrel/petrel/model/OperatorAsksForRewardPinLaw", "operatorAt", "(I)Lcom/example/petrel/petrel/model/Syntax$Operator;"⟩ : MethodName) (head1 (Jvm.Cond.code (⟨"com/example/petrel/petrel/model/OperatorAsksForRewardPinLaw", "operatorAt", "(I)Lcom/example/petrel/petrel/model/Syntax$Operator;"⟩ : MethodName) method_3_code 1 (some (.object "com/example/petrel/petrel/model/Syntax$Operator")) :: ws) ({ frames := 0, cells := 0, slots := 0, locals := 0 } : Room)) (fun a U => a = #[(.int (1 : Int32))] ∧ Z.Warmed39 U.vm ∧ U.heap = h0) (fun _ _ _ _ _ => True) (fun _ U o U' => ∃ v L, o = .returned v ∧ Q1k1 Z c1 h0 n0 v U'.heap L ∧ FrameEnd U o U' L ({ frames := 0, cells := 0, slots := 0, locals := 0 } : Room).cells ({ frames := 0, cells := 0, slots := 0, locals := 0 } : Room).slots) := by
  refine MetFree.of_bodySF (plainFor_of_name pn_1) hisR ?_
  intro p e s m args below meth c s₁ Bd hml0 hP hK
  obtain ⟨rfl, hZ, hh⟩ := hP
  have hx := Bd.exec
  have hby := Bd.bytes
  have hml : c.maxLocals = 1 := hml0
  have hown : s.vm.findClass "com/example/petrel/petrel/model/OperatorAsksForRewardPinLaw" = some m.cls := findClass_of_methodNamed Bd.named
  have hnm := (name_of_methodNamed Bd.named Bd.method).1
  have hlk : meth.locks = false := BodyLoose.notSynchronized Bd
  have X0 : Stand p l e ({ frames := 0, cells := 0, slots := 0, locals := 0 } : Room) s m #[(.int (1 : Int32))] below meth c s₁ [] 0 0 := Stand.of_body Bd
  have e0 : s₁.heap = h0 := by rw [← hh, Bd.state]; rfl
  have N0 := Fr.nil n0
  show Run p e s below (Q1k1 Z c1 h0 n0) ({ frames := 0, cells := 0, slots := 0, locals := 0 } : Room).cells ({ frames := 0, cells := 0, slots := 0, locals := 0 } : Room).slots s₁ (entryFrame m #[(.int (1 : Int32))] 1)
  rw [ef_1k1]
  show Run _ _ _ _ _ _ _ s₁ (mkF m 0 #[.val (.int (1 : Int32))] [])
  refine go (T' := s₁) (f' := (mkF m 1 #[.val (.int (1 : Int32))] [(.int (1 : Int32))])) (by intro t k; exact XS.iloadN X0.here hx rfl (hb hby d1_0) rfl k) ?_
  show Run _ _ _ _ _ _ _ s₁ (mkF m 1 #[.val (.int (1 : Int32))] [(.int (1 : Int32))])
  refine go (T' := s₁) (f' := (mkF m 8 #[.val (.int (1 : Int32))] [])) (by intro t k; exact XS.ifYes X0.here hx rfl (pc0 := 1) (pc' := 8) rfl (hb hby d1_1) rfl ((if0 _ _).trans (feq (by decide : ¬ ((1 : Int32) = (0 : Int32)))).2) (by decide) (by decide) k) ?_
  show Run _ _ _ _ _ _ _ s₁ (mkF m 8 #[.val (.int (1 : Int32))] [])
  refine go (T' := s₁) (f' := (mkF m 9 #[.val (.int (1 : Int32))] [(.int (1 : Int32))])) (by intro t k; exact XS.iloadN X0.here hx rfl (hb hby d1_8) rfl k) ?_
  show Run _ _ _ _ _ _ _ s₁ (mkF m 9 #[.val (.int (1 : Int32))] [(.int (1 : Int32))])
  refine go (T' := s₁) (f' := (mkF m 10 #[.val (.int (1 : Int32))] [(.int (1 : Int32)), (.int (1 : Int32))])) (by intro t k; exact XS.iconst X0.here hx rfl (hb hby d1_9) k) ?_
  show Run _ _ _ _ _ _ _ s₁ (mkF m 10 #[.val (.int (1 : Int32))] [(.int (1 : Int32)), (.int (1 : Int32))])
  refine go (T' := s₁) (f' := (mkF m 13 #[.val (.int (1 : Int32))] [])) (by intro t k; exact XS.icmpNo X0.here hx rfl (hb hby d1_10) rfl (teq (rfl : (1 : Int32) = (1 : Int32))).2 k) ?_
  show Run _ _ _ _ _ _ _ s₁ (mkF m 13 #[.val (.int (1 : Int32))] [])
  obtain ⟨T1, X1, e1, st1⟩ := getS2 X0 hx hZ hown (host := "") (Or.inl (hw _ (List.mem_of_getElem? (i := 62) rfl))) Via.refl e0 (S_1.ext O0.2) (g := (mkF m 13 #[.val (.int (1 : Int32))] [])) rfl (hb hby d1_13)
  refine go st1 ?_
  show Run _ _ _ _ _ _ _ T1 (mkF m 16 #[.val (.int (1 : Int32))] [(.ref c1)])
  refine retW X1 hx (t := (.object "com/example/petrel/petrel/model/Syntax$Operator")) Bd.returns rfl (Or.inr (Or.inr (Or.inr (Or.inr ⟨rfl, rfl, rfl⟩)))) (hb hby d1_16) hlk (by decide) (by decide) ?_
  show Q1k1 Z c1 h0 n0 _ T1.heap _
  rw [e1]
  have hv : (some (.ref c1) : Option Value) = some (.ref c1) := rfl
  exact ⟨hv, N0, rfl⟩
theorem d1_17 : decode method_3_code 17 = .ok (.iload_n 0, 1) := by decide +kernel
theorem d1_18 : decode method_3_code 18 = .ok (.iconst 2, 1) := by decide +kernel
theorem d1_19 : decode method_3_code 19 = .ok (.if_icmp .ne 7, 3) := by decide +kernel
theorem d1_22 : decode method_3_code 22 = .ok (.getstatic 41, 3) := by decide +kernel
theorem d1_25 : decode method_3_code 25 = .ok (.areturn, 1) := by decide +kernel
theorem ef_1k2 (m : MethodId)  : entryFrame m #[(.int (2 : Int32))] 1 = mkF m 0 #[.val (.int (2 : Int32))] [] := by first | (simp [entryFrame, mkF, argsToLocals, Value.category]; done) | rfl
def Q1k2 (Z : State) (c2 : Addr) (h0 : Heap) (n0 : Nat) (v : Option Value) (h : Heap) (L : List Loc) : Prop := v = some (.ref c2) ∧ Fr n0 L ∧ h = h0
set_option maxRecDepth 65536 in
set_option maxHeartbeats 40000000 in
theorem rm1k2 (l : Launch) (Z : State) (aw : Array Value) (hw : ∀ d ∈ tables_1, d.before aw Z = true) (ws : List Jvm.Cond) (c2 : Addr) (h0 : Heap) (n0 : Nat) (Z0 : n0 ≤ h0.size) (O0 : Old Z n0 h0) (S_2 : Sta Z Z.heap "com/example/petrel/petrel/model/Syntax$Operator" "PMIN" "Lcom/example/petrel/petrel/model/Syntax$Operator;" (.ref c2)) :
    MetFree l (⟨"com/example/petrel/petrel/model/OperatorAsksForRewardPinLaw", "operatorAt", "(I)Lcom/example/petrel/petrel/model/Syntax$Operator;"⟩ : MethodName) (head1 (Jvm.Cond.code (⟨"com/example/petrel/petrel/model/OperatorAsksForRewardPinLaw", "operatorAt", "(I)Lcom/example/petrel/petrel/model/Syntax$Operator;"⟩ : MethodName) method_3_code 1 (some (.object "com/example/petrel/petrel/model/Syntax$Operator")) :: ws) ({ frames := 0, cells := 0, slots := 0, locals := 0 } : Room)) (fun a U => a = #[(.int (2 : Int32))] ∧ Z.Warmed39 U.vm ∧ U.heap = h0) (fun _ _ _ _ _ => True) (fun _ U o U' => ∃ v L, o = .returned v ∧ Q1k2 Z c2 h0 n0 v U'.heap L ∧ FrameEnd U o U' L ({ frames := 0, cells := 0, slots := 0, locals := 0 } : Room).cells ({ frames := 0, cells := 0, slots := 0, locals := 0 } : Room).slots) := by
  refine MetFree.of_bodySF (plainFor_of_name pn_1) hisR ?_
  intro p e s m args below meth c s₁ Bd hml0 hP hK
  obtain ⟨rfl, hZ, hh⟩ := hP
  have hx := Bd.exec
  have hby := Bd.bytes
  have hml : c.maxLocals = 1 := hml0
  have hown : s.vm.findClass "com/example/petrel/petrel/model/OperatorAsksForRewardPinLaw" = some m.cls := findClass_of_methodNamed Bd.named
  have hnm := (name_of_methodNamed Bd.named Bd.method).1
  have hlk : meth.locks = false := BodyLoose.notSynchronized Bd
  have X0 : Stand p l e ({ frames := 0, cells := 0, slots := 0, locals := 0 } : Room) s m #[(.int (2 : Int32))] below meth c s₁ [] 0 0 := Stand.of_body Bd
  have e0 : s₁.heap = h0 := by rw [← hh, Bd.state]; rfl
  have N0 := Fr.nil n0
  show Run p e s below (Q1k2 Z c2 h0 n0) ({ frames := 0, cells := 0, slots := 0, locals := 0 } : Room).cells ({ frames := 0, cells := 0, slots := 0, locals := 0 } : Room).slots s₁ (entryFrame m #[(.int (2 : Int32))] 1)
  rw [ef_1k2]
  show Run _ _ _ _ _ _ _ s₁ (mkF m 0 #[.val (.int (2 : Int32))] [])
  refine go (T' := s₁) (f' := (mkF m 1 #[.val (.int (2 : Int32))] [(.int (2 : Int32))])) (by intro t k; exact XS.iloadN X0.here hx rfl (hb hby d1_0) rfl k) ?_
  show Run _ _ _ _ _ _ _ s₁ (mkF m 1 #[.val (.int (2 : Int32))] [(.int (2 : Int32))])
  refine go (T' := s₁) (f' := (mkF m 8 #[.val (.int (2 : Int32))] [])) (by intro t k; exact XS.ifYes X0.here hx rfl (pc0 := 1) (pc' := 8) rfl (hb hby d1_1) rfl ((if0 _ _).trans (feq (by decide : ¬ ((2 : Int32) = (0 : Int32)))).2) (by decide) (by decide) k) ?_
  show Run _ _ _ _ _ _ _ s₁ (mkF m 8 #[.val (.int (2 : Int32))] [])
  refine go (T' := s₁) (f' := (mkF m 9 #[.val (.int (2 : Int32))] [(.int (2 : Int32))])) (by intro t k; exact XS.iloadN X0.here hx rfl (hb hby d1_8) rfl k) ?_
  show Run _ _ _ _ _ _ _ s₁ (mkF m 9 #[.val (.int (2 : Int32))] [(.int (2 : Int32))])
  refine go (T' := s₁) (f' := (mkF m 10 #[.val (.int (2 : Int32))] [(.int (1 : Int32)), (.int (2 : Int32))])) (by intro t k; exact XS.iconst X0.here hx rfl (hb hby d1_9) k) ?_
  show Run _ _ _ _ _ _ _ s₁ (mkF m 10 #[.val (.int (2 : Int32))] [(.int (1 : Int32)), (.int (2 : Int32))])
  refine go (T' := s₁) (f' := (mkF m 17 #[.val (.int (2 : Int32))] [])) (by intro t k; exact XS.icmpYes X0.here hx rfl (pc0 := 10) (pc' := 17) rfl (hb hby d1_10) rfl (feq (by decide : ¬ ((2 : Int32) = (1 : Int32)))).2 (by decide) (by decide) k) ?_
  show Run _ _ _ _ _ _ _ s₁ (mkF m 17 #[.val (.int (2 : Int32))] [])
  refine go (T' := s₁) (f' := (mkF m 18 #[.val (.int (2 : Int32))] [(.int (2 : Int32))])) (by intro t k; exact XS.iloadN X0.here hx rfl (hb hby d1_17) rfl k) ?_
  show Run _ _ _ _ _ _ _ s₁ (mkF m 18 #[.val (.int (2 : Int32))] [(.int (2 : Int32))])
  refine go (T' := s₁) (f' := (mkF m 19 #[.val (.int (2 : Int32))] [(.int (2 : Int32)), (.int (2 : Int32))])) (by intro t k; exact XS.iconst X0.here hx rfl (hb hby d1_18) k) ?_
  show Run _ _ _ _ _ _ _ s₁ (mkF m 19 #[.val (.int (2 : Int32))] [(.int (2 : Int32)), (.int (2 : Int32))])
  refine go (T' := s₁) (f' := (mkF m 22 #[.val (.int (2 : Int32))] [])) (by intro t k; exact XS.icmpNo X0.here hx rfl (hb hby d1_19) rfl (teq (rfl : (2 : Int32) = (2 : Int32))).2 k) ?_
  show Run _ _ _ _ _ _ _ s₁ (mkF m 22 #[.val (.int (2 : Int32))] [])
  obtain ⟨T1, X1, e1, st1⟩ := getS2 X0 hx hZ hown (host := "") (Or.inl (hw _ (List.mem_of_getElem? (i := 60) rfl))) Via.refl e0 (S_2.ext O0.2) (g := (mkF m 22 #[.val (.int (2 : Int32))] [])) rfl (hb hby d1_22)
  refine go st1 ?_
  show Run _ _ _ _ _ _ _ T1 (mkF m 25 #[.val (.int (2 : Int32))] [(.ref c2)])
  refine retW X1 hx (t := (.object "com/example/petrel/petrel/model/Syntax$Operator")) Bd.returns rfl (Or.inr (Or.inr (Or.inr (Or.inr ⟨rfl, rfl, rfl⟩)))) (hb hby d1_25) hlk (by decide) (by decide) ?_
  show Q1k2 Z c2 h0 n0 _ T1.heap _
  rw [e1]
  have hv : (some (.ref c2) : Option Value) = some (.ref c2) := rfl
  exact ⟨hv, N0, rfl⟩
theorem d1_26 : decode method_3_code 26 = .ok (.iload_n 0, 1) := by decide +kernel
theorem d1_27 : decode method_3_code 27 = .ok (.iconst 3, 1) := by decide +kernel
theorem d1_28 : decode method_3_code 28 = .ok (.if_icmp .ne 7, 3) := by decide +kernel
theorem d1_31 : decode method_3_code 31 = .ok (.getstatic 44, 3) := by decide +kernel
theorem d1_34 : decode method_3_code 34 = .ok (.areturn, 1) := by decide +kernel
theorem ef_1k3 (m : MethodId)  : entryFrame m #[(.int (3 : Int32))] 1 = mkF m 0 #[.val (.int (3 : Int32))] [] := by first | (simp [entryFrame, mkF, argsToLocals, Value.category]; done) | rfl
def Q1k3 (Z : State) (c3 : Addr) (h0 : Heap) (n0 : Nat) (v : Option Value) (h : Heap) (L : List Loc) : Prop := v = some (.ref c3) ∧ Fr n0 L ∧ h = h0
set_option maxRecDepth 65536 in
set_option maxHeartbeats 40000000 in
theorem rm1k3 (l : Launch) (Z : State) (aw : Array Value) (hw : ∀ d ∈ tables_1, d.before aw Z = true) (ws : List Jvm.Cond) (c3 : Addr) (h0 : Heap) (n0 : Nat) (Z0 : n0 ≤ h0.size) (O0 : Old Z n0 h0) (S_3 : Sta Z Z.heap "com/example/petrel/petrel/model/Syntax$Operator" "R" "Lcom/example/petrel/petrel/model/Syntax$Operator;" (.ref c3)) :
    MetFree l (⟨"com/example/petrel/petrel/model/OperatorAsksForRewardPinLaw", "operatorAt", "(I)Lcom/example/petrel/petrel/model/Syntax$Operator;"⟩ : MethodName) (head1 (Jvm.Cond.code (⟨"com/example/petrel/petrel/model/OperatorAsksForRewardPinLaw", "operatorAt", "(I)Lcom/example/petrel/petrel/model/Syntax$Operator;"⟩ : MethodName) method_3_code 1 (some (.object "com/example/petrel/petrel/model/Syntax$Operator")) :: ws) ({ frames := 0, cells := 0, slots := 0, locals := 0 } : Room)) (fun a U => a = #[(.int (3 : Int32))] ∧ Z.Warmed39 U.vm ∧ U.heap = h0) (fun _ _ _ _ _ => True) (fun _ U o U' => ∃ v L, o = .returned v ∧ Q1k3 Z c3 h0 n0 v U'.heap L ∧ FrameEnd U o U' L ({ frames := 0, cells := 0, slots := 0, locals := 0 } : Room).cells ({ frames := 0, cells := 0, slots := 0, locals := 0 } : Room).slots) := by
  refine MetFree.of_bodySF (plainFor_of_name pn_1) hisR ?_
  intro p e s m args below meth c s₁ Bd hml0 hP hK
  obtain ⟨rfl, hZ, hh⟩ := hP
  have hx := Bd.exec
  have hby := Bd.bytes
  have hml : c.maxLocals = 1 := hml0
  have hown : s.vm.findClass "com/example/petrel/petrel/model/OperatorAsksForRewardPinLaw" = some m.cls := findClass_of_methodNamed Bd.named
  have hnm := (name_of_methodNamed Bd.named Bd.method).1
  have hlk : meth.locks = false := BodyLoose.notSynchronized Bd
  have X0 : Stand p l e ({ frames := 0, cells := 0, slots := 0, locals := 0 } : Room) s m #[(.int (3 : Int32))] below meth c s₁ [] 0 0 := Stand.of_body Bd
  have e0 : s₁.heap = h0 := by rw [← hh, Bd.state]; rfl
  have N0 := Fr.nil n0
  show Run p e s below (Q1k3 Z c3 h0 n0) ({ frames := 0, cells := 0, slots := 0, locals := 0 } : Room).cells ({ frames := 0, cells := 0, slots := 0, locals := 0 } : Room).slots s₁ (entryFrame m #[(.int (3 : Int32))] 1)
  rw [ef_1k3]
  show Run _ _ _ _ _ _ _ s₁ (mkF m 0 #[.val (.int (3 : Int32))] [])
  refine go (T' := s₁) (f' := (mkF m 1 #[.val (.int (3 : Int32))] [(.int (3 : Int32))])) (by intro t k; exact XS.iloadN X0.here hx rfl (hb hby d1_0) rfl k) ?_
  show Run _ _ _ _ _ _ _ s₁ (mkF m 1 #[.val (.int (3 : Int32))] [(.int (3 : Int32))])
  refine go (T' := s₁) (f' := (mkF m 8 #[.val (.int (3 : Int32))] [])) (by intro t k; exact XS.ifYes X0.here hx rfl (pc0 := 1) (pc' := 8) rfl (hb hby d1_1) rfl ((if0 _ _).trans (feq (by decide : ¬ ((3 : Int32) = (0 : Int32)))).2) (by decide) (by decide) k) ?_
  show Run _ _ _ _ _ _ _ s₁ (mkF m 8 #[.val (.int (3 : Int32))] [])
  refine go (T' := s₁) (f' := (mkF m 9 #[.val (.int (3 : Int32))] [(.int (3 : Int32))])) (by intro t k; exact XS.iloadN X0.here hx rfl (hb hby d1_8) rfl k) ?_
  show Run _ _ _ _ _ _ _ s₁ (mkF m 9 #[.val (.int (3 : Int32))] [(.int (3 : Int32))])
  refine go (T' := s₁) (f' := (mkF m 10 #[.val (.int (3 : Int32))] [(.int (1 : Int32)), (.int (3 : Int32))])) (by intro t k; exact XS.iconst X0.here hx rfl (hb hby d1_9) k) ?_
  show Run _ _ _ _ _ _ _ s₁ (mkF m 10 #[.val (.int (3 : Int32))] [(.int (1 : Int32)), (.int (3 : Int32))])
  refine go (T' := s₁) (f' := (mkF m 17 #[.val (.int (3 : Int32))] [])) (by intro t k; exact XS.icmpYes X0.here hx rfl (pc0 := 10) (pc' := 17) rfl (hb hby d1_10) rfl (feq (by decide : ¬ ((3 : Int32) = (1 : Int32)))).2 (by decide) (by decide) k) ?_
  show Run _ _ _ _ _ _ _ s₁ (mkF m 17 #[.val (.int (3 : Int32))] [])
  refine go (T' := s₁) (f' := (mkF m 18 #[.val (.int (3 : Int32))] [(.int (3 : Int32))])) (by intro t k; exact XS.iloadN X0.here hx rfl (hb hby d1_17) rfl k) ?_
  show Run _ _ _ _ _ _ _ s₁ (mkF m 18 #[.val (.int (3 : Int32))] [(.int (3 : Int32))])
  refine go (T' := s₁) (f' := (mkF m 19 #[.val (.int (3 : Int32))] [(.int (2 : Int32)), (.int (3 : Int32))])) (by intro t k; exact XS.iconst X0.here hx rfl (hb hby d1_18) k) ?_
  show Run _ _ _ _ _ _ _ s₁ (mkF m 19 #[.val (.int (3 : Int32))] [(.int (2 : Int32)), (.int (3 : Int32))])
  refine go (T' := s₁) (f' := (mkF m 26 #[.val (.int (3 : Int32))] [])) (by intro t k; exact XS.icmpYes X0.here hx rfl (pc0 := 19) (pc' := 26) rfl (hb hby d1_19) rfl (feq (by decide : ¬ ((3 : Int32) = (2 : Int32)))).2 (by decide) (by decide) k) ?_
  show Run _ _ _ _ _ _ _ s₁ (mkF m 26 #[.val (.int (3 : Int32))] [])
  refine go (T' := s₁) (f' := (mkF m 27 #[.val (.int (3 : Int32))] [(.int (3 : Int32))])) (by intro t k; exact XS.iloadN X0.here hx rfl (hb hby d1_26) rfl k) ?_
  show Run _ _ _ _ _ _ _ s₁ (mkF m 27 #[.val (.int (3 : Int32))] [(.int (3 : Int32))])
  refine go (T' := s₁) (f' := (mkF m 28 #[.val (.int (3 : Int32))] [(.int (3 : Int32)), (.int (3 : Int32))])) (by intro t k; exact XS.iconst X0.here hx rfl (hb hby d1_27) k) ?_
  show Run _ _ _ _ _ _ _ s₁ (mkF m 28 #[.val (.int (3 : Int32))] [(.int (3 : Int32)), (.int (3 : Int32))])
  refine go (T' := s₁) (f' := (mkF m 31 #[.val (.int (3 : Int32))] [])) (by intro t k; exact XS.icmpNo X0.here hx rfl (hb hby d1_28) rfl (teq (rfl : (3 : Int32) = (3 : Int32))).2 k) ?_
  show Run _ _ _ _ _ _ _ s₁ (mkF m 31 #[.val (.int (3 : Int32))] [])
  obtain ⟨T1, X1, e1, st1⟩ := getS2 X0 hx hZ hown (host := "") (Or.inl (hw _ (List.mem_of_getElem? (i := 59) rfl))) Via.refl e0 (S_3.ext O0.2) (g := (mkF m 31 #[.val (.int (3 : Int32))] [])) rfl (hb hby d1_31)
  refine go st1 ?_
  show Run _ _ _ _ _ _ _ T1 (mkF m 34 #[.val (.int (3 : Int32))] [(.ref c3)])
  refine retW X1 hx (t := (.object "com/example/petrel/petrel/model/Syntax$Operator")) Bd.returns rfl (Or.inr (Or.inr (Or.inr (Or.inr ⟨rfl, rfl, rfl⟩)))) (hb hby d1_34) hlk (by decide) (by decide) ?_
  show Q1k3 Z c3 h0 n0 _ T1.heap _
  rw [e1]
  have hv : (some (.ref c3) : Option Value) = some (.ref c3) := rfl
  exact ⟨hv, N0, rfl⟩
theorem d1_35 : decode method_3_code 35 = .ok (.iload_n 0, 1) := by decide +kernel
theorem d1_36 : decode method_3_code 36 = .ok (.iconst 4, 1) := by decide +kernel
theorem d1_37 : decode method_3_code 37 = .ok (.if_icmp .ne 7, 3) := by decide +kernel
theorem d1_40 : decode method_3_code 40 = .ok (.getstatic 47, 3) := by decide +kernel
theorem d1_43 : decode method_3_code 43 = .ok (.areturn, 1) := by decide +kernel
theorem ef_1k4 (m : MethodId)  : entryFrame m #[(.int (4 : Int32))] 1 = mkF m 0 #[.val (.int (4 : Int32))] [] := by first | (simp [entryFrame, mkF, argsToLocals, Value.category]; done) | rfl
def Q1k4 (Z : State) (c4 : Addr) (h0 : Heap) (n0 : Nat) (v : Option Value) (h : Heap) (L : List Loc) : Prop := v = some (.ref c4) ∧ Fr n0 L ∧ h = h0
set_option maxRecDepth 65536 in
set_option maxHeartbeats 40000000 in
theorem rm1k4 (l : Launch) (Z : State) (aw : Array Value) (hw : ∀ d ∈ tables_1, d.before aw Z = true) (ws : List Jvm.Cond) (c4 : Addr) (h0 : Heap) (n0 : Nat) (Z0 : n0 ≤ h0.size) (O0 : Old Z n0 h0) (S_4 : Sta Z Z.heap "com/example/petrel/petrel/model/Syntax$Operator" "RMAX" "Lcom/example/petrel/petrel/model/Syntax$Operator;" (.ref c4)) :
    MetFree l (⟨"com/example/petrel/petrel/model/OperatorAsksForRewardPinLaw", "operatorAt", "(I)Lcom/example/petrel/petrel/model/Syntax$Operator;"⟩ : MethodName) (head1 (Jvm.Cond.code (⟨"com/example/petrel/petrel/model/OperatorAsksForRewardPinLaw", "operatorAt", "(I)Lcom/example/petrel/petrel/model/Syntax$Operator;"⟩ : MethodName) method_3_code 1 (some (.object "com/example/petrel/petrel/model/Syntax$Operator")) :: ws) ({ frames := 0, cells := 0, slots := 0, locals := 0 } : Room)) (fun a U => a = #[(.int (4 : Int32))] ∧ Z.Warmed39 U.vm ∧ U.heap = h0) (fun _ _ _ _ _ => True) (fun _ U o U' => ∃ v L, o = .returned v ∧ Q1k4 Z c4 h0 n0 v U'.heap L ∧ FrameEnd U o U' L ({ frames := 0, cells := 0, slots := 0, locals := 0 } : Room).cells ({ frames := 0, cells := 0, slots := 0, locals := 0 } : Room).slots) := by
  refine MetFree.of_bodySF (plainFor_of_name pn_1) hisR ?_
  intro p e s m args below meth c s₁ Bd hml0 hP hK
  obtain ⟨rfl, hZ, hh⟩ := hP
  have hx := Bd.exec
  have hby := Bd.bytes
  have hml : c.maxLocals = 1 := hml0
  have hown : s.vm.findClass "com/example/petrel/petrel/model/OperatorAsksForRewardPinLaw" = some m.cls := findClass_of_methodNamed Bd.named
  have hnm := (name_of_methodNamed Bd.named Bd.method).1
  have hlk : meth.locks = false := BodyLoose.notSynchronized Bd
  have X0 : Stand p l e ({ frames := 0, cells := 0, slots := 0, locals := 0 } : Room) s m #[(.int (4 : Int32))] below meth c s₁ [] 0 0 := Stand.of_body Bd
  have e0 : s₁.heap = h0 := by rw [← hh, Bd.state]; rfl
  have N0 := Fr.nil n0
  show Run p e s below (Q1k4 Z c4 h0 n0) ({ frames := 0, cells := 0, slots := 0, locals := 0 } : Room).cells ({ frames := 0, cells := 0, slots := 0, locals := 0 } : Room).slots s₁ (entryFrame m #[(.int (4 : Int32))] 1)
  rw [ef_1k4]
  show Run _ _ _ _ _ _ _ s₁ (mkF m 0 #[.val (.int (4 : Int32))] [])
  refine go (T' := s₁) (f' := (mkF m 1 #[.val (.int (4 : Int32))] [(.int (4 : Int32))])) (by intro t k; exact XS.iloadN X0.here hx rfl (hb hby d1_0) rfl k) ?_
  show Run _ _ _ _ _ _ _ s₁ (mkF m 1 #[.val (.int (4 : Int32))] [(.int (4 : Int32))])
  refine go (T' := s₁) (f' := (mkF m 8 #[.val (.int (4 : Int32))] [])) (by intro t k; exact XS.ifYes X0.here hx rfl (pc0 := 1) (pc' := 8) rfl (hb hby d1_1) rfl ((if0 _ _).trans (feq (by decide : ¬ ((4 : Int32) = (0 : Int32)))).2) (by decide) (by decide) k) ?_
  show Run _ _ _ _ _ _ _ s₁ (mkF m 8 #[.val (.int (4 : Int32))] [])
  refine go (T' := s₁) (f' := (mkF m 9 #[.val (.int (4 : Int32))] [(.int (4 : Int32))])) (by intro t k; exact XS.iloadN X0.here hx rfl (hb hby d1_8) rfl k) ?_
  show Run _ _ _ _ _ _ _ s₁ (mkF m 9 #[.val (.int (4 : Int32))] [(.int (4 : Int32))])
  refine go (T' := s₁) (f' := (mkF m 10 #[.val (.int (4 : Int32))] [(.int (1 : Int32)), (.int (4 : Int32))])) (by intro t k; exact XS.iconst X0.here hx rfl (hb hby d1_9) k) ?_
  show Run _ _ _ _ _ _ _ s₁ (mkF m 10 #[.val (.int (4 : Int32))] [(.int (1 : Int32)), (.int (4 : Int32))])
  refine go (T' := s₁) (f' := (mkF m 17 #[.val (.int (4 : Int32))] [])) (by intro t k; exact XS.icmpYes X0.here hx rfl (pc0 := 10) (pc' := 17) rfl (hb hby d1_10) rfl (feq (by decide : ¬ ((4 : Int32) = (1 : Int32)))).2 (by decide) (by decide) k) ?_
  show Run _ _ _ _ _ _ _ s₁ (mkF m 17 #[.val (.int (4 : Int32))] [])
  refine go (T' := s₁) (f' := (mkF m 18 #[.val (.int (4 : Int32))] [(.int (4 : Int32))])) (by intro t k; exact XS.iloadN X0.here hx rfl (hb hby d1_17) rfl k) ?_
  show Run _ _ _ _ _ _ _ s₁ (mkF m 18 #[.val (.int (4 : Int32))] [(.int (4 : Int32))])
  refine go (T' := s₁) (f' := (mkF m 19 #[.val (.int (4 : Int32))] [(.int (2 : Int32)), (.int (4 : Int32))])) (by intro t k; exact XS.iconst X0.here hx rfl (hb hby d1_18) k) ?_
  show Run _ _ _ _ _ _ _ s₁ (mkF m 19 #[.val (.int (4 : Int32))] [(.int (2 : Int32)), (.int (4 : Int32))])
  refine go (T' := s₁) (f' := (mkF m 26 #[.val (.int (4 : Int32))] [])) (by intro t k; exact XS.icmpYes X0.here hx rfl (pc0 := 19) (pc' := 26) rfl (hb hby d1_19) rfl (feq (by decide : ¬ ((4 : Int32) = (2 : Int32)))).2 (by decide) (by decide) k) ?_
  show Run _ _ _ _ _ _ _ s₁ (mkF m 26 #[.val (.int (4 : Int32))] [])
  refine go (T' := s₁) (f' := (mkF m 27 #[.val (.int (4 : Int32))] [(.int (4 : Int32))])) (by intro t k; exact XS.iloadN X0.here hx rfl (hb hby d1_26) rfl k) ?_
  show Run _ _ _ _ _ _ _ s₁ (mkF m 27 #[.val (.int (4 : Int32))] [(.int (4 : Int32))])
  refine go (T' := s₁) (f' := (mkF m 28 #[.val (.int (4 : Int32))] [(.int (3 : Int32)), (.int (4 : Int32))])) (by intro t k; exact XS.iconst X0.here hx rfl (hb hby d1_27) k) ?_
  show Run _ _ _ _ _ _ _ s₁ (mkF m 28 #[.val (.int (4 : Int32))] [(.int (3 : Int32)), (.int (4 : Int32))])
  refine go (T' := s₁) (f' := (mkF m 35 #[.val (.int (4 : Int32))] [])) (by intro t k; exact XS.icmpYes X0.here hx rfl (pc0 := 28) (pc' := 35) rfl (hb hby d1_28) rfl (feq (by decide : ¬ ((4 : Int32) = (3 : Int32)))).2 (by decide) (by decide) k) ?_
  show Run _ _ _ _ _ _ _ s₁ (mkF m 35 #[.val (.int (4 : Int32))] [])
  refine go (T' := s₁) (f' := (mkF m 36 #[.val (.int (4 : Int32))] [(.int (4 : Int32))])) (by intro t k; exact XS.iloadN X0.here hx rfl (hb hby d1_35) rfl k) ?_
  show Run _ _ _ _ _ _ _ s₁ (mkF m 36 #[.val (.int (4 : Int32))] [(.int (4 : Int32))])
  refine go (T' := s₁) (f' := (mkF m 37 #[.val (.int (4 : Int32))] [(.int (4 : Int32)), (.int (4 : Int32))])) (by intro t k; exact XS.iconst X0.here hx rfl (hb hby d1_36) k) ?_
  show Run _ _ _ _ _ _ _ s₁ (mkF m 37 #[.val (.int (4 : Int32))] [(.int (4 : Int32)), (.int (4 : Int32))])
  refine go (T' := s₁) (f' := (mkF m 40 #[.val (.int (4 : Int32))] [])) (by intro t k; exact XS.icmpNo X0.here hx rfl (hb hby d1_37) rfl (teq (rfl : (4 : Int32) = (4 : Int32))).2 k) ?_
  show Run _ _ _ _ _ _ _ s₁ (mkF m 40 #[.val (.int (4 : Int32))] [])
  obtain ⟨T1, X1, e1, st1⟩ := getS2 X0 hx hZ hown (host := "") (Or.inl (hw _ (List.mem_of_getElem? (i := 65) rfl))) Via.refl e0 (S_4.ext O0.2) (g := (mkF m 40 #[.val (.int (4 : Int32))] [])) rfl (hb hby d1_40)
  refine go st1 ?_
  show Run _ _ _ _ _ _ _ T1 (mkF m 43 #[.val (.int (4 : Int32))] [(.ref c4)])
  refine retW X1 hx (t := (.object "com/example/petrel/petrel/model/Syntax$Operator")) Bd.returns rfl (Or.inr (Or.inr (Or.inr (Or.inr ⟨rfl, rfl, rfl⟩)))) (hb hby d1_43) hlk (by decide) (by decide) ?_
  show Q1k4 Z c4 h0 n0 _ T1.heap _
  rw [e1]
  have hv : (some (.ref c4) : Option Value) = some (.ref c4) := rfl
  exact ⟨hv, N0, rfl⟩
theorem d1_44 : decode method_3_code 44 = .ok (.getstatic 50, 3) := by decide +kernel
theorem d1_47 : decode method_3_code 47 = .ok (.areturn, 1) := by decide +kernel
theorem ef_1k5 (m : MethodId)  : entryFrame m #[(.int (5 : Int32))] 1 = mkF m 0 #[.val (.int (5 : Int32))] [] := by first | (simp [entryFrame, mkF, argsToLocals, Value.category]; done) | rfl
def Q1k5 (Z : State) (c5 : Addr) (h0 : Heap) (n0 : Nat) (v : Option Value) (h : Heap) (L : List Loc) : Prop := v = some (.ref c5) ∧ Fr n0 L ∧ h = h0
set_option maxRecDepth 65536 in
set_option maxHeartbeats 40000000 in
theorem rm1k5 (l : Launch) (Z : State) (aw : Array Value) (hw : ∀ d ∈ tables_1, d.before aw Z = true) (ws : List Jvm.Cond) (c5 : Addr) (h0 : Heap) (n0 : Nat) (Z0 : n0 ≤ h0.size) (O0 : Old Z n0 h0) (S_5 : Sta Z Z.heap "com/example/petrel/petrel/model/Syntax$Operator" "RMIN" "Lcom/example/petrel/petrel/model/Syntax$Operator;" (.ref c5)) :
    MetFree l (⟨"com/example/petrel/petrel/model/OperatorAsksForRewardPinLaw", "operatorAt", "(I)Lcom/example/petrel/petrel/model/Syntax$Operator;"⟩ : MethodName) (head1 (Jvm.Cond.code (⟨"com/example/petrel/petrel/model/OperatorAsksForRewardPinLaw", "operatorAt", "(I)Lcom/example/petrel/petrel/model/Syntax$Operator;"⟩ : MethodName) method_3_code 1 (some (.object "com/example/petrel/petrel/model/Syntax$Operator")) :: ws) ({ frames := 0, cells := 0, slots := 0, locals := 0 } : Room)) (fun a U => a = #[(.int (5 : Int32))] ∧ Z.Warmed39 U.vm ∧ U.heap = h0) (fun _ _ _ _ _ => True) (fun _ U o U' => ∃ v L, o = .returned v ∧ Q1k5 Z c5 h0 n0 v U'.heap L ∧ FrameEnd U o U' L ({ frames := 0, cells := 0, slots := 0, locals := 0 } : Room).cells ({ frames := 0, cells := 0, slots := 0, locals := 0 } : Room).slots) := by
  refine MetFree.of_bodySF (plainFor_of_name pn_1) hisR ?_
  intro p e s m args below meth c s₁ Bd hml0 hP hK
  obtain ⟨rfl, hZ, hh⟩ := hP
  have hx := Bd.exec
  have hby := Bd.bytes
  have hml : c.maxLocals = 1 := hml0
  have hown : s.vm.findClass "com/example/petrel/petrel/model/OperatorAsksForRewardPinLaw" = some m.cls := findClass_of_methodNamed Bd.named
  have hnm := (name_of_methodNamed Bd.named Bd.method).1
  have hlk : meth.locks = false := BodyLoose.notSynchronized Bd
  have X0 : Stand p l e ({ frames := 0, cells := 0, slots := 0, locals := 0 } : Room) s m #[(.int (5 : Int32))] below meth c s₁ [] 0 0 := Stand.of_body Bd
  have e0 : s₁.heap = h0 := by rw [← hh, Bd.state]; rfl
  have N0 := Fr.nil n0
  show Run p e s below (Q1k5 Z c5 h0 n0) ({ frames := 0, cells := 0, slots := 0, locals := 0 } : Room).cells ({ frames := 0, cells := 0, slots := 0, locals := 0 } : Room).slots s₁ (entryFrame m #[(.int (5 : Int32))] 1)
  rw [ef_1k5]
  show Run _ _ _ _ _ _ _ s₁ (mkF m 0 #[.val (.int (5 : Int32))] [])
  refine go (T' := s₁) (f' := (mkF m 1 #[.val (.int (5 : Int32))] [(.int (5 : Int32))])) (by intro t k; exact XS.iloadN X0.here hx rfl (hb hby d1_0) rfl k) ?_
  show Run _ _ _ _ _ _ _ s₁ (mkF m 1 #[.val (.int (5 : Int32))] [(.int (5 : Int32))])
  refine go (T' := s₁) (f' := (mkF m 8 #[.val (.int (5 : Int32))] [])) (by intro t k; exact XS.ifYes X0.here hx rfl (pc0 := 1) (pc' := 8) rfl (hb hby d1_1) rfl ((if0 _ _).trans (feq (by decide : ¬ ((5 : Int32) = (0 : Int32)))).2) (by decide) (by decide) k) ?_
  show Run _ _ _ _ _ _ _ s₁ (mkF m 8 #[.val (.int (5 : Int32))] [])
  refine go (T' := s₁) (f' := (mkF m 9 #[.val (.int (5 : Int32))] [(.int (5 : Int32))])) (by intro t k; exact XS.iloadN X0.here hx rfl (hb hby d1_8) rfl k) ?_
  show Run _ _ _ _ _ _ _ s₁ (mkF m 9 #[.val (.int (5 : Int32))] [(.int (5 : Int32))])
  refine go (T' := s₁) (f' := (mkF m 10 #[.val (.int (5 : Int32))] [(.int (1 : Int32)), (.int (5 : Int32))])) (by intro t k; exact XS.iconst X0.here hx rfl (hb hby d1_9) k) ?_
  show Run _ _ _ _ _ _ _ s₁ (mkF m 10 #[.val (.int (5 : Int32))] [(.int (1 : Int32)), (.int (5 : Int32))])
  refine go (T' := s₁) (f' := (mkF m 17 #[.val (.int (5 : Int32))] [])) (by intro t k; exact XS.icmpYes X0.here hx rfl (pc0 := 10) (pc' := 17) rfl (hb hby d1_10) rfl (feq (by decide : ¬ ((5 : Int32) = (1 : Int32)))).2 (by decide) (by decide) k) ?_
  show Run _ _ _ _ _ _ _ s₁ (mkF m 17 #[.val (.int (5 : Int32))] [])
  refine go (T' := s₁) (f' := (mkF m 18 #[.val (.int (5 : Int32))] [(.int (5 : Int32))])) (by intro t k; exact XS.iloadN X0.here hx rfl (hb hby d1_17) rfl k) ?_
  show Run _ _ _ _ _ _ _ s₁ (mkF m 18 #[.val (.int (5 : Int32))] [(.int (5 : Int32))])
  refine go (T' := s₁) (f' := (mkF m 19 #[.val (.int (5 : Int32))] [(.int (2 : Int32)), (.int (5 : Int32))])) (by intro t k; exact XS.iconst X0.here hx rfl (hb hby d1_18) k) ?_
  show Run _ _ _ _ _ _ _ s₁ (mkF m 19 #[.val (.int (5 : Int32))] [(.int (2 : Int32)), (.int (5 : Int32))])
  refine go (T' := s₁) (f' := (mkF m 26 #[.val (.int (5 : Int32))] [])) (by intro t k; exact XS.icmpYes X0.here hx rfl (pc0 := 19) (pc' := 26) rfl (hb hby d1_19) rfl (feq (by decide : ¬ ((5 : Int32) = (2 : Int32)))).2 (by decide) (by decide) k) ?_
  show Run _ _ _ _ _ _ _ s₁ (mkF m 26 #[.val (.int (5 : Int32))] [])
  refine go (T' := s₁) (f' := (mkF m 27 #[.val (.int (5 : Int32))] [(.int (5 : Int32))])) (by intro t k; exact XS.iloadN X0.here hx rfl (hb hby d1_26) rfl k) ?_
  show Run _ _ _ _ _ _ _ s₁ (mkF m 27 #[.val (.int (5 : Int32))] [(.int (5 : Int32))])
  refine go (T' := s₁) (f' := (mkF m 28 #[.val (.int (5 : Int32))] [(.int (3 : Int32)), (.int (5 : Int32))])) (by intro t k; exact XS.iconst X0.here hx rfl (hb hby d1_27) k) ?_
  show Run _ _ _ _ _ _ _ s₁ (mkF m 28 #[.val (.int (5 : Int32))] [(.int (3 : Int32)), (.int (5 : Int32))])
  refine go (T' := s₁) (f' := (mkF m 35 #[.val (.int (5 : Int32))] [])) (by intro t k; exact XS.icmpYes X0.here hx rfl (pc0 := 28) (pc' := 35) rfl (hb hby d1_28) rfl (feq (by decide : ¬ ((5 : Int32) = (3 : Int32)))).2 (by decide) (by decide) k) ?_
  show Run _ _ _ _ _ _ _ s₁ (mkF m 35 #[.val (.int (5 : Int32))] [])
  refine go (T' := s₁) (f' := (mkF m 36 #[.val (.int (5 : Int32))] [(.int (5 : Int32))])) (by intro t k; exact XS.iloadN X0.here hx rfl (hb hby d1_35) rfl k) ?_
  show Run _ _ _ _ _ _ _ s₁ (mkF m 36 #[.val (.int (5 : Int32))] [(.int (5 : Int32))])
  refine go (T' := s₁) (f' := (mkF m 37 #[.val (.int (5 : Int32))] [(.int (4 : Int32)), (.int (5 : Int32))])) (by intro t k; exact XS.iconst X0.here hx rfl (hb hby d1_36) k) ?_
  show Run _ _ _ _ _ _ _ s₁ (mkF m 37 #[.val (.int (5 : Int32))] [(.int (4 : Int32)), (.int (5 : Int32))])
  refine go (T' := s₁) (f' := (mkF m 44 #[.val (.int (5 : Int32))] [])) (by intro t k; exact XS.icmpYes X0.here hx rfl (pc0 := 37) (pc' := 44) rfl (hb hby d1_37) rfl (feq (by decide : ¬ ((5 : Int32) = (4 : Int32)))).2 (by decide) (by decide) k) ?_
  show Run _ _ _ _ _ _ _ s₁ (mkF m 44 #[.val (.int (5 : Int32))] [])
  obtain ⟨T1, X1, e1, st1⟩ := getS2 X0 hx hZ hown (host := "") (Or.inl (hw _ (List.mem_of_getElem? (i := 64) rfl))) Via.refl e0 (S_5.ext O0.2) (g := (mkF m 44 #[.val (.int (5 : Int32))] [])) rfl (hb hby d1_44)
  refine go st1 ?_
  show Run _ _ _ _ _ _ _ T1 (mkF m 47 #[.val (.int (5 : Int32))] [(.ref c5)])
  refine retW X1 hx (t := (.object "com/example/petrel/petrel/model/Syntax$Operator")) Bd.returns rfl (Or.inr (Or.inr (Or.inr (Or.inr ⟨rfl, rfl, rfl⟩)))) (hb hby d1_47) hlk (by decide) (by decide) ?_
  show Q1k5 Z c5 h0 n0 _ T1.heap _
  rw [e1]
  have hv : (some (.ref c5) : Option Value) = some (.ref c5) := rfl
  exact ⟨hv, N0, rfl⟩
theorem d2_0 : decode prog_123_method_4_code 0 = .ok (.aload_n 0, 1) := by decide +kernel
theorem d2_1 : decode prog_123_method_4_code 1 = .ok (.getstatic 13, 3) := by decide +kernel
theorem d2_4 : decode prog_123_method_4_code 4 = .ok (.if_acmp .eq 17, 3) := by decide +kernel
theorem d2_21 : decode prog_123_method_4_code 21 = .ok (.iconst 1, 1) := by decide +kernel
theorem d2_22 : decode prog_123_method_4_code 22 = .ok (.goto 4, 3) := by decide +kernel
theorem d2_7 : decode prog_123_method_4_code 7 = .ok (.aload_n 0, 1) := by decide +kernel
theorem d2_26 : decode prog_123_method_4_code 26 = .ok (.ireturn, 1) := by decide +kernel
theorem d2_8 : decode prog_123_method_4_code 8 = .ok (.getstatic 16, 3) := by decide +kernel
theorem d2_11 : decode prog_123_method_4_code 11 = .ok (.if_acmp .eq 10, 3) := by decide +kernel
theorem d2_14 : decode prog_123_method_4_code 14 = .ok (.aload_n 0, 1) := by decide +kernel
theorem d2_15 : decode prog_123_method_4_code 15 = .ok (.getstatic 19, 3) := by decide +kernel
theorem d2_18 : decode prog_123_method_4_code 18 = .ok (.if_acmp .ne 7, 3) := by decide +kernel
theorem d2_25 : decode prog_123_method_4_code 25 = .ok (.iconst 0, 1) := by decide +kernel
theorem pn_2 : plainName "com/example/petrel/petrel/model/Syntax$Operator" = true := by first | (simp [plainName, overriddenIn]; done) | decide +kernel
theorem ef_2 (m : MethodId) (x0 : Addr) : entryFrame m #[(.ref x0)] 1 = mkF m 0 #[.val (.ref x0)] [] := by first | (simp [entryFrame, mkF, argsToLocals, Value.category]; done) | rfl
def Q2 (Z : State) (a0 : Addr) (c3 c4 c5 : Addr) (x : Int32) (h0 : Heap) (n0 : Nat) (v : Option Value) (h : Heap) (L : List Loc) : Prop := v = some (.int x) ∧ Fr n0 L ∧ h = h0
set_option maxRecDepth 65536 in
set_option maxHeartbeats 40000000 in
theorem rm2 (l : Launch) (Z : State) (aw : Array Value) (hw : ∀ d ∈ tables_1, d.before aw Z = true) (ws : List Jvm.Cond) (a0 : Addr) (c3 c4 c5 : Addr) (x : Int32) (h0 : Heap) (n0 : Nat) (Z0 : n0 ≤ h0.size) (O0 : Old Z n0 h0) (S_3 : Sta Z Z.heap "com/example/petrel/petrel/model/Syntax$Operator" "R" "Lcom/example/petrel/petrel/model/Syntax$Operator;" (.ref c3)) (S_4 : Sta Z Z.heap "com/example/petrel/petrel/model/Syntax$Operator" "RMAX" "Lcom/example/petrel/petrel/model/Syntax$Operator;" (.ref c4)) (S_5 : Sta Z Z.heap "com/example/petrel/petrel/model/Syntax$Operator" "RMIN" "Lcom/example/petrel/petrel/model/Syntax$Operator;" (.ref c5)) (hxx : (if a0 = c3 then (1 : Int32) else if a0 = c4 then (1 : Int32) else if a0 = c5 then (1 : Int32) else (0 : Int32)) = x) :
    MetFree l (⟨"com/example/petrel/petrel/model/Syntax$Operator", "asksForReward", "()Z"⟩ : MethodName) (head1 (Jvm.Cond.code (⟨"com/example/petrel/petrel/model/Syntax$Operator", "asksForReward", "()Z"⟩ : MethodName) prog_123_method_4_code 1 (some .boolean) :: ws) ({ frames := 0, cells := 0, slots := 0, locals := 0 } : Room)) (fun a U => a = #[(.ref a0)] ∧ Z.Warmed39 U.vm ∧ U.heap = h0) (fun _ _ _ _ _ => True) (fun _ U o U' => ∃ v L, o = .returned v ∧ Q2 Z a0 c3 c4 c5 x h0 n0 v U'.heap L ∧ FrameEnd U o U' L ({ frames := 0, cells := 0, slots := 0, locals := 0 } : Room).cells ({ frames := 0, cells := 0, slots := 0, locals := 0 } : Room).slots) := by
  refine MetFree.of_bodySF (plainFor_of_name pn_2) hisR ?_
  intro p e s m args below meth c s₁ Bd hml0 hP hK
  obtain ⟨rfl, hZ, hh⟩ := hP
  have hx := Bd.exec
  have hby := Bd.bytes
  have hml : c.maxLocals = 1 := hml0
  have hown : s.vm.findClass "com/example/petrel/petrel/model/Syntax$Operator" = some m.cls := findClass_of_methodNamed Bd.named
  have hnm := (name_of_methodNamed Bd.named Bd.method).1
  have hlk : meth.locks = false := BodyLoose.notSynchronized Bd
  have X0 : Stand p l e ({ frames := 0, cells := 0, slots := 0, locals := 0 } : Room) s m #[(.ref a0)] below meth c s₁ [] 0 0 := Stand.of_body Bd
  have e0 : s₁.heap = h0 := by rw [← hh, Bd.state]; rfl
  have N0 := Fr.nil n0
  show Run p e s below (Q2 Z a0 c3 c4 c5 x h0 n0) ({ frames := 0, cells := 0, slots := 0, locals := 0 } : Room).cells ({ frames := 0, cells := 0, slots := 0, locals := 0 } : Room).slots s₁ (entryFrame m #[(.ref a0)] 1)
  rw [ef_2]
  show Run _ _ _ _ _ _ _ s₁ (mkF m 0 #[.val (.ref a0)] [])
  refine go (T' := s₁) (f' := (mkF m 1 #[.val (.ref a0)] [(.ref a0)])) (by intro t k; exact XS.aloadN X0.here hx rfl (hb hby d2_0) rfl rfl k) ?_
  show Run _ _ _ _ _ _ _ s₁ (mkF m 1 #[.val (.ref a0)] [(.ref a0)])
  obtain ⟨T1, X1, e1, st1⟩ := getS2 X0 hx hZ hown (host := "") (Or.inl (hw _ (List.mem_of_getElem? (i := 13) rfl))) Via.refl e0 (S_3.ext O0.2) (g := (mkF m 1 #[.val (.ref a0)] [(.ref a0)])) rfl (hb hby d2_1)
  refine go st1 ?_
  show Run _ _ _ _ _ _ _ T1 (mkF m 4 #[.val (.ref a0)] [(.ref c3), (.ref a0)])
  by_cases hc4 : a0 = c3
  · refine go (T' := T1) (f' := (mkF m 21 #[.val (.ref a0)] [])) (by intro t k; exact Jvm.RoadKit.acmp (g := (mkF m 4 #[.val (.ref a0)] [(.ref c3), (.ref a0)])) X1 hx rfl rfl rfl (pc0 := 4) (pc' := 21) (same := true) rfl (hb hby d2_4) rfl (decide_eq_true (congrArg Value.ref hc4)) (by decide) (by decide) k) ?_
    show Run _ _ _ _ _ _ _ T1 (mkF m 21 #[.val (.ref a0)] [])
    refine go (T' := T1) (f' := (mkF m 22 #[.val (.ref a0)] [(.int (1 : Int32))])) (by intro t k; exact XS.iconst X1.here hx rfl (hb hby d2_21) k) ?_
    show Run _ _ _ _ _ _ _ T1 (mkF m 22 #[.val (.ref a0)] [(.int (1 : Int32))])
    refine go (T' := T1) (f' := (mkF m 26 #[.val (.ref a0)] [(.int (1 : Int32))])) (by intro t k; exact XS.goto X1.here hx rfl (pc0 := 22) (pc' := 26) rfl (hb hby d2_22) (by decide) (by decide) k) ?_
    show Run _ _ _ _ _ _ _ T1 (mkF m 26 #[.val (.ref a0)] [(.int (1 : Int32))])
    refine retZ X1 hx (t := .boolean) Bd.returns (by simp) (hb hby d2_26) hlk (by decide) (by decide) ?_
    show Q2 Z a0 c3 c4 c5 x h0 n0 _ T1.heap _
    rw [e1]
    have hv' : (nar .boolean (1 : Int32)) = x := by
      rw [← hxx]
      (repeat' split) <;> first | rfl | contradiction
    have hv : (some (.int (nar .boolean (1 : Int32))) : Option Value) = some (.int x) := congrArg (fun z => (some (.int z) : Option Value)) hv'
    exact ⟨hv, N0, rfl⟩
  · refine go (T' := T1) (f' := (mkF m 7 #[.val (.ref a0)] [])) (by intro t k; exact Jvm.RoadKit.acmp (g := (mkF m 4 #[.val (.ref a0)] [(.ref c3), (.ref a0)])) X1 hx rfl rfl rfl (pc0 := 4) (pc' := 7) (same := false) rfl (hb hby d2_4) rfl (decide_eq_false fun q => hc4 (Value.ref.inj q)) (by decide) (by decide) k) ?_
    show Run _ _ _ _ _ _ _ T1 (mkF m 7 #[.val (.ref a0)] [])
    refine go (T' := T1) (f' := (mkF m 8 #[.val (.ref a0)] [(.ref a0)])) (by intro t k; exact XS.aloadN X1.here hx rfl (hb hby d2_7) rfl rfl k) ?_
    show Run _ _ _ _ _ _ _ T1 (mkF m 8 #[.val (.ref a0)] [(.ref a0)])
    obtain ⟨T2, X2, e2, st2⟩ := getS2 X1 hx hZ hown (host := "") (Or.inl (hw _ (List.mem_of_getElem? (i := 15) rfl))) Via.refl e1 (S_4.ext O0.2) (g := (mkF m 8 #[.val (.ref a0)] [(.ref a0)])) rfl (hb hby d2_8)
    refine go st2 ?_
    show Run _ _ _ _ _ _ _ T2 (mkF m 11 #[.val (.ref a0)] [(.ref c4), (.ref a0)])
    by_cases hc11 : a0 = c4
    · refine go (T' := T2) (f' := (mkF m 21 #[.val (.ref a0)] [])) (by intro t k; exact Jvm.RoadKit.acmp (g := (mkF m 11 #[.val (.ref a0)] [(.ref c4), (.ref a0)])) X2 hx rfl rfl rfl (pc0 := 11) (pc' := 21) (same := true) rfl (hb hby d2_11) rfl (decide_eq_true (congrArg Value.ref hc11)) (by decide) (by decide) k) ?_
      show Run _ _ _ _ _ _ _ T2 (mkF m 21 #[.val (.ref a0)] [])
      refine go (T' := T2) (f' := (mkF m 22 #[.val (.ref a0)] [(.int (1 : Int32))])) (by intro t k; exact XS.iconst X2.here hx rfl (hb hby d2_21) k) ?_
      show Run _ _ _ _ _ _ _ T2 (mkF m 22 #[.val (.ref a0)] [(.int (1 : Int32))])
      refine go (T' := T2) (f' := (mkF m 26 #[.val (.ref a0)] [(.int (1 : Int32))])) (by intro t k; exact XS.goto X2.here hx rfl (pc0 := 22) (pc' := 26) rfl (hb hby d2_22) (by decide) (by decide) k) ?_
      show Run _ _ _ _ _ _ _ T2 (mkF m 26 #[.val (.ref a0)] [(.int (1 : Int32))])
      refine retZ X2 hx (t := .boolean) Bd.returns (by simp) (hb hby d2_26) hlk (by decide) (by decide) ?_
      show Q2 Z a0 c3 c4 c5 x h0 n0 _ T2.heap _
      rw [e2]
      have hv' : (nar .boolean (1 : Int32)) = x := by
        rw [← hxx]
        (repeat' split) <;> first | rfl | contradiction
      have hv : (some (.int (nar .boolean (1 : Int32))) : Option Value) = some (.int x) := congrArg (fun z => (some (.int z) : Option Value)) hv'
      exact ⟨hv, N0, rfl⟩
    · refine go (T' := T2) (f' := (mkF m 14 #[.val (.ref a0)] [])) (by intro t k; exact Jvm.RoadKit.acmp (g := (mkF m 11 #[.val (.ref a0)] [(.ref c4), (.ref a0)])) X2 hx rfl rfl rfl (pc0 := 11) (pc' := 14) (same := false) rfl (hb hby d2_11) rfl (decide_eq_false fun q => hc11 (Value.ref.inj q)) (by decide) (by decide) k) ?_
      show Run _ _ _ _ _ _ _ T2 (mkF m 14 #[.val (.ref a0)] [])
      refine go (T' := T2) (f' := (mkF m 15 #[.val (.ref a0)] [(.ref a0)])) (by intro t k; exact XS.aloadN X2.here hx rfl (hb hby d2_14) rfl rfl k) ?_
      show Run _ _ _ _ _ _ _ T2 (mkF m 15 #[.val (.ref a0)] [(.ref a0)])
      obtain ⟨T3, X3, e3, st3⟩ := getS2 X2 hx hZ hown (host := "") (Or.inl (hw _ (List.mem_of_getElem? (i := 17) rfl))) Via.refl e2 (S_5.ext O0.2) (g := (mkF m 15 #[.val (.ref a0)] [(.ref a0)])) rfl (hb hby d2_15)
      refine go st3 ?_
      show Run _ _ _ _ _ _ _ T3 (mkF m 18 #[.val (.ref a0)] [(.ref c5), (.ref a0)])
      obtain ⟨z4, hz4⟩ : ∃ z : Int32, z = (if a0 = c5 then (1 : Int32) else (0 : Int32)) := ⟨_, rfl⟩
      have J18 : Run p e s below (Q2 Z a0 c3 c4 c5 x h0 n0) ({ frames := 0, cells := 0, slots := 0, locals := 0 } : Room).cells ({ frames := 0, cells := 0, slots := 0, locals := 0 } : Room).slots T3 (mkF m 26 #[.val (.ref a0)] [(.int z4)]) := by
        show Run _ _ _ _ _ _ _ T3 (mkF m 26 #[.val (.ref a0)] [(.int z4)])
        refine retZ X3 hx (t := .boolean) Bd.returns (by simp) (hb hby d2_26) hlk (by decide) (by decide) ?_
        show Q2 Z a0 c3 c4 c5 x h0 n0 _ T3.heap _
        rw [e3]
        have hv' : (nar .boolean z4) = x := by
          rw [← hxx]
          rw [hz4]
          (repeat' split) <;> first | rfl | contradiction
        have hv : (some (.int (nar .boolean z4)) : Option Value) = some (.int x) := congrArg (fun z => (some (.int z) : Option Value)) hv'
        exact ⟨hv, N0, rfl⟩
      show Run _ _ _ _ _ _ _ T3 (mkF m 18 #[.val (.ref a0)] [(.ref c5), (.ref a0)])
      by_cases hc18 : a0 = c5
      · refine go (T' := T3) (f' := (mkF m 21 #[.val (.ref a0)] [])) (by intro t k; exact Jvm.RoadKit.acmp (g := (mkF m 18 #[.val (.ref a0)] [(.ref c5), (.ref a0)])) X3 hx rfl rfl rfl (pc0 := 18) (pc' := 21) (same := true) rfl (hb hby d2_18) rfl (decide_eq_true (congrArg Value.ref hc18)) (by decide) (by decide) k) ?_
        show Run _ _ _ _ _ _ _ T3 (mkF m 21 #[.val (.ref a0)] [])
        refine go (T' := T3) (f' := (mkF m 22 #[.val (.ref a0)] [(.int (1 : Int32))])) (by intro t k; exact XS.iconst X3.here hx rfl (hb hby d2_21) k) ?_
        show Run _ _ _ _ _ _ _ T3 (mkF m 22 #[.val (.ref a0)] [(.int (1 : Int32))])
        refine go (T' := T3) (f' := (mkF m 26 #[.val (.ref a0)] [(.int (1 : Int32))])) (by intro t k; exact XS.goto X3.here hx rfl (pc0 := 22) (pc' := 26) rfl (hb hby d2_22) (by decide) (by decide) k) ?_
        have ez4 : z4 = (1 : Int32) := (hz4).trans (if_pos hc18)
        subst ez4
        exact J18
      · refine go (T' := T3) (f' := (mkF m 25 #[.val (.ref a0)] [])) (by intro t k; exact Jvm.RoadKit.acmp (g := (mkF m 18 #[.val (.ref a0)] [(.ref c5), (.ref a0)])) X3 hx rfl rfl rfl (pc0 := 18) (pc' := 25) (same := false) rfl (hb hby d2_18) rfl (decide_eq_false fun q => hc18 (Value.ref.inj q)) (by decide) (by decide) k) ?_
        show Run _ _ _ _ _ _ _ T3 (mkF m 25 #[.val (.ref a0)] [])
        refine go (T' := T3) (f' := (mkF m 26 #[.val (.ref a0)] [(.int (0 : Int32))])) (by intro t k; exact XS.iconst X3.here hx rfl (hb hby d2_25) k) ?_
        have ez4 : z4 = (0 : Int32) := (hz4).trans (if_neg hc18)
        subst ez4
        exact J18
theorem own_05 {z x : Int32} (h : z = (x &&& (2147483647 : Int32)) % (6 : Int32)) : z = 0 ∨ z = 1 ∨ z = 2 ∨ z = 3 ∨ z = 4 ∨ z = 5 := by
  have hx : 0 ≤ (x &&& (2147483647 : Int32)).toInt := (c_and x 2147483647 (by decide)).1
  have e : z.toInt = (x &&& (2147483647 : Int32)).toInt % 6 := by
    rw [h, Int32.toInt_mod]; exact Int.tmod_eq_emod_of_nonneg hx
  have : z.toInt = 0 ∨ z.toInt = 1 ∨ z.toInt = 2 ∨ z.toInt = 3 ∨ z.toInt = 4 ∨ z.toInt = 5 := by omega
  have b : ∀ k : Int, z.toInt = k → z = Int32.ofInt k := fun k q => by rw [← q, Int32.ofInt_toInt]
  rcases this with q | q | q | q | q | q
  · exact Or.inl (b _ q)
  · exact Or.inr (Or.inl (b _ q))
  · exact Or.inr (Or.inr (Or.inl (b _ q)))
  · exact Or.inr (Or.inr (Or.inr (Or.inl (b _ q))))
  · exact Or.inr (Or.inr (Or.inr (Or.inr (Or.inl (b _ q)))))
  · exact Or.inr (Or.inr (Or.inr (Or.inr (Or.inr (b _ q)))))
theorem pd_28I29Lcom2fexample2fpetrel2fpetrel2fmodel2fSyntax24Operator3b : parseMethodDescriptor "(I)Lcom/example/petrel/petrel/model/Syntax$Operator;" = some ⟨[.int], some (.object "com/example/petrel/petrel/model/Syntax$Operator")⟩ := by decide +kernel
theorem pd_2829I : parseMethodDescriptor "()I" = some ⟨[], some .int⟩ := by decide +kernel
theorem pd_28I29C : parseMethodDescriptor "(I)C" = some ⟨[.int], some .char⟩ := by decide +kernel
theorem ef_0 (m : MethodId) (x0 : Int32) : entryFrame m #[(.int x0)] maxLocals = mkF m 0 #[.val (.int x0), .unset, .unset, .unset, .unset, .unset] [] := by first | (simp [entryFrame, mkF, argsToLocals, Value.category, maxLocals]; done) | rfl
def Q0 (Z : State) (p0 : Int32) (cs : Int32) (wf : Value) (c0 w0 v0 c1 w1 v1 c2 w2 v2 c3 w3 v3 c4 w4 v4 c5 w5 v5 : Addr) (h0 : Heap) (n0 : Nat) (v : Option Value) (h : Heap) (L : List Loc) : Prop := v = some (.int (1 : Int32)) ∧ Fr n0 L
set_option maxRecDepth 65536 in
set_option maxHeartbeats 40000000 in
theorem rm0 (l : Launch) (Z : State) (aw : Array Value) (hw : ∀ d ∈ tables_1, d.before aw Z = true) (ws : List Jvm.Cond) (p0 : Int32) (cs : Int32) (wf : Value) (c0 w0 v0 c1 w1 v1 c2 w2 v2 c3 w3 v3 c4 w4 v4 c5 w5 v5 : Addr) (h0 : Heap) (n0 : Nat) (Z0 : n0 ≤ h0.size) (O0 : Old Z n0 h0) (S_cs : Sta Z Z.heap "java/lang/String" "COMPACT_STRINGS" "Z" (.int cs)) (hcs : ¬ (cs = (0 : Int32))) (S_sf : Sta Z Z.heap "jdk/internal/util/Preconditions" "SIOOBE_FORMATTER" "Ljava/util/function/BiFunction;" wf) (hwf : wf.isRef = true) (S_0 : Sta Z Z.heap "com/example/petrel/petrel/model/Syntax$Operator" "P" "Lcom/example/petrel/petrel/model/Syntax$Operator;" (.ref c0)) (E_0 : Exa Z Z.heap c0 "com/example/petrel/petrel/model/Syntax$Operator") (W_0 : Fld Z Z.heap c0 "com/example/petrel/petrel/model/Syntax$Operator" "word" "Ljava/lang/String;" (.ref w0)) (EW_0 : Exa Z Z.heap w0 "java/lang/String") (FV_0 : Fld Z Z.heap w0 "java/lang/String" "value" "[B" (.ref v0)) (FC_0 : Fld Z Z.heap w0 "java/lang/String" "coder" "B" (.int (0 : Int32))) (A_0 : Ary Z Z.heap v0 .byte [(.int (80 : Int32))]) (S_1 : Sta Z Z.heap "com/example/petrel/petrel/model/Syntax$Operator" "PMAX" "Lcom/example/petrel/petrel/model/Syntax$Operator;" (.ref c1)) (E_1 : Exa Z Z.heap c1 "com/example/petrel/petrel/model/Syntax$Operator") (W_1 : Fld Z Z.heap c1 "com/example/petrel/petrel/model/Syntax$Operator" "word" "Ljava/lang/String;" (.ref w1)) (EW_1 : Exa Z Z.heap w1 "java/lang/String") (FV_1 : Fld Z Z.heap w1 "java/lang/String" "value" "[B" (.ref v1)) (FC_1 : Fld Z Z.heap w1 "java/lang/String" "coder" "B" (.int (0 : Int32))) (A_1 : Ary Z Z.heap v1 .byte [(.int (80 : Int32)), (.int (109 : Int32)), (.int (97 : Int32)), (.int (120 : Int32))]) (S_2 : Sta Z Z.heap "com/example/petrel/petrel/model/Syntax$Operator" "PMIN" "Lcom/example/petrel/petrel/model/Syntax$Operator;" (.ref c2)) (E_2 : Exa Z Z.heap c2 "com/example/petrel/petrel/model/Syntax$Operator") (W_2 : Fld Z Z.heap c2 "com/example/petrel/petrel/model/Syntax$Operator" "word" "Ljava/lang/String;" (.ref w2)) (EW_2 : Exa Z Z.heap w2 "java/lang/String") (FV_2 : Fld Z Z.heap w2 "java/lang/String" "value" "[B" (.ref v2)) (FC_2 : Fld Z Z.heap w2 "java/lang/String" "coder" "B" (.int (0 : Int32))) (A_2 : Ary Z Z.heap v2 .byte [(.int (80 : Int32)), (.int (109 : Int32)), (.int (105 : Int32)), (.int (110 : Int32))]) (S_3 : Sta Z Z.heap "com/example/petrel/petrel/model/Syntax$Operator" "R" "Lcom/example/petrel/petrel/model/Syntax$Operator;" (.ref c3)) (E_3 : Exa Z Z.heap c3 "com/example/petrel/petrel/model/Syntax$Operator") (W_3 : Fld Z Z.heap c3 "com/example/petrel/petrel/model/Syntax$Operator" "word" "Ljava/lang/String;" (.ref w3)) (EW_3 : Exa Z Z.heap w3 "java/lang/String") (FV_3 : Fld Z Z.heap w3 "java/lang/String" "value" "[B" (.ref v3)) (FC_3 : Fld Z Z.heap w3 "java/lang/String" "coder" "B" (.int (0 : Int32))) (A_3 : Ary Z Z.heap v3 .byte [(.int (82 : Int32))]) (S_4 : Sta Z Z.heap "com/example/petrel/petrel/model/Syntax$Operator" "RMAX" "Lcom/example/petrel/petrel/model/Syntax$Operator;" (.ref c4)) (E_4 : Exa Z Z.heap c4 "com/example/petrel/petrel/model/Syntax$Operator") (W_4 : Fld Z Z.heap c4 "com/example/petrel/petrel/model/Syntax$Operator" "word" "Ljava/lang/String;" (.ref w4)) (EW_4 : Exa Z Z.heap w4 "java/lang/String") (FV_4 : Fld Z Z.heap w4 "java/lang/String" "value" "[B" (.ref v4)) (FC_4 : Fld Z Z.heap w4 "java/lang/String" "coder" "B" (.int (0 : Int32))) (A_4 : Ary Z Z.heap v4 .byte [(.int (82 : Int32)), (.int (109 : Int32)), (.int (97 : Int32)), (.int (120 : Int32))]) (S_5 : Sta Z Z.heap "com/example/petrel/petrel/model/Syntax$Operator" "RMIN" "Lcom/example/petrel/petrel/model/Syntax$Operator;" (.ref c5)) (E_5 : Exa Z Z.heap c5 "com/example/petrel/petrel/model/Syntax$Operator") (W_5 : Fld Z Z.heap c5 "com/example/petrel/petrel/model/Syntax$Operator" "word" "Ljava/lang/String;" (.ref w5)) (EW_5 : Exa Z Z.heap w5 "java/lang/String") (FV_5 : Fld Z Z.heap w5 "java/lang/String" "value" "[B" (.ref v5)) (FC_5 : Fld Z Z.heap w5 "java/lang/String" "coder" "B" (.int (0 : Int32))) (A_5 : Ary Z Z.heap v5 .byte [(.int (82 : Int32)), (.int (109 : Int32)), (.int (105 : Int32)), (.int (110 : Int32))]) (d01 : c0 ≠ c1) (d02 : c0 ≠ c2) (d03 : c0 ≠ c3) (d04 : c0 ≠ c4) (d05 : c0 ≠ c5) (d12 : c1 ≠ c2) (d13 : c1 ≠ c3) (d14 : c1 ≠ c4) (d15 : c1 ≠ c5) (d23 : c2 ≠ c3) (d24 : c2 ≠ c4) (d25 : c2 ≠ c5) (d34 : c3 ≠ c4) (d35 : c3 ≠ c5) (d45 : c4 ≠ c5) :
    MetFree l x (head1 (Jvm.Cond.code x code maxLocals ret :: ws) room_1) (fun a U => a = #[(.int p0)] ∧ Z.Warmed39 U.vm ∧ U.heap = h0) (fun _ _ _ _ _ => True) (fun _ U o U' => ∃ v L, o = .returned v ∧ Q0 Z p0 cs wf c0 w0 v0 c1 w1 v1 c2 w2 v2 c3 w3 v3 c4 w4 v4 c5 w5 v5 h0 n0 v U'.heap L ∧ FrameEnd U o U' L room_1.cells room_1.slots) := by
  refine MetFree.of_bodySF (plainFor_of_name pn_1) hisR ?_
  intro p e s m args below meth c s₁ Bd hml0 hP hK
  obtain ⟨rfl, hZ, hh⟩ := hP
  have hx := Bd.exec
  have hby := Bd.bytes
  have hml : c.maxLocals = 6 := hml0
  have hown : s.vm.findClass "com/example/petrel/petrel/model/OperatorAsksForRewardPinLaw" = some m.cls := findClass_of_methodNamed Bd.named
  have hnm := (name_of_methodNamed Bd.named Bd.method).1
  have hlk : meth.locks = false := BodyLoose.notSynchronized Bd
  have X0 : Stand p l e room_1 s m #[(.int p0)] below meth c s₁ [] 0 0 := Stand.of_body Bd
  have e0 : s₁.heap = h0 := by rw [← hh, Bd.state]; rfl
  have N0 := Fr.nil n0
  show Run p e s below (Q0 Z p0 cs wf c0 w0 v0 c1 w1 v1 c2 w2 v2 c3 w3 v3 c4 w4 v4 c5 w5 v5 h0 n0) room_1.cells room_1.slots s₁ (entryFrame m #[(.int p0)] maxLocals)
  rw [ef_0]
  show Run _ _ _ _ _ _ _ s₁ (mkF m 0 #[.val (.int p0), .unset, .unset, .unset, .unset, .unset] [])
  refine go (T' := s₁) (f' := (mkF m 1 #[.val (.int p0), .unset, .unset, .unset, .unset, .unset] [(.int p0)])) (by intro t k; exact XS.iloadN X0.here hx rfl (hb hby at_0) rfl k) ?_
  show Run _ _ _ _ _ _ _ s₁ (mkF m 1 #[.val (.int p0), .unset, .unset, .unset, .unset, .unset] [(.int p0)])
  refine go (T' := s₁) (f' := (mkF m 3 #[.val (.int p0), .unset, .unset, .unset, .unset, .unset] [(.int (2147483647 : Int32)), (.int p0)])) (by intro t k; exact X0.ldcInt hx hown (mvT hZ (hw _ (List.mem_of_getElem? (i := 0) rfl))) (g := (mkF m 1 #[.val (.int p0), .unset, .unset, .unset, .unset, .unset] [(.int p0)])) rfl (hb hby at_1) _ k) ?_
  show Run _ _ _ _ _ _ _ s₁ (mkF m 3 #[.val (.int p0), .unset, .unset, .unset, .unset, .unset] [(.int (2147483647 : Int32)), (.int p0)])
  refine go (T' := s₁) (f' := (mkF m 4 #[.val (.int p0), .unset, .unset, .unset, .unset, .unset] [(.int (p0 &&& (2147483647 : Int32)))])) (by intro t k; exact XS.iand X0.here hx rfl (hb hby at_3) rfl k) ?_
  show Run _ _ _ _ _ _ _ s₁ (mkF m 4 #[.val (.int p0), .unset, .unset, .unset, .unset, .unset] [(.int (p0 &&& (2147483647 : Int32)))])
  refine go (T' := s₁) (f' := (mkF m 6 #[.val (.int p0), .unset, .unset, .unset, .unset, .unset] [(.int (6 : Int32)), (.int (p0 &&& (2147483647 : Int32)))])) (by intro t k; exact XS.bipush X0.here hx rfl (hb hby at_4) k) ?_
  show Run _ _ _ _ _ _ _ s₁ (mkF m 6 #[.val (.int p0), .unset, .unset, .unset, .unset, .unset] [(.int (6 : Int32)), (.int (p0 &&& (2147483647 : Int32)))])
  refine go (T' := s₁) (f' := (mkF m 7 #[.val (.int p0), .unset, .unset, .unset, .unset, .unset] [(.int ((p0 &&& (2147483647 : Int32)) % (6 : Int32)))])) (by intro t k; exact iremM X0 hx rfl (hb hby at_6) rfl (by decide) k) ?_
  obtain ⟨z1, hz1⟩ : ∃ z : Int32, z = ((p0 &&& (2147483647 : Int32)) % (6 : Int32)) := ⟨_, rfl⟩
  rw [← hz1]
  rcases (own_05 hz1 : z1 = (0 : Int32) ∨ z1 = (1 : Int32) ∨ z1 = (2 : Int32) ∨ z1 = (3 : Int32) ∨ z1 = (4 : Int32) ∨ z1 = (5 : Int32)) with ez | ez | ez | ez | ez | ez
  · subst ez
    show Run _ _ _ _ _ _ _ s₁ (mkF m 7 #[.val (.int p0), .unset, .unset, .unset, .unset, .unset] [(.int (0 : Int32))])
    refine go (T' := s₁) (f' := (mkF m 8 #[.val (.int p0), .val (.int (0 : Int32)), .unset, .unset, .unset, .unset] [])) (by intro t k; exact XS.istoreN X0.here hx rfl (hb hby at_7) rfl (l' := #[.val (.int p0), .val (.int (0 : Int32)), .unset, .unset, .unset, .unset]) rfl k) ?_
    show Run _ _ _ _ _ _ _ s₁ (mkF m 8 #[.val (.int p0), .val (.int (0 : Int32)), .unset, .unset, .unset, .unset] [])
    refine go (T' := s₁) (f' := (mkF m 9 #[.val (.int p0), .val (.int (0 : Int32)), .unset, .unset, .unset, .unset] [(.int (0 : Int32))])) (by intro t k; exact XS.iloadN X0.here hx rfl (hb hby at_8) rfl k) ?_
    show Run _ _ _ _ _ _ _ s₁ (mkF m 9 #[.val (.int p0), .val (.int (0 : Int32)), .unset, .unset, .unset, .unset] [(.int (0 : Int32))])
    obtain ⟨_, _, ⟨T2, Lz2, kz2, nz2⟩, -, X2, ⟨Lc2, hQ2, lz2, yz2, zz2⟩, st2⟩ := Jvm.LawKit.callS X0 hx (y := (⟨"com/example/petrel/petrel/model/OperatorAsksForRewardPinLaw", "operatorAt", "(I)Lcom/example/petrel/petrel/model/Syntax$Operator;"⟩ : MethodName)) hown (mvT hZ (hw _ (List.mem_of_getElem? (i := 1) rfl))) (mvT hZ (hw _ (List.mem_of_getElem? (i := 2) rfl))) (mvT hZ (hw _ (List.mem_of_getElem? (i := 3) rfl))) (mvT hZ (hw _ (List.mem_of_getElem? (i := 4) rfl))) (by decide) (backOf (W := 0) (rm1k0 l Z aw hw []  c0 h0 n0 Z0 O0 S_0) hZ (hw _ (List.mem_of_getElem? (i := 4) rfl)) (hw _ (List.mem_of_getElem? (i := 3) rfl)) (by decide) (by decide)) (g := (mkF m 9 #[.val (.int p0), .val (.int (0 : Int32)), .unset, .unset, .unset, .unset] [(.int (0 : Int32))])) rfl (by rw [hml]; rfl) (argsL := [(.int (0 : Int32))]) (rest := []) (lenOf pd_28I29Lcom2fexample2fpetrel2fpetrel2fmodel2fSyntax24Operator3b rfl) rfl (by show 2 * 0 + _ ≤ _; exact Nat.le_of_eq rfl) (hb hby at_9) (fun _ _ => ⟨rfl, e0, (by decide : 0 + 0 ≤ _), (by decide : 0 + 0 ≤ _)⟩)
    dsimp only [Pt.U, Pt.locs, Pt.cells, Pt.slots] at X2 lz2 yz2 zz2 st2 hQ2
    subst lz2 yz2 zz2
    obtain ⟨rfl, N2q, e2⟩ := hQ2
    have N2 := Fr.app N0 N2q
    refine go st2 ?_
    show Run _ _ _ _ _ _ _ T2 (mkF m 12 #[.val (.int p0), .val (.int (0 : Int32)), .unset, .unset, .unset, .unset] [(.ref c0)])
    refine go (T' := T2) (f' := (mkF m 13 #[.val (.int p0), .val (.int (0 : Int32)), .val (.ref c0), .unset, .unset, .unset] [])) (by intro t k; exact XS.astoreN X2.here hx rfl (hb hby at_12) rfl rfl (l' := #[.val (.int p0), .val (.int (0 : Int32)), .val (.ref c0), .unset, .unset, .unset]) rfl k) ?_
    show Run _ _ _ _ _ _ _ T2 (mkF m 13 #[.val (.int p0), .val (.int (0 : Int32)), .val (.ref c0), .unset, .unset, .unset] [])
    refine go (T' := T2) (f' := (mkF m 14 #[.val (.int p0), .val (.int (0 : Int32)), .val (.ref c0), .unset, .unset, .unset] [(.ref c0)])) (by intro t k; exact XS.aloadN X2.here hx rfl (hb hby at_13) rfl rfl k) ?_
    show Run _ _ _ _ _ _ _ T2 (mkF m 14 #[.val (.int p0), .val (.int (0 : Int32)), .val (.ref c0), .unset, .unset, .unset] [(.ref c0)])
    obtain ⟨cq3, kq3, q3a, q3b, q3c⟩ := isOf hZ e2 (Exa.ext O0.2 E_0)
    obtain ⟨_, _, ⟨T3, Lz3, kz3, nz3⟩, -, X3, ⟨Lc3, hQ3, lz3, yz3, zz3⟩, st3⟩ := X2.virtualBack hx (y := (⟨"com/example/petrel/petrel/model/Syntax$Operator", "asksForReward", "()Z"⟩ : MethodName)) (z := (⟨"com/example/petrel/petrel/model/Syntax$Operator", "asksForReward", "()Z"⟩ : MethodName)) hown (mvT hZ (hw _ (List.mem_of_getElem? (i := 8) rfl))) (mvT hZ (hw _ (List.mem_of_getElem? (i := 9) rfl))) (notFace_of_selects (args := #[]) (mvT hZ (hw _ (List.mem_of_getElem? (i := 11) rfl)))) (mvT hZ (hw _ (List.mem_of_getElem? (i := 11) rfl))) (mvT hZ (hw _ (List.mem_of_getElem? (i := 10) rfl))) (by decide) (backOf (W := 0) (rm2 l Z aw hw [] c0 c3 c4 c5 (0 : Int32) h0 n0 Z0 O0 S_3 S_4 S_5 ((if_neg d03).trans ((if_neg d04).trans (if_neg d05)))) hZ (hw _ (List.mem_of_getElem? (i := 12) rfl)) (hw _ (List.mem_of_getElem? (i := 6) rfl)) (by decide) (by decide)) q3a q3c (g := (mkF m 14 #[.val (.int p0), .val (.int (0 : Int32)), .val (.ref c0), .unset, .unset, .unset] [(.ref c0)])) rfl (by rw [hml]; rfl) (Steps.refl _) (argsL := []) (rest := []) (lenOf pd_2829Z rfl) rfl (by show 2 * 0 + _ ≤ _; exact Nat.le_of_eq rfl) (hb hby at_14) (fun _ _ => ⟨rfl, e2, (by decide : 0 + 0 ≤ _), (by decide : 0 + 0 ≤ _)⟩)
    dsimp only [Pt.U, Pt.locs, Pt.cells, Pt.slots] at X3 lz3 yz3 zz3 st3 hQ3
    subst lz3 yz3 zz3
    obtain ⟨rfl, N3q, e3⟩ := hQ3
    have N3 := Fr.app N2 N3q
    refine go (fun _ k => st3.trans k) ?_
    show Run _ _ _ _ _ _ _ T3 (mkF m 17 #[.val (.int p0), .val (.int (0 : Int32)), .val (.ref c0), .unset, .unset, .unset] [(.int (0 : Int32))])
    refine go (T' := T3) (f' := (mkF m 18 #[.val (.int p0), .val (.int (0 : Int32)), .val (.ref c0), .val (.int (0 : Int32)), .unset, .unset] [])) (by intro t k; exact XS.istoreN X3.here hx rfl (hb hby at_17) rfl (l' := #[.val (.int p0), .val (.int (0 : Int32)), .val (.ref c0), .val (.int (0 : Int32)), .unset, .unset]) rfl k) ?_
    show Run _ _ _ _ _ _ _ T3 (mkF m 18 #[.val (.int p0), .val (.int (0 : Int32)), .val (.ref c0), .val (.int (0 : Int32)), .unset, .unset] [])
    refine go (T' := T3) (f' := (mkF m 19 #[.val (.int p0), .val (.int (0 : Int32)), .val (.ref c0), .val (.int (0 : Int32)), .unset, .unset] [(.int (0 : Int32))])) (by intro t k; exact XS.iloadN X3.here hx rfl (hb hby at_18) rfl k) ?_
    show Run _ _ _ _ _ _ _ T3 (mkF m 19 #[.val (.int p0), .val (.int (0 : Int32)), .val (.ref c0), .val (.int (0 : Int32)), .unset, .unset] [(.int (0 : Int32))])
    refine go (T' := T3) (f' := (mkF m 20 #[.val (.int p0), .val (.int (0 : Int32)), .val (.ref c0), .val (.int (0 : Int32)), .unset, .unset] [(.int (3 : Int32)), (.int (0 : Int32))])) (by intro t k; exact XS.iconst X3.here hx rfl (hb hby at_19) k) ?_
    show Run _ _ _ _ _ _ _ T3 (mkF m 20 #[.val (.int p0), .val (.int (0 : Int32)), .val (.ref c0), .val (.int (0 : Int32)), .unset, .unset] [(.int (3 : Int32)), (.int (0 : Int32))])
    refine go (T' := T3) (f' := (mkF m 27 #[.val (.int p0), .val (.int (0 : Int32)), .val (.ref c0), .val (.int (0 : Int32)), .unset, .unset] [])) (by intro t k; exact XS.icmpYes X3.here hx rfl (pc0 := 20) (pc' := 27) rfl (hb hby at_20) rfl (tlt (by decide : (0 : Int32) < (3 : Int32))).1 (by decide) (by decide) k) ?_
    show Run _ _ _ _ _ _ _ T3 (mkF m 27 #[.val (.int p0), .val (.int (0 : Int32)), .val (.ref c0), .val (.int (0 : Int32)), .unset, .unset] [])
    refine go (T' := T3) (f' := (mkF m 28 #[.val (.int p0), .val (.int (0 : Int32)), .val (.ref c0), .val (.int (0 : Int32)), .unset, .unset] [(.int (0 : Int32))])) (by intro t k; exact XS.iconst X3.here hx rfl (hb hby at_27) k) ?_
    show Run _ _ _ _ _ _ _ T3 (mkF m 28 #[.val (.int p0), .val (.int (0 : Int32)), .val (.ref c0), .val (.int (0 : Int32)), .unset, .unset] [(.int (0 : Int32))])
    refine go (T' := T3) (f' := (mkF m 30 #[.val (.int p0), .val (.int (0 : Int32)), .val (.ref c0), .val (.int (0 : Int32)), .val (.int (0 : Int32)), .unset] [])) (by intro t k; exact XS.istore X3.here hx rfl (hb hby at_28) rfl (l' := #[.val (.int p0), .val (.int (0 : Int32)), .val (.ref c0), .val (.int (0 : Int32)), .val (.int (0 : Int32)), .unset]) rfl k) ?_
    show Run _ _ _ _ _ _ _ T3 (mkF m 30 #[.val (.int p0), .val (.int (0 : Int32)), .val (.ref c0), .val (.int (0 : Int32)), .val (.int (0 : Int32)), .unset] [])
    refine go (T' := T3) (f' := (mkF m 31 #[.val (.int p0), .val (.int (0 : Int32)), .val (.ref c0), .val (.int (0 : Int32)), .val (.int (0 : Int32)), .unset] [(.ref c0)])) (by intro t k; exact XS.aloadN X3.here hx rfl (hb hby at_30) rfl rfl k) ?_
    show Run _ _ _ _ _ _ _ T3 (mkF m 31 #[.val (.int p0), .val (.int (0 : Int32)), .val (.ref c0), .val (.int (0 : Int32)), .val (.int (0 : Int32)), .unset] [(.ref c0)])
    obtain ⟨T4, X4, e4, st4⟩ := getF X3 hx hZ hown (host := "") (Or.inl (hw _ (List.mem_of_getElem? (i := 19) rfl))) Via.refl e3 (Fld.ext O0.2 W_0) (g := (mkF m 31 #[.val (.int p0), .val (.int (0 : Int32)), .val (.ref c0), .val (.int (0 : Int32)), .val (.int (0 : Int32)), .unset] [(.ref c0)])) rfl rfl (hb hby at_31)
    refine go st4 ?_
    show Run _ _ _ _ _ _ _ T4 (mkF m 34 #[.val (.int p0), .val (.int (0 : Int32)), .val (.ref c0), .val (.int (0 : Int32)), .val (.int (0 : Int32)), .unset] [(.ref w0)])
    obtain ⟨cq5, kq5, q5a, q5b, q5c⟩ := isOf hZ e4 (Exa.ext O0.2 EW_0)
    obtain ⟨_, _, ⟨T5, Lz5, kz5, nz5⟩, -, X5, ⟨Lc5, hQ5, lz5, yz5, zz5⟩, st5⟩ := X4.virtualBack hx (y := (⟨"java/lang/String", "length", "()I"⟩ : MethodName)) (z := (⟨"java/lang/String", "length", "()I"⟩ : MethodName)) hown (mvT hZ (hw _ (List.mem_of_getElem? (i := 21) rfl))) (mvT hZ (hw _ (List.mem_of_getElem? (i := 22) rfl))) (notFace_of_selects (args := #[]) (mvT hZ (hw _ (List.mem_of_getElem? (i := 24) rfl)))) (mvT hZ (hw _ (List.mem_of_getElem? (i := 24) rfl))) (mvT hZ (hw _ (List.mem_of_getElem? (i := 23) rfl))) (by decide) (backOf (W := 0) (rm3 l Z aw hw [] w0 cs v0 [(.int (80 : Int32))] (1 : Int32) h0 n0 Z0 O0 S_cs hcs (Exa.ext O0.2 EW_0) (Fld.ext O0.2 FC_0) (Fld.ext O0.2 FV_0) (Ary.ext A_0 O0.2) rfl) hZ (hw _ (List.mem_of_getElem? (i := 26) rfl)) (hw _ (List.mem_of_getElem? (i := 25) rfl)) (by decide) (by decide)) q5a q5c (g := (mkF m 34 #[.val (.int p0), .val (.int (0 : Int32)), .val (.ref c0), .val (.int (0 : Int32)), .val (.int (0 : Int32)), .unset] [(.ref w0)])) rfl (by rw [hml]; rfl) (Steps.refl _) (argsL := []) (rest := []) (lenOf pd_2829I rfl) rfl (by show 2 * 0 + _ ≤ _; exact Nat.le_of_eq rfl) (hb hby at_34) (fun _ _ => ⟨rfl, e4, (by decide : 0 + 0 ≤ _), (by decide : 0 + 0 ≤ _)⟩)
    dsimp only [Pt.U, Pt.locs, Pt.cells, Pt.slots] at X5 lz5 yz5 zz5 st5 hQ5
    subst lz5 yz5 zz5
    obtain ⟨rfl, N5q, e5⟩ := hQ5
    have N5 := Fr.app N3 N5q
    refine go (fun _ k => st5.trans k) ?_
    show Run _ _ _ _ _ _ _ T5 (mkF m 37 #[.val (.int p0), .val (.int (0 : Int32)), .val (.ref c0), .val (.int (0 : Int32)), .val (.int (0 : Int32)), .unset] [(.int (1 : Int32))])
    refine go (T' := T5) (f' := (mkF m 40 #[.val (.int p0), .val (.int (0 : Int32)), .val (.ref c0), .val (.int (0 : Int32)), .val (.int (0 : Int32)), .unset] [])) (by intro t k; exact XS.ifNo X5.here hx rfl (hb hby at_37) rfl ((if0 _ _).trans (tlt (by decide : (0 : Int32) < (1 : Int32))).2.2.2) k) ?_
    show Run _ _ _ _ _ _ _ T5 (mkF m 40 #[.val (.int p0), .val (.int (0 : Int32)), .val (.ref c0), .val (.int (0 : Int32)), .val (.int (0 : Int32)), .unset] [])
    refine go (T' := T5) (f' := (mkF m 41 #[.val (.int p0), .val (.int (0 : Int32)), .val (.ref c0), .val (.int (0 : Int32)), .val (.int (0 : Int32)), .unset] [(.ref c0)])) (by intro t k; exact XS.aloadN X5.here hx rfl (hb hby at_40) rfl rfl k) ?_
    show Run _ _ _ _ _ _ _ T5 (mkF m 41 #[.val (.int p0), .val (.int (0 : Int32)), .val (.ref c0), .val (.int (0 : Int32)), .val (.int (0 : Int32)), .unset] [(.ref c0)])
    obtain ⟨T6, X6, e6, st6⟩ := getF X5 hx hZ hown (host := "") (Or.inl (hw _ (List.mem_of_getElem? (i := 19) rfl))) Via.refl e5 (Fld.ext O0.2 W_0) (g := (mkF m 41 #[.val (.int p0), .val (.int (0 : Int32)), .val (.ref c0), .val (.int (0 : Int32)), .val (.int (0 : Int32)), .unset] [(.ref c0)])) rfl rfl (hb hby at_41)
    refine go st6 ?_
    show Run _ _ _ _ _ _ _ T6 (mkF m 44 #[.val (.int p0), .val (.int (0 : Int32)), .val (.ref c0), .val (.int (0 : Int32)), .val (.int (0 : Int32)), .unset] [(.ref w0)])
    refine go (T' := T6) (f' := (mkF m 45 #[.val (.int p0), .val (.int (0 : Int32)), .val (.ref c0), .val (.int (0 : Int32)), .val (.int (0 : Int32)), .unset] [(.int (0 : Int32)), (.ref w0)])) (by intro t k; exact XS.iconst X6.here hx rfl (hb hby at_44) k) ?_
    show Run _ _ _ _ _ _ _ T6 (mkF m 45 #[.val (.int p0), .val (.int (0 : Int32)), .val (.ref c0), .val (.int (0 : Int32)), .val (.int (0 : Int32)), .unset] [(.int (0 : Int32)), (.ref w0)])
    obtain ⟨cq7, kq7, q7a, q7b, q7c⟩ := isOf hZ e6 (Exa.ext O0.2 EW_0)
    obtain ⟨_, _, ⟨T7, Lz7, kz7, nz7⟩, -, X7, ⟨Lc7, hQ7, lz7, yz7, zz7⟩, st7⟩ := X6.virtualBack hx (y := (⟨"java/lang/String", "charAt", "(I)C"⟩ : MethodName)) (z := (⟨"java/lang/String", "charAt", "(I)C"⟩ : MethodName)) hown (mvT hZ (hw _ (List.mem_of_getElem? (i := 37) rfl))) (mvT hZ (hw _ (List.mem_of_getElem? (i := 38) rfl))) (notFace_of_selects (args := #[]) (mvT hZ (hw _ (List.mem_of_getElem? (i := 40) rfl)))) (mvT hZ (hw _ (List.mem_of_getElem? (i := 40) rfl))) (mvT hZ (hw _ (List.mem_of_getElem? (i := 39) rfl))) (by decide) (backOf (W := 0) (rm5 l Z aw hw [] w0 (0 : Int32) cs wf v0 [(.int (80 : Int32))] (1 : Int32) (80 : Int32) (80 : Int32) h0 n0 Z0 O0 S_cs hcs S_sf hwf (Exa.ext O0.2 EW_0) (Fld.ext O0.2 FC_0) (Fld.ext O0.2 FV_0) (Ary.ext A_0 O0.2) rfl (by decide) (by decide) rfl (by decide)) hZ (hw _ (List.mem_of_getElem? (i := 41) rfl)) (hw _ (List.mem_of_getElem? (i := 25) rfl)) (by decide) (by decide)) q7a q7c (g := (mkF m 45 #[.val (.int p0), .val (.int (0 : Int32)), .val (.ref c0), .val (.int (0 : Int32)), .val (.int (0 : Int32)), .unset] [(.int (0 : Int32)), (.ref w0)])) rfl (by rw [hml]; rfl) (Steps.refl _) (argsL := [(.int (0 : Int32))]) (rest := []) (lenOf pd_28I29C rfl) rfl (by show 2 * 0 + _ ≤ _; exact Nat.le_of_eq rfl) (hb hby at_45) (fun _ _ => ⟨rfl, e6, (by decide : 0 + 0 ≤ _), (by decide : 0 + 0 ≤ _)⟩)
    dsimp only [Pt.U, Pt.locs, Pt.cells, Pt.slots] at X7 lz7 yz7 zz7 st7 hQ7
    subst lz7 yz7 zz7
    obtain ⟨rfl, N7q, e7⟩ := hQ7
    have N7 := Fr.app N5 N7q
    refine go (fun _ k => st7.trans k) ?_
    show Run _ _ _ _ _ _ _ T7 (mkF m 48 #[.val (.int p0), .val (.int (0 : Int32)), .val (.ref c0), .val (.int (0 : Int32)), .val (.int (0 : Int32)), .unset] [(.int (80 : Int32))])
    refine go (T' := T7) (f' := (mkF m 50 #[.val (.int p0), .val (.int (0 : Int32)), .val (.ref c0), .val (.int (0 : Int32)), .val (.int (0 : Int32)), .unset] [(.int (82 : Int32)), (.int (80 : Int32))])) (by intro t k; exact XS.bipush X7.here hx rfl (hb hby at_48) k) ?_
    show Run _ _ _ _ _ _ _ T7 (mkF m 50 #[.val (.int p0), .val (.int (0 : Int32)), .val (.ref c0), .val (.int (0 : Int32)), .val (.int (0 : Int32)), .unset] [(.int (82 : Int32)), (.int (80 : Int32))])
    refine go (T' := T7) (f' := (mkF m 57 #[.val (.int p0), .val (.int (0 : Int32)), .val (.ref c0), .val (.int (0 : Int32)), .val (.int (0 : Int32)), .unset] [])) (by intro t k; exact XS.icmpYes X7.here hx rfl (pc0 := 50) (pc' := 57) rfl (hb hby at_50) rfl (feq (by decide : ¬ ((80 : Int32) = (82 : Int32)))).2 (by decide) (by decide) k) ?_
    show Run _ _ _ _ _ _ _ T7 (mkF m 57 #[.val (.int p0), .val (.int (0 : Int32)), .val (.ref c0), .val (.int (0 : Int32)), .val (.int (0 : Int32)), .unset] [])
    refine go (T' := T7) (f' := (mkF m 58 #[.val (.int p0), .val (.int (0 : Int32)), .val (.ref c0), .val (.int (0 : Int32)), .val (.int (0 : Int32)), .unset] [(.int (0 : Int32))])) (by intro t k; exact XS.iconst X7.here hx rfl (hb hby at_57) k) ?_
    show Run _ _ _ _ _ _ _ T7 (mkF m 58 #[.val (.int p0), .val (.int (0 : Int32)), .val (.ref c0), .val (.int (0 : Int32)), .val (.int (0 : Int32)), .unset] [(.int (0 : Int32))])
    refine go (T' := T7) (f' := (mkF m 60 #[.val (.int p0), .val (.int (0 : Int32)), .val (.ref c0), .val (.int (0 : Int32)), .val (.int (0 : Int32)), .val (.int (0 : Int32))] [])) (by intro t k; exact XS.istore X7.here hx rfl (hb hby at_58) rfl (l' := #[.val (.int p0), .val (.int (0 : Int32)), .val (.ref c0), .val (.int (0 : Int32)), .val (.int (0 : Int32)), .val (.int (0 : Int32))]) rfl k) ?_
    show Run _ _ _ _ _ _ _ T7 (mkF m 60 #[.val (.int p0), .val (.int (0 : Int32)), .val (.ref c0), .val (.int (0 : Int32)), .val (.int (0 : Int32)), .val (.int (0 : Int32))] [])
    refine go (T' := T7) (f' := (mkF m 61 #[.val (.int p0), .val (.int (0 : Int32)), .val (.ref c0), .val (.int (0 : Int32)), .val (.int (0 : Int32)), .val (.int (0 : Int32))] [(.int (0 : Int32))])) (by intro t k; exact XS.iloadN X7.here hx rfl (hb hby at_60) rfl k) ?_
    show Run _ _ _ _ _ _ _ T7 (mkF m 61 #[.val (.int p0), .val (.int (0 : Int32)), .val (.ref c0), .val (.int (0 : Int32)), .val (.int (0 : Int32)), .val (.int (0 : Int32))] [(.int (0 : Int32))])
    refine go (T' := T7) (f' := (mkF m 63 #[.val (.int p0), .val (.int (0 : Int32)), .val (.ref c0), .val (.int (0 : Int32)), .val (.int (0 : Int32)), .val (.int (0 : Int32))] [(.int (0 : Int32)), (.int (0 : Int32))])) (by intro t k; exact XS.iload X7.here hx rfl (hb hby at_61) rfl k) ?_
    show Run _ _ _ _ _ _ _ T7 (mkF m 63 #[.val (.int p0), .val (.int (0 : Int32)), .val (.ref c0), .val (.int (0 : Int32)), .val (.int (0 : Int32)), .val (.int (0 : Int32))] [(.int (0 : Int32)), (.int (0 : Int32))])
    refine go (T' := T7) (f' := (mkF m 66 #[.val (.int p0), .val (.int (0 : Int32)), .val (.ref c0), .val (.int (0 : Int32)), .val (.int (0 : Int32)), .val (.int (0 : Int32))] [])) (by intro t k; exact XS.icmpNo X7.here hx rfl (hb hby at_63) rfl (teq (rfl : (0 : Int32) = (0 : Int32))).2 k) ?_
    show Run _ _ _ _ _ _ _ T7 (mkF m 66 #[.val (.int p0), .val (.int (0 : Int32)), .val (.ref c0), .val (.int (0 : Int32)), .val (.int (0 : Int32)), .val (.int (0 : Int32))] [])
    refine go (T' := T7) (f' := (mkF m 67 #[.val (.int p0), .val (.int (0 : Int32)), .val (.ref c0), .val (.int (0 : Int32)), .val (.int (0 : Int32)), .val (.int (0 : Int32))] [(.int (0 : Int32))])) (by intro t k; exact XS.iloadN X7.here hx rfl (hb hby at_66) rfl k) ?_
    show Run _ _ _ _ _ _ _ T7 (mkF m 67 #[.val (.int p0), .val (.int (0 : Int32)), .val (.ref c0), .val (.int (0 : Int32)), .val (.int (0 : Int32)), .val (.int (0 : Int32))] [(.int (0 : Int32))])
    refine go (T' := T7) (f' := (mkF m 69 #[.val (.int p0), .val (.int (0 : Int32)), .val (.ref c0), .val (.int (0 : Int32)), .val (.int (0 : Int32)), .val (.int (0 : Int32))] [(.int (0 : Int32)), (.int (0 : Int32))])) (by intro t k; exact XS.iload X7.here hx rfl (hb hby at_67) rfl k) ?_
    show Run _ _ _ _ _ _ _ T7 (mkF m 69 #[.val (.int p0), .val (.int (0 : Int32)), .val (.ref c0), .val (.int (0 : Int32)), .val (.int (0 : Int32)), .val (.int (0 : Int32))] [(.int (0 : Int32)), (.int (0 : Int32))])
    refine go (T' := T7) (f' := (mkF m 72 #[.val (.int p0), .val (.int (0 : Int32)), .val (.ref c0), .val (.int (0 : Int32)), .val (.int (0 : Int32)), .val (.int (0 : Int32))] [])) (by intro t k; exact XS.icmpNo X7.here hx rfl (hb hby at_69) rfl (teq (rfl : (0 : Int32) = (0 : Int32))).2 k) ?_
    show Run _ _ _ _ _ _ _ T7 (mkF m 72 #[.val (.int p0), .val (.int (0 : Int32)), .val (.ref c0), .val (.int (0 : Int32)), .val (.int (0 : Int32)), .val (.int (0 : Int32))] [])
    refine go (T' := T7) (f' := (mkF m 73 #[.val (.int p0), .val (.int (0 : Int32)), .val (.ref c0), .val (.int (0 : Int32)), .val (.int (0 : Int32)), .val (.int (0 : Int32))] [(.int (1 : Int32))])) (by intro t k; exact XS.iconst X7.here hx rfl (hb hby at_72) k) ?_
    show Run _ _ _ _ _ _ _ T7 (mkF m 73 #[.val (.int p0), .val (.int (0 : Int32)), .val (.ref c0), .val (.int (0 : Int32)), .val (.int (0 : Int32)), .val (.int (0 : Int32))] [(.int (1 : Int32))])
    refine go (T' := T7) (f' := (mkF m 77 #[.val (.int p0), .val (.int (0 : Int32)), .val (.ref c0), .val (.int (0 : Int32)), .val (.int (0 : Int32)), .val (.int (0 : Int32))] [(.int (1 : Int32))])) (by intro t k; exact XS.goto X7.here hx rfl (pc0 := 73) (pc' := 77) rfl (hb hby at_73) (by decide) (by decide) k) ?_
    show Run _ _ _ _ _ _ _ T7 (mkF m 77 #[.val (.int p0), .val (.int (0 : Int32)), .val (.ref c0), .val (.int (0 : Int32)), .val (.int (0 : Int32)), .val (.int (0 : Int32))] [(.int (1 : Int32))])
    refine retZ X7 hx (t := .boolean) Bd.returns (by simp) (hb hby at_77) hlk (by decide) (by decide) ?_
    show Q0 Z p0 cs wf c0 w0 v0 c1 w1 v1 c2 w2 v2 c3 w3 v3 c4 w4 v4 c5 w5 v5 h0 n0 _ T7.heap _
    rw [e7]
    have hv' : (nar .boolean (1 : Int32)) = (1 : Int32) := by
      rfl
    have hv : (some (.int (nar .boolean (1 : Int32))) : Option Value) = some (.int (1 : Int32)) := congrArg (fun z => (some (.int z) : Option Value)) hv'
    exact ⟨hv, N7⟩
  · subst ez
    show Run _ _ _ _ _ _ _ s₁ (mkF m 7 #[.val (.int p0), .unset, .unset, .unset, .unset, .unset] [(.int (1 : Int32))])
    refine go (T' := s₁) (f' := (mkF m 8 #[.val (.int p0), .val (.int (1 : Int32)), .unset, .unset, .unset, .unset] [])) (by intro t k; exact XS.istoreN X0.here hx rfl (hb hby at_7) rfl (l' := #[.val (.int p0), .val (.int (1 : Int32)), .unset, .unset, .unset, .unset]) rfl k) ?_
    show Run _ _ _ _ _ _ _ s₁ (mkF m 8 #[.val (.int p0), .val (.int (1 : Int32)), .unset, .unset, .unset, .unset] [])
    refine go (T' := s₁) (f' := (mkF m 9 #[.val (.int p0), .val (.int (1 : Int32)), .unset, .unset, .unset, .unset] [(.int (1 : Int32))])) (by intro t k; exact XS.iloadN X0.here hx rfl (hb hby at_8) rfl k) ?_
    show Run _ _ _ _ _ _ _ s₁ (mkF m 9 #[.val (.int p0), .val (.int (1 : Int32)), .unset, .unset, .unset, .unset] [(.int (1 : Int32))])
    obtain ⟨_, _, ⟨T8, Lz8, kz8, nz8⟩, -, X8, ⟨Lc8, hQ8, lz8, yz8, zz8⟩, st8⟩ := Jvm.LawKit.callS X0 hx (y := (⟨"com/example/petrel/petrel/model/OperatorAsksForRewardPinLaw", "operatorAt", "(I)Lcom/example/petrel/petrel/model/Syntax$Operator;"⟩ : MethodName)) hown (mvT hZ (hw _ (List.mem_of_getElem? (i := 1) rfl))) (mvT hZ (hw _ (List.mem_of_getElem? (i := 2) rfl))) (mvT hZ (hw _ (List.mem_of_getElem? (i := 3) rfl))) (mvT hZ (hw _ (List.mem_of_getElem? (i := 4) rfl))) (by decide) (backOf (W := 0) (rm1k1 l Z aw hw []  c1 h0 n0 Z0 O0 S_1) hZ (hw _ (List.mem_of_getElem? (i := 4) rfl)) (hw _ (List.mem_of_getElem? (i := 3) rfl)) (by decide) (by decide)) (g := (mkF m 9 #[.val (.int p0), .val (.int (1 : Int32)), .unset, .unset, .unset, .unset] [(.int (1 : Int32))])) rfl (by rw [hml]; rfl) (argsL := [(.int (1 : Int32))]) (rest := []) (lenOf pd_28I29Lcom2fexample2fpetrel2fpetrel2fmodel2fSyntax24Operator3b rfl) rfl (by show 2 * 0 + _ ≤ _; exact Nat.le_of_eq rfl) (hb hby at_9) (fun _ _ => ⟨rfl, e0, (by decide : 0 + 0 ≤ _), (by decide : 0 + 0 ≤ _)⟩)
    dsimp only [Pt.U, Pt.locs, Pt.cells, Pt.slots] at X8 lz8 yz8 zz8 st8 hQ8
    subst lz8 yz8 zz8
    obtain ⟨rfl, N8q, e8⟩ := hQ8
    have N8 := Fr.app N0 N8q
    refine go st8 ?_
    show Run _ _ _ _ _ _ _ T8 (mkF m 12 #[.val (.int p0), .val (.int (1 : Int32)), .unset, .unset, .unset, .unset] [(.ref c1)])
    refine go (T' := T8) (f' := (mkF m 13 #[.val (.int p0), .val (.int (1 : Int32)), .val (.ref c1), .unset, .unset, .unset] [])) (by intro t k; exact XS.astoreN X8.here hx rfl (hb hby at_12) rfl rfl (l' := #[.val (.int p0), .val (.int (1 : Int32)), .val (.ref c1), .unset, .unset, .unset]) rfl k) ?_
    show Run _ _ _ _ _ _ _ T8 (mkF m 13 #[.val (.int p0), .val (.int (1 : Int32)), .val (.ref c1), .unset, .unset, .unset] [])
    refine go (T' := T8) (f' := (mkF m 14 #[.val (.int p0), .val (.int (1 : Int32)), .val (.ref c1), .unset, .unset, .unset] [(.ref c1)])) (by intro t k; exact XS.aloadN X8.here hx rfl (hb hby at_13) rfl rfl k) ?_
    show Run _ _ _ _ _ _ _ T8 (mkF m 14 #[.val (.int p0), .val (.int (1 : Int32)), .val (.ref c1), .unset, .unset, .unset] [(.ref c1)])
    obtain ⟨cq9, kq9, q9a, q9b, q9c⟩ := isOf hZ e8 (Exa.ext O0.2 E_1)
    obtain ⟨_, _, ⟨T9, Lz9, kz9, nz9⟩, -, X9, ⟨Lc9, hQ9, lz9, yz9, zz9⟩, st9⟩ := X8.virtualBack hx (y := (⟨"com/example/petrel/petrel/model/Syntax$Operator", "asksForReward", "()Z"⟩ : MethodName)) (z := (⟨"com/example/petrel/petrel/model/Syntax$Operator", "asksForReward", "()Z"⟩ : MethodName)) hown (mvT hZ (hw _ (List.mem_of_getElem? (i := 8) rfl))) (mvT hZ (hw _ (List.mem_of_getElem? (i := 9) rfl))) (notFace_of_selects (args := #[]) (mvT hZ (hw _ (List.mem_of_getElem? (i := 11) rfl)))) (mvT hZ (hw _ (List.mem_of_getElem? (i := 11) rfl))) (mvT hZ (hw _ (List.mem_of_getElem? (i := 10) rfl))) (by decide) (backOf (W := 0) (rm2 l Z aw hw [] c1 c3 c4 c5 (0 : Int32) h0 n0 Z0 O0 S_3 S_4 S_5 ((if_neg d13).trans ((if_neg d14).trans (if_neg d15)))) hZ (hw _ (List.mem_of_getElem? (i := 12) rfl)) (hw _ (List.mem_of_getElem? (i := 6) rfl)) (by decide) (by decide)) q9a q9c (g := (mkF m 14 #[.val (.int p0), .val (.int (1 : Int32)), .val (.ref c1), .unset, .unset, .unset] [(.ref c1)])) rfl (by rw [hml]; rfl) (Steps.refl _) (argsL := []) (rest := []) (lenOf pd_2829Z rfl) rfl (by show 2 * 0 + _ ≤ _; exact Nat.le_of_eq rfl) (hb hby at_14) (fun _ _ => ⟨rfl, e8, (by decide : 0 + 0 ≤ _), (by decide : 0 + 0 ≤ _)⟩)
    dsimp only [Pt.U, Pt.locs, Pt.cells, Pt.slots] at X9 lz9 yz9 zz9 st9 hQ9
    subst lz9 yz9 zz9
    obtain ⟨rfl, N9q, e9⟩ := hQ9
    have N9 := Fr.app N8 N9q
    refine go (fun _ k => st9.trans k) ?_
    show Run _ _ _ _ _ _ _ T9 (mkF m 17 #[.val (.int p0), .val (.int (1 : Int32)), .val (.ref c1), .unset, .unset, .unset] [(.int (0 : Int32))])
    refine go (T' := T9) (f' := (mkF m 18 #[.val (.int p0), .val (.int (1 : Int32)), .val (.ref c1), .val (.int (0 : Int32)), .unset, .unset] [])) (by intro t k; exact XS.istoreN X9.here hx rfl (hb hby at_17) rfl (l' := #[.val (.int p0), .val (.int (1 : Int32)), .val (.ref c1), .val (.int (0 : Int32)), .unset, .unset]) rfl k) ?_
    show Run _ _ _ _ _ _ _ T9 (mkF m 18 #[.val (.int p0), .val (.int (1 : Int32)), .val (.ref c1), .val (.int (0 : Int32)), .unset, .unset] [])
    refine go (T' := T9) (f' := (mkF m 19 #[.val (.int p0), .val (.int (1 : Int32)), .val (.ref c1), .val (.int (0 : Int32)), .unset, .unset] [(.int (1 : Int32))])) (by intro t k; exact XS.iloadN X9.here hx rfl (hb hby at_18) rfl k) ?_
    show Run _ _ _ _ _ _ _ T9 (mkF m 19 #[.val (.int p0), .val (.int (1 : Int32)), .val (.ref c1), .val (.int (0 : Int32)), .unset, .unset] [(.int (1 : Int32))])
    refine go (T' := T9) (f' := (mkF m 20 #[.val (.int p0), .val (.int (1 : Int32)), .val (.ref c1), .val (.int (0 : Int32)), .unset, .unset] [(.int (3 : Int32)), (.int (1 : Int32))])) (by intro t k; exact XS.iconst X9.here hx rfl (hb hby at_19) k) ?_
    show Run _ _ _ _ _ _ _ T9 (mkF m 20 #[.val (.int p0), .val (.int (1 : Int32)), .val (.ref c1), .val (.int (0 : Int32)), .unset, .unset] [(.int (3 : Int32)), (.int (1 : Int32))])
    refine go (T' := T9) (f' := (mkF m 27 #[.val (.int p0), .val (.int (1 : Int32)), .val (.ref c1), .val (.int (0 : Int32)), .unset, .unset] [])) (by intro t k; exact XS.icmpYes X9.here hx rfl (pc0 := 20) (pc' := 27) rfl (hb hby at_20) rfl (tlt (by decide : (1 : Int32) < (3 : Int32))).1 (by decide) (by decide) k) ?_
    show Run _ _ _ _ _ _ _ T9 (mkF m 27 #[.val (.int p0), .val (.int (1 : Int32)), .val (.ref c1), .val (.int (0 : Int32)), .unset, .unset] [])
    refine go (T' := T9) (f' := (mkF m 28 #[.val (.int p0), .val (.int (1 : Int32)), .val (.ref c1), .val (.int (0 : Int32)), .unset, .unset] [(.int (0 : Int32))])) (by intro t k; exact XS.iconst X9.here hx rfl (hb hby at_27) k) ?_
    show Run _ _ _ _ _ _ _ T9 (mkF m 28 #[.val (.int p0), .val (.int (1 : Int32)), .val (.ref c1), .val (.int (0 : Int32)), .unset, .unset] [(.int (0 : Int32))])
    refine go (T' := T9) (f' := (mkF m 30 #[.val (.int p0), .val (.int (1 : Int32)), .val (.ref c1), .val (.int (0 : Int32)), .val (.int (0 : Int32)), .unset] [])) (by intro t k; exact XS.istore X9.here hx rfl (hb hby at_28) rfl (l' := #[.val (.int p0), .val (.int (1 : Int32)), .val (.ref c1), .val (.int (0 : Int32)), .val (.int (0 : Int32)), .unset]) rfl k) ?_
    show Run _ _ _ _ _ _ _ T9 (mkF m 30 #[.val (.int p0), .val (.int (1 : Int32)), .val (.ref c1), .val (.int (0 : Int32)), .val (.int (0 : Int32)), .unset] [])
    refine go (T' := T9) (f' := (mkF m 31 #[.val (.int p0), .val (.int (1 : Int32)), .val (.ref c1), .val (.int (0 : Int32)), .val (.int (0 : Int32)), .unset] [(.ref c1)])) (by intro t k; exact XS.aloadN X9.here hx rfl (hb hby at_30) rfl rfl k) ?_
    show Run _ _ _ _ _ _ _ T9 (mkF m 31 #[.val (.int p0), .val (.int (1 : Int32)), .val (.ref c1), .val (.int (0 : Int32)), .val (.int (0 : Int32)), .unset] [(.ref c1)])
    obtain ⟨T10, X10, e10, st10⟩ := getF X9 hx hZ hown (host := "") (Or.inl (hw _ (List.mem_of_getElem? (i := 19) rfl))) Via.refl e9 (Fld.ext O0.2 W_1) (g := (mkF m 31 #[.val (.int p0), .val (.int (1 : Int32)), .val (.ref c1), .val (.int (0 : Int32)), .val (.int (0 : Int32)), .unset] [(.ref c1)])) rfl rfl (hb hby at_31)
    refine go st10 ?_
    show Run _ _ _ _ _ _ _ T10 (mkF m 34 #[.val (.int p0), .val (.int (1 : Int32)), .val (.ref c1), .val (.int (0 : Int32)), .val (.int (0 : Int32)), .unset] [(.ref w1)])
    obtain ⟨cq11, kq11, q11a, q11b, q11c⟩ := isOf hZ e10 (Exa.ext O0.2 EW_1)
    obtain ⟨_, _, ⟨T11, Lz11, kz11, nz11⟩, -, X11, ⟨Lc11, hQ11, lz11, yz11, zz11⟩, st11⟩ := X10.virtualBack hx (y := (⟨"java/lang/String", "length", "()I"⟩ : MethodName)) (z := (⟨"java/lang/String", "length", "()I"⟩ : MethodName)) hown (mvT hZ (hw _ (List.mem_of_getElem? (i := 21) rfl))) (mvT hZ (hw _ (List.mem_of_getElem? (i := 22) rfl))) (notFace_of_selects (args := #[]) (mvT hZ (hw _ (List.mem_of_getElem? (i := 24) rfl)))) (mvT hZ (hw _ (List.mem_of_getElem? (i := 24) rfl))) (mvT hZ (hw _ (List.mem_of_getElem? (i := 23) rfl))) (by decide) (backOf (W := 0) (rm3 l Z aw hw [] w1 cs v1 [(.int (80 : Int32)), (.int (109 : Int32)), (.int (97 : Int32)), (.int (120 : Int32))] (4 : Int32) h0 n0 Z0 O0 S_cs hcs (Exa.ext O0.2 EW_1) (Fld.ext O0.2 FC_1) (Fld.ext O0.2 FV_1) (Ary.ext A_1 O0.2) rfl) hZ (hw _ (List.mem_of_getElem? (i := 26) rfl)) (hw _ (List.mem_of_getElem? (i := 25) rfl)) (by decide) (by decide)) q11a q11c (g := (mkF m 34 #[.val (.int p0), .val (.int (1 : Int32)), .val (.ref c1), .val (.int (0 : Int32)), .val (.int (0 : Int32)), .unset] [(.ref w1)])) rfl (by rw [hml]; rfl) (Steps.refl _) (argsL := []) (rest := []) (lenOf pd_2829I rfl) rfl (by show 2 * 0 + _ ≤ _; exact Nat.le_of_eq rfl) (hb hby at_34) (fun _ _ => ⟨rfl, e10, (by decide : 0 + 0 ≤ _), (by decide : 0 + 0 ≤ _)⟩)
    dsimp only [Pt.U, Pt.locs, Pt.cells, Pt.slots] at X11 lz11 yz11 zz11 st11 hQ11
    subst lz11 yz11 zz11
    obtain ⟨rfl, N11q, e11⟩ := hQ11
    have N11 := Fr.app N9 N11q
    refine go (fun _ k => st11.trans k) ?_
    show Run _ _ _ _ _ _ _ T11 (mkF m 37 #[.val (.int p0), .val (.int (1 : Int32)), .val (.ref c1), .val (.int (0 : Int32)), .val (.int (0 : Int32)), .unset] [(.int (4 : Int32))])
    refine go (T' := T11) (f' := (mkF m 40 #[.val (.int p0), .val (.int (1 : Int32)), .val (.ref c1), .val (.int (0 : Int32)), .val (.int (0 : Int32)), .unset] [])) (by intro t k; exact XS.ifNo X11.here hx rfl (hb hby at_37) rfl ((if0 _ _).trans (tlt (by decide : (0 : Int32) < (4 : Int32))).2.2.2) k) ?_
    show Run _ _ _ _ _ _ _ T11 (mkF m 40 #[.val (.int p0), .val (.int (1 : Int32)), .val (.ref c1), .val (.int (0 : Int32)), .val (.int (0 : Int32)), .unset] [])
    refine go (T' := T11) (f' := (mkF m 41 #[.val (.int p0), .val (.int (1 : Int32)), .val (.ref c1), .val (.int (0 : Int32)), .val (.int (0 : Int32)), .unset] [(.ref c1)])) (by intro t k; exact XS.aloadN X11.here hx rfl (hb hby at_40) rfl rfl k) ?_
    show Run _ _ _ _ _ _ _ T11 (mkF m 41 #[.val (.int p0), .val (.int (1 : Int32)), .val (.ref c1), .val (.int (0 : Int32)), .val (.int (0 : Int32)), .unset] [(.ref c1)])
    obtain ⟨T12, X12, e12, st12⟩ := getF X11 hx hZ hown (host := "") (Or.inl (hw _ (List.mem_of_getElem? (i := 19) rfl))) Via.refl e11 (Fld.ext O0.2 W_1) (g := (mkF m 41 #[.val (.int p0), .val (.int (1 : Int32)), .val (.ref c1), .val (.int (0 : Int32)), .val (.int (0 : Int32)), .unset] [(.ref c1)])) rfl rfl (hb hby at_41)
    refine go st12 ?_
    show Run _ _ _ _ _ _ _ T12 (mkF m 44 #[.val (.int p0), .val (.int (1 : Int32)), .val (.ref c1), .val (.int (0 : Int32)), .val (.int (0 : Int32)), .unset] [(.ref w1)])
    refine go (T' := T12) (f' := (mkF m 45 #[.val (.int p0), .val (.int (1 : Int32)), .val (.ref c1), .val (.int (0 : Int32)), .val (.int (0 : Int32)), .unset] [(.int (0 : Int32)), (.ref w1)])) (by intro t k; exact XS.iconst X12.here hx rfl (hb hby at_44) k) ?_
    show Run _ _ _ _ _ _ _ T12 (mkF m 45 #[.val (.int p0), .val (.int (1 : Int32)), .val (.ref c1), .val (.int (0 : Int32)), .val (.int (0 : Int32)), .unset] [(.int (0 : Int32)), (.ref w1)])
    obtain ⟨cq13, kq13, q13a, q13b, q13c⟩ := isOf hZ e12 (Exa.ext O0.2 EW_1)
    obtain ⟨_, _, ⟨T13, Lz13, kz13, nz13⟩, -, X13, ⟨Lc13, hQ13, lz13, yz13, zz13⟩, st13⟩ := X12.virtualBack hx (y := (⟨"java/lang/String", "charAt", "(I)C"⟩ : MethodName)) (z := (⟨"java/lang/String", "charAt", "(I)C"⟩ : MethodName)) hown (mvT hZ (hw _ (List.mem_of_getElem? (i := 37) rfl))) (mvT hZ (hw _ (List.mem_of_getElem? (i := 38) rfl))) (notFace_of_selects (args := #[]) (mvT hZ (hw _ (List.mem_of_getElem? (i := 40) rfl)))) (mvT hZ (hw _ (List.mem_of_getElem? (i := 40) rfl))) (mvT hZ (hw _ (List.mem_of_getElem? (i := 39) rfl))) (by decide) (backOf (W := 0) (rm5 l Z aw hw [] w1 (0 : Int32) cs wf v1 [(.int (80 : Int32)), (.int (109 : Int32)), (.int (97 : Int32)), (.int (120 : Int32))] (4 : Int32) (80 : Int32) (80 : Int32) h0 n0 Z0 O0 S_cs hcs S_sf hwf (Exa.ext O0.2 EW_1) (Fld.ext O0.2 FC_1) (Fld.ext O0.2 FV_1) (Ary.ext A_1 O0.2) rfl (by decide) (by decide) rfl (by decide)) hZ (hw _ (List.mem_of_getElem? (i := 41) rfl)) (hw _ (List.mem_of_getElem? (i := 25) rfl)) (by decide) (by decide)) q13a q13c (g := (mkF m 45 #[.val (.int p0), .val (.int (1 : Int32)), .val (.ref c1), .val (.int (0 : Int32)), .val (.int (0 : Int32)), .unset] [(.int (0 : Int32)), (.ref w1)])) rfl (by rw [hml]; rfl) (Steps.refl _) (argsL := [(.int (0 : Int32))]) (rest := []) (lenOf pd_28I29C rfl) rfl (by show 2 * 0 + _ ≤ _; exact Nat.le_of_eq rfl) (hb hby at_45) (fun _ _ => ⟨rfl, e12, (by decide : 0 + 0 ≤ _), (by decide : 0 + 0 ≤ _)⟩)
    dsimp only [Pt.U, Pt.locs, Pt.cells, Pt.slots] at X13 lz13 yz13 zz13 st13 hQ13
    subst lz13 yz13 zz13
    obtain ⟨rfl, N13q, e13⟩ := hQ13
    have N13 := Fr.app N11 N13q
    refine go (fun _ k => st13.trans k) ?_
    show Run _ _ _ _ _ _ _ T13 (mkF m 48 #[.val (.int p0), .val (.int (1 : Int32)), .val (.ref c1), .val (.int (0 : Int32)), .val (.int (0 : Int32)), .unset] [(.int (80 : Int32))])
    refine go (T' := T13) (f' := (mkF m 50 #[.val (.int p0), .val (.int (1 : Int32)), .val (.ref c1), .val (.int (0 : Int32)), .val (.int (0 : Int32)), .unset] [(.int (82 : Int32)), (.int (80 : Int32))])) (by intro t k; exact XS.bipush X13.here hx rfl (hb hby at_48) k) ?_
    show Run _ _ _ _ _ _ _ T13 (mkF m 50 #[.val (.int p0), .val (.int (1 : Int32)), .val (.ref c1), .val (.int (0 : Int32)), .val (.int (0 : Int32)), .unset] [(.int (82 : Int32)), (.int (80 : Int32))])
    refine go (T' := T13) (f' := (mkF m 57 #[.val (.int p0), .val (.int (1 : Int32)), .val (.ref c1), .val (.int (0 : Int32)), .val (.int (0 : Int32)), .unset] [])) (by intro t k; exact XS.icmpYes X13.here hx rfl (pc0 := 50) (pc' := 57) rfl (hb hby at_50) rfl (feq (by decide : ¬ ((80 : Int32) = (82 : Int32)))).2 (by decide) (by decide) k) ?_
    show Run _ _ _ _ _ _ _ T13 (mkF m 57 #[.val (.int p0), .val (.int (1 : Int32)), .val (.ref c1), .val (.int (0 : Int32)), .val (.int (0 : Int32)), .unset] [])
    refine go (T' := T13) (f' := (mkF m 58 #[.val (.int p0), .val (.int (1 : Int32)), .val (.ref c1), .val (.int (0 : Int32)), .val (.int (0 : Int32)), .unset] [(.int (0 : Int32))])) (by intro t k; exact XS.iconst X13.here hx rfl (hb hby at_57) k) ?_
    show Run _ _ _ _ _ _ _ T13 (mkF m 58 #[.val (.int p0), .val (.int (1 : Int32)), .val (.ref c1), .val (.int (0 : Int32)), .val (.int (0 : Int32)), .unset] [(.int (0 : Int32))])
    refine go (T' := T13) (f' := (mkF m 60 #[.val (.int p0), .val (.int (1 : Int32)), .val (.ref c1), .val (.int (0 : Int32)), .val (.int (0 : Int32)), .val (.int (0 : Int32))] [])) (by intro t k; exact XS.istore X13.here hx rfl (hb hby at_58) rfl (l' := #[.val (.int p0), .val (.int (1 : Int32)), .val (.ref c1), .val (.int (0 : Int32)), .val (.int (0 : Int32)), .val (.int (0 : Int32))]) rfl k) ?_
    show Run _ _ _ _ _ _ _ T13 (mkF m 60 #[.val (.int p0), .val (.int (1 : Int32)), .val (.ref c1), .val (.int (0 : Int32)), .val (.int (0 : Int32)), .val (.int (0 : Int32))] [])
    refine go (T' := T13) (f' := (mkF m 61 #[.val (.int p0), .val (.int (1 : Int32)), .val (.ref c1), .val (.int (0 : Int32)), .val (.int (0 : Int32)), .val (.int (0 : Int32))] [(.int (0 : Int32))])) (by intro t k; exact XS.iloadN X13.here hx rfl (hb hby at_60) rfl k) ?_
    show Run _ _ _ _ _ _ _ T13 (mkF m 61 #[.val (.int p0), .val (.int (1 : Int32)), .val (.ref c1), .val (.int (0 : Int32)), .val (.int (0 : Int32)), .val (.int (0 : Int32))] [(.int (0 : Int32))])
    refine go (T' := T13) (f' := (mkF m 63 #[.val (.int p0), .val (.int (1 : Int32)), .val (.ref c1), .val (.int (0 : Int32)), .val (.int (0 : Int32)), .val (.int (0 : Int32))] [(.int (0 : Int32)), (.int (0 : Int32))])) (by intro t k; exact XS.iload X13.here hx rfl (hb hby at_61) rfl k) ?_
    show Run _ _ _ _ _ _ _ T13 (mkF m 63 #[.val (.int p0), .val (.int (1 : Int32)), .val (.ref c1), .val (.int (0 : Int32)), .val (.int (0 : Int32)), .val (.int (0 : Int32))] [(.int (0 : Int32)), (.int (0 : Int32))])
    refine go (T' := T13) (f' := (mkF m 66 #[.val (.int p0), .val (.int (1 : Int32)), .val (.ref c1), .val (.int (0 : Int32)), .val (.int (0 : Int32)), .val (.int (0 : Int32))] [])) (by intro t k; exact XS.icmpNo X13.here hx rfl (hb hby at_63) rfl (teq (rfl : (0 : Int32) = (0 : Int32))).2 k) ?_
    show Run _ _ _ _ _ _ _ T13 (mkF m 66 #[.val (.int p0), .val (.int (1 : Int32)), .val (.ref c1), .val (.int (0 : Int32)), .val (.int (0 : Int32)), .val (.int (0 : Int32))] [])
    refine go (T' := T13) (f' := (mkF m 67 #[.val (.int p0), .val (.int (1 : Int32)), .val (.ref c1), .val (.int (0 : Int32)), .val (.int (0 : Int32)), .val (.int (0 : Int32))] [(.int (0 : Int32))])) (by intro t k; exact XS.iloadN X13.here hx rfl (hb hby at_66) rfl k) ?_
    show Run _ _ _ _ _ _ _ T13 (mkF m 67 #[.val (.int p0), .val (.int (1 : Int32)), .val (.ref c1), .val (.int (0 : Int32)), .val (.int (0 : Int32)), .val (.int (0 : Int32))] [(.int (0 : Int32))])
    refine go (T' := T13) (f' := (mkF m 69 #[.val (.int p0), .val (.int (1 : Int32)), .val (.ref c1), .val (.int (0 : Int32)), .val (.int (0 : Int32)), .val (.int (0 : Int32))] [(.int (0 : Int32)), (.int (0 : Int32))])) (by intro t k; exact XS.iload X13.here hx rfl (hb hby at_67) rfl k) ?_
    show Run _ _ _ _ _ _ _ T13 (mkF m 69 #[.val (.int p0), .val (.int (1 : Int32)), .val (.ref c1), .val (.int (0 : Int32)), .val (.int (0 : Int32)), .val (.int (0 : Int32))] [(.int (0 : Int32)), (.int (0 : Int32))])
    refine go (T' := T13) (f' := (mkF m 72 #[.val (.int p0), .val (.int (1 : Int32)), .val (.ref c1), .val (.int (0 : Int32)), .val (.int (0 : Int32)), .val (.int (0 : Int32))] [])) (by intro t k; exact XS.icmpNo X13.here hx rfl (hb hby at_69) rfl (teq (rfl : (0 : Int32) = (0 : Int32))).2 k) ?_
    show Run _ _ _ _ _ _ _ T13 (mkF m 72 #[.val (.int p0), .val (.int (1 : Int32)), .val (.ref c1), .val (.int (0 : Int32)), .val (.int (0 : Int32)), .val (.int (0 : Int32))] [])
    refine go (T' := T13) (f' := (mkF m 73 #[.val (.int p0), .val (.int (1 : Int32)), .val (.ref c1), .val (.int (0 : Int32)), .val (.int (0 : Int32)), .val (.int (0 : Int32))] [(.int (1 : Int32))])) (by intro t k; exact XS.iconst X13.here hx rfl (hb hby at_72) k) ?_
    show Run _ _ _ _ _ _ _ T13 (mkF m 73 #[.val (.int p0), .val (.int (1 : Int32)), .val (.ref c1), .val (.int (0 : Int32)), .val (.int (0 : Int32)), .val (.int (0 : Int32))] [(.int (1 : Int32))])
    refine go (T' := T13) (f' := (mkF m 77 #[.val (.int p0), .val (.int (1 : Int32)), .val (.ref c1), .val (.int (0 : Int32)), .val (.int (0 : Int32)), .val (.int (0 : Int32))] [(.int (1 : Int32))])) (by intro t k; exact XS.goto X13.here hx rfl (pc0 := 73) (pc' := 77) rfl (hb hby at_73) (by decide) (by decide) k) ?_
    show Run _ _ _ _ _ _ _ T13 (mkF m 77 #[.val (.int p0), .val (.int (1 : Int32)), .val (.ref c1), .val (.int (0 : Int32)), .val (.int (0 : Int32)), .val (.int (0 : Int32))] [(.int (1 : Int32))])
    refine retZ X13 hx (t := .boolean) Bd.returns (by simp) (hb hby at_77) hlk (by decide) (by decide) ?_
    show Q0 Z p0 cs wf c0 w0 v0 c1 w1 v1 c2 w2 v2 c3 w3 v3 c4 w4 v4 c5 w5 v5 h0 n0 _ T13.heap _
    rw [e13]
    have hv' : (nar .boolean (1 : Int32)) = (1 : Int32) := by
      rfl
    have hv : (some (.int (nar .boolean (1 : Int32))) : Option Value) = some (.int (1 : Int32)) := congrArg (fun z => (some (.int z) : Option Value)) hv'
    exact ⟨hv, N13⟩
  · subst ez
    show Run _ _ _ _ _ _ _ s₁ (mkF m 7 #[.val (.int p0), .unset, .unset, .unset, .unset, .unset] [(.int (2 : Int32))])
    refine go (T' := s₁) (f' := (mkF m 8 #[.val (.int p0), .val (.int (2 : Int32)), .unset, .unset, .unset, .unset] [])) (by intro t k; exact XS.istoreN X0.here hx rfl (hb hby at_7) rfl (l' := #[.val (.int p0), .val (.int (2 : Int32)), .unset, .unset, .unset, .unset]) rfl k) ?_
    show Run _ _ _ _ _ _ _ s₁ (mkF m 8 #[.val (.int p0), .val (.int (2 : Int32)), .unset, .unset, .unset, .unset] [])
    refine go (T' := s₁) (f' := (mkF m 9 #[.val (.int p0), .val (.int (2 : Int32)), .unset, .unset, .unset, .unset] [(.int (2 : Int32))])) (by intro t k; exact XS.iloadN X0.here hx rfl (hb hby at_8) rfl k) ?_
    show Run _ _ _ _ _ _ _ s₁ (mkF m 9 #[.val (.int p0), .val (.int (2 : Int32)), .unset, .unset, .unset, .unset] [(.int (2 : Int32))])
    obtain ⟨_, _, ⟨T14, Lz14, kz14, nz14⟩, -, X14, ⟨Lc14, hQ14, lz14, yz14, zz14⟩, st14⟩ := Jvm.LawKit.callS X0 hx (y := (⟨"com/example/petrel/petrel/model/OperatorAsksForRewardPinLaw", "operatorAt", "(I)Lcom/example/petrel/petrel/model/Syntax$Operator;"⟩ : MethodName)) hown (mvT hZ (hw _ (List.mem_of_getElem? (i := 1) rfl))) (mvT hZ (hw _ (List.mem_of_getElem? (i := 2) rfl))) (mvT hZ (hw _ (List.mem_of_getElem? (i := 3) rfl))) (mvT hZ (hw _ (List.mem_of_getElem? (i := 4) rfl))) (by decide) (backOf (W := 0) (rm1k2 l Z aw hw []  c2 h0 n0 Z0 O0 S_2) hZ (hw _ (List.mem_of_getElem? (i := 4) rfl)) (hw _ (List.mem_of_getElem? (i := 3) rfl)) (by decide) (by decide)) (g := (mkF m 9 #[.val (.int p0), .val (.int (2 : Int32)), .unset, .unset, .unset, .unset] [(.int (2 : Int32))])) rfl (by rw [hml]; rfl) (argsL := [(.int (2 : Int32))]) (rest := []) (lenOf pd_28I29Lcom2fexample2fpetrel2fpetrel2fmodel2fSyntax24Operator3b rfl) rfl (by show 2 * 0 + _ ≤ _; exact Nat.le_of_eq rfl) (hb hby at_9) (fun _ _ => ⟨rfl, e0, (by decide : 0 + 0 ≤ _), (by decide : 0 + 0 ≤ _)⟩)
    dsimp only [Pt.U, Pt.locs, Pt.cells, Pt.slots] at X14 lz14 yz14 zz14 st14 hQ14
    subst lz14 yz14 zz14
    obtain ⟨rfl, N14q, e14⟩ := hQ14
    have N14 := Fr.app N0 N14q
    refine go st14 ?_
    show Run _ _ _ _ _ _ _ T14 (mkF m 12 #[.val (.int p0), .val (.int (2 : Int32)), .unset, .unset, .unset, .unset] [(.ref c2)])
    refine go (T' := T14) (f' := (mkF m 13 #[.val (.int p0), .val (.int (2 : Int32)), .val (.ref c2), .unset, .unset, .unset] [])) (by intro t k; exact XS.astoreN X14.here hx rfl (hb hby at_12) rfl rfl (l' := #[.val (.int p0), .val (.int (2 : Int32)), .val (.ref c2), .unset, .unset, .unset]) rfl k) ?_
    show Run _ _ _ _ _ _ _ T14 (mkF m 13 #[.val (.int p0), .val (.int (2 : Int32)), .val (.ref c2), .unset, .unset, .unset] [])
    refine go (T' := T14) (f' := (mkF m 14 #[.val (.int p0), .val (.int (2 : Int32)), .val (.ref c2), .unset, .unset, .unset] [(.ref c2)])) (by intro t k; exact XS.aloadN X14.here hx rfl (hb hby at_13) rfl rfl k) ?_
    show Run _ _ _ _ _ _ _ T14 (mkF m 14 #[.val (.int p0), .val (.int (2 : Int32)), .val (.ref c2), .unset, .unset, .unset] [(.ref c2)])
    obtain ⟨cq15, kq15, q15a, q15b, q15c⟩ := isOf hZ e14 (Exa.ext O0.2 E_2)
    obtain ⟨_, _, ⟨T15, Lz15, kz15, nz15⟩, -, X15, ⟨Lc15, hQ15, lz15, yz15, zz15⟩, st15⟩ := X14.virtualBack hx (y := (⟨"com/example/petrel/petrel/model/Syntax$Operator", "asksForReward", "()Z"⟩ : MethodName)) (z := (⟨"com/example/petrel/petrel/model/Syntax$Operator", "asksForReward", "()Z"⟩ : MethodName)) hown (mvT hZ (hw _ (List.mem_of_getElem? (i := 8) rfl))) (mvT hZ (hw _ (List.mem_of_getElem? (i := 9) rfl))) (notFace_of_selects (args := #[]) (mvT hZ (hw _ (List.mem_of_getElem? (i := 11) rfl)))) (mvT hZ (hw _ (List.mem_of_getElem? (i := 11) rfl))) (mvT hZ (hw _ (List.mem_of_getElem? (i := 10) rfl))) (by decide) (backOf (W := 0) (rm2 l Z aw hw [] c2 c3 c4 c5 (0 : Int32) h0 n0 Z0 O0 S_3 S_4 S_5 ((if_neg d23).trans ((if_neg d24).trans (if_neg d25)))) hZ (hw _ (List.mem_of_getElem? (i := 12) rfl)) (hw _ (List.mem_of_getElem? (i := 6) rfl)) (by decide) (by decide)) q15a q15c (g := (mkF m 14 #[.val (.int p0), .val (.int (2 : Int32)), .val (.ref c2), .unset, .unset, .unset] [(.ref c2)])) rfl (by rw [hml]; rfl) (Steps.refl _) (argsL := []) (rest := []) (lenOf pd_2829Z rfl) rfl (by show 2 * 0 + _ ≤ _; exact Nat.le_of_eq rfl) (hb hby at_14) (fun _ _ => ⟨rfl, e14, (by decide : 0 + 0 ≤ _), (by decide : 0 + 0 ≤ _)⟩)
    dsimp only [Pt.U, Pt.locs, Pt.cells, Pt.slots] at X15 lz15 yz15 zz15 st15 hQ15
    subst lz15 yz15 zz15
    obtain ⟨rfl, N15q, e15⟩ := hQ15
    have N15 := Fr.app N14 N15q
    refine go (fun _ k => st15.trans k) ?_
    show Run _ _ _ _ _ _ _ T15 (mkF m 17 #[.val (.int p0), .val (.int (2 : Int32)), .val (.ref c2), .unset, .unset, .unset] [(.int (0 : Int32))])
    refine go (T' := T15) (f' := (mkF m 18 #[.val (.int p0), .val (.int (2 : Int32)), .val (.ref c2), .val (.int (0 : Int32)), .unset, .unset] [])) (by intro t k; exact XS.istoreN X15.here hx rfl (hb hby at_17) rfl (l' := #[.val (.int p0), .val (.int (2 : Int32)), .val (.ref c2), .val (.int (0 : Int32)), .unset, .unset]) rfl k) ?_
    show Run _ _ _ _ _ _ _ T15 (mkF m 18 #[.val (.int p0), .val (.int (2 : Int32)), .val (.ref c2), .val (.int (0 : Int32)), .unset, .unset] [])
    refine go (T' := T15) (f' := (mkF m 19 #[.val (.int p0), .val (.int (2 : Int32)), .val (.ref c2), .val (.int (0 : Int32)), .unset, .unset] [(.int (2 : Int32))])) (by intro t k; exact XS.iloadN X15.here hx rfl (hb hby at_18) rfl k) ?_
    show Run _ _ _ _ _ _ _ T15 (mkF m 19 #[.val (.int p0), .val (.int (2 : Int32)), .val (.ref c2), .val (.int (0 : Int32)), .unset, .unset] [(.int (2 : Int32))])
    refine go (T' := T15) (f' := (mkF m 20 #[.val (.int p0), .val (.int (2 : Int32)), .val (.ref c2), .val (.int (0 : Int32)), .unset, .unset] [(.int (3 : Int32)), (.int (2 : Int32))])) (by intro t k; exact XS.iconst X15.here hx rfl (hb hby at_19) k) ?_
    show Run _ _ _ _ _ _ _ T15 (mkF m 20 #[.val (.int p0), .val (.int (2 : Int32)), .val (.ref c2), .val (.int (0 : Int32)), .unset, .unset] [(.int (3 : Int32)), (.int (2 : Int32))])
    refine go (T' := T15) (f' := (mkF m 27 #[.val (.int p0), .val (.int (2 : Int32)), .val (.ref c2), .val (.int (0 : Int32)), .unset, .unset] [])) (by intro t k; exact XS.icmpYes X15.here hx rfl (pc0 := 20) (pc' := 27) rfl (hb hby at_20) rfl (tlt (by decide : (2 : Int32) < (3 : Int32))).1 (by decide) (by decide) k) ?_
    show Run _ _ _ _ _ _ _ T15 (mkF m 27 #[.val (.int p0), .val (.int (2 : Int32)), .val (.ref c2), .val (.int (0 : Int32)), .unset, .unset] [])
    refine go (T' := T15) (f' := (mkF m 28 #[.val (.int p0), .val (.int (2 : Int32)), .val (.ref c2), .val (.int (0 : Int32)), .unset, .unset] [(.int (0 : Int32))])) (by intro t k; exact XS.iconst X15.here hx rfl (hb hby at_27) k) ?_
    show Run _ _ _ _ _ _ _ T15 (mkF m 28 #[.val (.int p0), .val (.int (2 : Int32)), .val (.ref c2), .val (.int (0 : Int32)), .unset, .unset] [(.int (0 : Int32))])
    refine go (T' := T15) (f' := (mkF m 30 #[.val (.int p0), .val (.int (2 : Int32)), .val (.ref c2), .val (.int (0 : Int32)), .val (.int (0 : Int32)), .unset] [])) (by intro t k; exact XS.istore X15.here hx rfl (hb hby at_28) rfl (l' := #[.val (.int p0), .val (.int (2 : Int32)), .val (.ref c2), .val (.int (0 : Int32)), .val (.int (0 : Int32)), .unset]) rfl k) ?_
    show Run _ _ _ _ _ _ _ T15 (mkF m 30 #[.val (.int p0), .val (.int (2 : Int32)), .val (.ref c2), .val (.int (0 : Int32)), .val (.int (0 : Int32)), .unset] [])
    refine go (T' := T15) (f' := (mkF m 31 #[.val (.int p0), .val (.int (2 : Int32)), .val (.ref c2), .val (.int (0 : Int32)), .val (.int (0 : Int32)), .unset] [(.ref c2)])) (by intro t k; exact XS.aloadN X15.here hx rfl (hb hby at_30) rfl rfl k) ?_
    show Run _ _ _ _ _ _ _ T15 (mkF m 31 #[.val (.int p0), .val (.int (2 : Int32)), .val (.ref c2), .val (.int (0 : Int32)), .val (.int (0 : Int32)), .unset] [(.ref c2)])
    obtain ⟨T16, X16, e16, st16⟩ := getF X15 hx hZ hown (host := "") (Or.inl (hw _ (List.mem_of_getElem? (i := 19) rfl))) Via.refl e15 (Fld.ext O0.2 W_2) (g := (mkF m 31 #[.val (.int p0), .val (.int (2 : Int32)), .val (.ref c2), .val (.int (0 : Int32)), .val (.int (0 : Int32)), .unset] [(.ref c2)])) rfl rfl (hb hby at_31)
    refine go st16 ?_
    show Run _ _ _ _ _ _ _ T16 (mkF m 34 #[.val (.int p0), .val (.int (2 : Int32)), .val (.ref c2), .val (.int (0 : Int32)), .val (.int (0 : Int32)), .unset] [(.ref w2)])
    obtain ⟨cq17, kq17, q17a, q17b, q17c⟩ := isOf hZ e16 (Exa.ext O0.2 EW_2)
    obtain ⟨_, _, ⟨T17, Lz17, kz17, nz17⟩, -, X17, ⟨Lc17, hQ17, lz17, yz17, zz17⟩, st17⟩ := X16.virtualBack hx (y := (⟨"java/lang/String", "length", "()I"⟩ : MethodName)) (z := (⟨"java/lang/String", "length", "()I"⟩ : MethodName)) hown (mvT hZ (hw _ (List.mem_of_getElem? (i := 21) rfl))) (mvT hZ (hw _ (List.mem_of_getElem? (i := 22) rfl))) (notFace_of_selects (args := #[]) (mvT hZ (hw _ (List.mem_of_getElem? (i := 24) rfl)))) (mvT hZ (hw _ (List.mem_of_getElem? (i := 24) rfl))) (mvT hZ (hw _ (List.mem_of_getElem? (i := 23) rfl))) (by decide) (backOf (W := 0) (rm3 l Z aw hw [] w2 cs v2 [(.int (80 : Int32)), (.int (109 : Int32)), (.int (105 : Int32)), (.int (110 : Int32))] (4 : Int32) h0 n0 Z0 O0 S_cs hcs (Exa.ext O0.2 EW_2) (Fld.ext O0.2 FC_2) (Fld.ext O0.2 FV_2) (Ary.ext A_2 O0.2) rfl) hZ (hw _ (List.mem_of_getElem? (i := 26) rfl)) (hw _ (List.mem_of_getElem? (i := 25) rfl)) (by decide) (by decide)) q17a q17c (g := (mkF m 34 #[.val (.int p0), .val (.int (2 : Int32)), .val (.ref c2), .val (.int (0 : Int32)), .val (.int (0 : Int32)), .unset] [(.ref w2)])) rfl (by rw [hml]; rfl) (Steps.refl _) (argsL := []) (rest := []) (lenOf pd_2829I rfl) rfl (by show 2 * 0 + _ ≤ _; exact Nat.le_of_eq rfl) (hb hby at_34) (fun _ _ => ⟨rfl, e16, (by decide : 0 + 0 ≤ _), (by decide : 0 + 0 ≤ _)⟩)
    dsimp only [Pt.U, Pt.locs, Pt.cells, Pt.slots] at X17 lz17 yz17 zz17 st17 hQ17
    subst lz17 yz17 zz17
    obtain ⟨rfl, N17q, e17⟩ := hQ17
    have N17 := Fr.app N15 N17q
    refine go (fun _ k => st17.trans k) ?_
    show Run _ _ _ _ _ _ _ T17 (mkF m 37 #[.val (.int p0), .val (.int (2 : Int32)), .val (.ref c2), .val (.int (0 : Int32)), .val (.int (0 : Int32)), .unset] [(.int (4 : Int32))])
    refine go (T' := T17) (f' := (mkF m 40 #[.val (.int p0), .val (.int (2 : Int32)), .val (.ref c2), .val (.int (0 : Int32)), .val (.int (0 : Int32)), .unset] [])) (by intro t k; exact XS.ifNo X17.here hx rfl (hb hby at_37) rfl ((if0 _ _).trans (tlt (by decide : (0 : Int32) < (4 : Int32))).2.2.2) k) ?_
    show Run _ _ _ _ _ _ _ T17 (mkF m 40 #[.val (.int p0), .val (.int (2 : Int32)), .val (.ref c2), .val (.int (0 : Int32)), .val (.int (0 : Int32)), .unset] [])
    refine go (T' := T17) (f' := (mkF m 41 #[.val (.int p0), .val (.int (2 : Int32)), .val (.ref c2), .val (.int (0 : Int32)), .val (.int (0 : Int32)), .unset] [(.ref c2)])) (by intro t k; exact XS.aloadN X17.here hx rfl (hb hby at_40) rfl rfl k) ?_
    show Run _ _ _ _ _ _ _ T17 (mkF m 41 #[.val (.int p0), .val (.int (2 : Int32)), .val (.ref c2), .val (.int (0 : Int32)), .val (.int (0 : Int32)), .unset] [(.ref c2)])
    obtain ⟨T18, X18, e18, st18⟩ := getF X17 hx hZ hown (host := "") (Or.inl (hw _ (List.mem_of_getElem? (i := 19) rfl))) Via.refl e17 (Fld.ext O0.2 W_2) (g := (mkF m 41 #[.val (.int p0), .val (.int (2 : Int32)), .val (.ref c2), .val (.int (0 : Int32)), .val (.int (0 : Int32)), .unset] [(.ref c2)])) rfl rfl (hb hby at_41)
    refine go st18 ?_
    show Run _ _ _ _ _ _ _ T18 (mkF m 44 #[.val (.int p0), .val (.int (2 : Int32)), .val (.ref c2), .val (.int (0 : Int32)), .val (.int (0 : Int32)), .unset] [(.ref w2)])
    refine go (T' := T18) (f' := (mkF m 45 #[.val (.int p0), .val (.int (2 : Int32)), .val (.ref c2), .val (.int (0 : Int32)), .val (.int (0 : Int32)), .unset] [(.int (0 : Int32)), (.ref w2)])) (by intro t k; exact XS.iconst X18.here hx rfl (hb hby at_44) k) ?_
    show Run _ _ _ _ _ _ _ T18 (mkF m 45 #[.val (.int p0), .val (.int (2 : Int32)), .val (.ref c2), .val (.int (0 : Int32)), .val (.int (0 : Int32)), .unset] [(.int (0 : Int32)), (.ref w2)])
    obtain ⟨cq19, kq19, q19a, q19b, q19c⟩ := isOf hZ e18 (Exa.ext O0.2 EW_2)
    obtain ⟨_, _, ⟨T19, Lz19, kz19, nz19⟩, -, X19, ⟨Lc19, hQ19, lz19, yz19, zz19⟩, st19⟩ := X18.virtualBack hx (y := (⟨"java/lang/String", "charAt", "(I)C"⟩ : MethodName)) (z := (⟨"java/lang/String", "charAt", "(I)C"⟩ : MethodName)) hown (mvT hZ (hw _ (List.mem_of_getElem? (i := 37) rfl))) (mvT hZ (hw _ (List.mem_of_getElem? (i := 38) rfl))) (notFace_of_selects (args := #[]) (mvT hZ (hw _ (List.mem_of_getElem? (i := 40) rfl)))) (mvT hZ (hw _ (List.mem_of_getElem? (i := 40) rfl))) (mvT hZ (hw _ (List.mem_of_getElem? (i := 39) rfl))) (by decide) (backOf (W := 0) (rm5 l Z aw hw [] w2 (0 : Int32) cs wf v2 [(.int (80 : Int32)), (.int (109 : Int32)), (.int (105 : Int32)), (.int (110 : Int32))] (4 : Int32) (80 : Int32) (80 : Int32) h0 n0 Z0 O0 S_cs hcs S_sf hwf (Exa.ext O0.2 EW_2) (Fld.ext O0.2 FC_2) (Fld.ext O0.2 FV_2) (Ary.ext A_2 O0.2) rfl (by decide) (by decide) rfl (by decide)) hZ (hw _ (List.mem_of_getElem? (i := 41) rfl)) (hw _ (List.mem_of_getElem? (i := 25) rfl)) (by decide) (by decide)) q19a q19c (g := (mkF m 45 #[.val (.int p0), .val (.int (2 : Int32)), .val (.ref c2), .val (.int (0 : Int32)), .val (.int (0 : Int32)), .unset] [(.int (0 : Int32)), (.ref w2)])) rfl (by rw [hml]; rfl) (Steps.refl _) (argsL := [(.int (0 : Int32))]) (rest := []) (lenOf pd_28I29C rfl) rfl (by show 2 * 0 + _ ≤ _; exact Nat.le_of_eq rfl) (hb hby at_45) (fun _ _ => ⟨rfl, e18, (by decide : 0 + 0 ≤ _), (by decide : 0 + 0 ≤ _)⟩)
    dsimp only [Pt.U, Pt.locs, Pt.cells, Pt.slots] at X19 lz19 yz19 zz19 st19 hQ19
    subst lz19 yz19 zz19
    obtain ⟨rfl, N19q, e19⟩ := hQ19
    have N19 := Fr.app N17 N19q
    refine go (fun _ k => st19.trans k) ?_
    show Run _ _ _ _ _ _ _ T19 (mkF m 48 #[.val (.int p0), .val (.int (2 : Int32)), .val (.ref c2), .val (.int (0 : Int32)), .val (.int (0 : Int32)), .unset] [(.int (80 : Int32))])
    refine go (T' := T19) (f' := (mkF m 50 #[.val (.int p0), .val (.int (2 : Int32)), .val (.ref c2), .val (.int (0 : Int32)), .val (.int (0 : Int32)), .unset] [(.int (82 : Int32)), (.int (80 : Int32))])) (by intro t k; exact XS.bipush X19.here hx rfl (hb hby at_48) k) ?_
    show Run _ _ _ _ _ _ _ T19 (mkF m 50 #[.val (.int p0), .val (.int (2 : Int32)), .val (.ref c2), .val (.int (0 : Int32)), .val (.int (0 : Int32)), .unset] [(.int (82 : Int32)), (.int (80 : Int32))])
    refine go (T' := T19) (f' := (mkF m 57 #[.val (.int p0), .val (.int (2 : Int32)), .val (.ref c2), .val (.int (0 : Int32)), .val (.int (0 : Int32)), .unset] [])) (by intro t k; exact XS.icmpYes X19.here hx rfl (pc0 := 50) (pc' := 57) rfl (hb hby at_50) rfl (feq (by decide : ¬ ((80 : Int32) = (82 : Int32)))).2 (by decide) (by decide) k) ?_
    show Run _ _ _ _ _ _ _ T19 (mkF m 57 #[.val (.int p0), .val (.int (2 : Int32)), .val (.ref c2), .val (.int (0 : Int32)), .val (.int (0 : Int32)), .unset] [])
    refine go (T' := T19) (f' := (mkF m 58 #[.val (.int p0), .val (.int (2 : Int32)), .val (.ref c2), .val (.int (0 : Int32)), .val (.int (0 : Int32)), .unset] [(.int (0 : Int32))])) (by intro t k; exact XS.iconst X19.here hx rfl (hb hby at_57) k) ?_
    show Run _ _ _ _ _ _ _ T19 (mkF m 58 #[.val (.int p0), .val (.int (2 : Int32)), .val (.ref c2), .val (.int (0 : Int32)), .val (.int (0 : Int32)), .unset] [(.int (0 : Int32))])
    refine go (T' := T19) (f' := (mkF m 60 #[.val (.int p0), .val (.int (2 : Int32)), .val (.ref c2), .val (.int (0 : Int32)), .val (.int (0 : Int32)), .val (.int (0 : Int32))] [])) (by intro t k; exact XS.istore X19.here hx rfl (hb hby at_58) rfl (l' := #[.val (.int p0), .val (.int (2 : Int32)), .val (.ref c2), .val (.int (0 : Int32)), .val (.int (0 : Int32)), .val (.int (0 : Int32))]) rfl k) ?_
    show Run _ _ _ _ _ _ _ T19 (mkF m 60 #[.val (.int p0), .val (.int (2 : Int32)), .val (.ref c2), .val (.int (0 : Int32)), .val (.int (0 : Int32)), .val (.int (0 : Int32))] [])
    refine go (T' := T19) (f' := (mkF m 61 #[.val (.int p0), .val (.int (2 : Int32)), .val (.ref c2), .val (.int (0 : Int32)), .val (.int (0 : Int32)), .val (.int (0 : Int32))] [(.int (0 : Int32))])) (by intro t k; exact XS.iloadN X19.here hx rfl (hb hby at_60) rfl k) ?_
    show Run _ _ _ _ _ _ _ T19 (mkF m 61 #[.val (.int p0), .val (.int (2 : Int32)), .val (.ref c2), .val (.int (0 : Int32)), .val (.int (0 : Int32)), .val (.int (0 : Int32))] [(.int (0 : Int32))])
    refine go (T' := T19) (f' := (mkF m 63 #[.val (.int p0), .val (.int (2 : Int32)), .val (.ref c2), .val (.int (0 : Int32)), .val (.int (0 : Int32)), .val (.int (0 : Int32))] [(.int (0 : Int32)), (.int (0 : Int32))])) (by intro t k; exact XS.iload X19.here hx rfl (hb hby at_61) rfl k) ?_
    show Run _ _ _ _ _ _ _ T19 (mkF m 63 #[.val (.int p0), .val (.int (2 : Int32)), .val (.ref c2), .val (.int (0 : Int32)), .val (.int (0 : Int32)), .val (.int (0 : Int32))] [(.int (0 : Int32)), (.int (0 : Int32))])
    refine go (T' := T19) (f' := (mkF m 66 #[.val (.int p0), .val (.int (2 : Int32)), .val (.ref c2), .val (.int (0 : Int32)), .val (.int (0 : Int32)), .val (.int (0 : Int32))] [])) (by intro t k; exact XS.icmpNo X19.here hx rfl (hb hby at_63) rfl (teq (rfl : (0 : Int32) = (0 : Int32))).2 k) ?_
    show Run _ _ _ _ _ _ _ T19 (mkF m 66 #[.val (.int p0), .val (.int (2 : Int32)), .val (.ref c2), .val (.int (0 : Int32)), .val (.int (0 : Int32)), .val (.int (0 : Int32))] [])
    refine go (T' := T19) (f' := (mkF m 67 #[.val (.int p0), .val (.int (2 : Int32)), .val (.ref c2), .val (.int (0 : Int32)), .val (.int (0 : Int32)), .val (.int (0 : Int32))] [(.int (0 : Int32))])) (by intro t k; exact XS.iloadN X19.here hx rfl (hb hby at_66) rfl k) ?_
    show Run _ _ _ _ _ _ _ T19 (mkF m 67 #[.val (.int p0), .val (.int (2 : Int32)), .val (.ref c2), .val (.int (0 : Int32)), .val (.int (0 : Int32)), .val (.int (0 : Int32))] [(.int (0 : Int32))])
    refine go (T' := T19) (f' := (mkF m 69 #[.val (.int p0), .val (.int (2 : Int32)), .val (.ref c2), .val (.int (0 : Int32)), .val (.int (0 : Int32)), .val (.int (0 : Int32))] [(.int (0 : Int32)), (.int (0 : Int32))])) (by intro t k; exact XS.iload X19.here hx rfl (hb hby at_67) rfl k) ?_
    show Run _ _ _ _ _ _ _ T19 (mkF m 69 #[.val (.int p0), .val (.int (2 : Int32)), .val (.ref c2), .val (.int (0 : Int32)), .val (.int (0 : Int32)), .val (.int (0 : Int32))] [(.int (0 : Int32)), (.int (0 : Int32))])
    refine go (T' := T19) (f' := (mkF m 72 #[.val (.int p0), .val (.int (2 : Int32)), .val (.ref c2), .val (.int (0 : Int32)), .val (.int (0 : Int32)), .val (.int (0 : Int32))] [])) (by intro t k; exact XS.icmpNo X19.here hx rfl (hb hby at_69) rfl (teq (rfl : (0 : Int32) = (0 : Int32))).2 k) ?_
    show Run _ _ _ _ _ _ _ T19 (mkF m 72 #[.val (.int p0), .val (.int (2 : Int32)), .val (.ref c2), .val (.int (0 : Int32)), .val (.int (0 : Int32)), .val (.int (0 : Int32))] [])
    refine go (T' := T19) (f' := (mkF m 73 #[.val (.int p0), .val (.int (2 : Int32)), .val (.ref c2), .val (.int (0 : Int32)), .val (.int (0 : Int32)), .val (.int (0 : Int32))] [(.int (1 : Int32))])) (by intro t k; exact XS.iconst X19.here hx rfl (hb hby at_72) k) ?_
    show Run _ _ _ _ _ _ _ T19 (mkF m 73 #[.val (.int p0), .val (.int (2 : Int32)), .val (.ref c2), .val (.int (0 : Int32)), .val (.int (0 : Int32)), .val (.int (0 : Int32))] [(.int (1 : Int32))])
    refine go (T' := T19) (f' := (mkF m 77 #[.val (.int p0), .val (.int (2 : Int32)), .val (.ref c2), .val (.int (0 : Int32)), .val (.int (0 : Int32)), .val (.int (0 : Int32))] [(.int (1 : Int32))])) (by intro t k; exact XS.goto X19.here hx rfl (pc0 := 73) (pc' := 77) rfl (hb hby at_73) (by decide) (by decide) k) ?_
    show Run _ _ _ _ _ _ _ T19 (mkF m 77 #[.val (.int p0), .val (.int (2 : Int32)), .val (.ref c2), .val (.int (0 : Int32)), .val (.int (0 : Int32)), .val (.int (0 : Int32))] [(.int (1 : Int32))])
    refine retZ X19 hx (t := .boolean) Bd.returns (by simp) (hb hby at_77) hlk (by decide) (by decide) ?_
    show Q0 Z p0 cs wf c0 w0 v0 c1 w1 v1 c2 w2 v2 c3 w3 v3 c4 w4 v4 c5 w5 v5 h0 n0 _ T19.heap _
    rw [e19]
    have hv' : (nar .boolean (1 : Int32)) = (1 : Int32) := by
      rfl
    have hv : (some (.int (nar .boolean (1 : Int32))) : Option Value) = some (.int (1 : Int32)) := congrArg (fun z => (some (.int z) : Option Value)) hv'
    exact ⟨hv, N19⟩
  · subst ez
    show Run _ _ _ _ _ _ _ s₁ (mkF m 7 #[.val (.int p0), .unset, .unset, .unset, .unset, .unset] [(.int (3 : Int32))])
    refine go (T' := s₁) (f' := (mkF m 8 #[.val (.int p0), .val (.int (3 : Int32)), .unset, .unset, .unset, .unset] [])) (by intro t k; exact XS.istoreN X0.here hx rfl (hb hby at_7) rfl (l' := #[.val (.int p0), .val (.int (3 : Int32)), .unset, .unset, .unset, .unset]) rfl k) ?_
    show Run _ _ _ _ _ _ _ s₁ (mkF m 8 #[.val (.int p0), .val (.int (3 : Int32)), .unset, .unset, .unset, .unset] [])
    refine go (T' := s₁) (f' := (mkF m 9 #[.val (.int p0), .val (.int (3 : Int32)), .unset, .unset, .unset, .unset] [(.int (3 : Int32))])) (by intro t k; exact XS.iloadN X0.here hx rfl (hb hby at_8) rfl k) ?_
    show Run _ _ _ _ _ _ _ s₁ (mkF m 9 #[.val (.int p0), .val (.int (3 : Int32)), .unset, .unset, .unset, .unset] [(.int (3 : Int32))])
    obtain ⟨_, _, ⟨T20, Lz20, kz20, nz20⟩, -, X20, ⟨Lc20, hQ20, lz20, yz20, zz20⟩, st20⟩ := Jvm.LawKit.callS X0 hx (y := (⟨"com/example/petrel/petrel/model/OperatorAsksForRewardPinLaw", "operatorAt", "(I)Lcom/example/petrel/petrel/model/Syntax$Operator;"⟩ : MethodName)) hown (mvT hZ (hw _ (List.mem_of_getElem? (i := 1) rfl))) (mvT hZ (hw _ (List.mem_of_getElem? (i := 2) rfl))) (mvT hZ (hw _ (List.mem_of_getElem? (i := 3) rfl))) (mvT hZ (hw _ (List.mem_of_getElem? (i := 4) rfl))) (by decide) (backOf (W := 0) (rm1k3 l Z aw hw []  c3 h0 n0 Z0 O0 S_3) hZ (hw _ (List.mem_of_getElem? (i := 4) rfl)) (hw _ (List.mem_of_getElem? (i := 3) rfl)) (by decide) (by decide)) (g := (mkF m 9 #[.val (.int p0), .val (.int (3 : Int32)), .unset, .unset, .unset, .unset] [(.int (3 : Int32))])) rfl (by rw [hml]; rfl) (argsL := [(.int (3 : Int32))]) (rest := []) (lenOf pd_28I29Lcom2fexample2fpetrel2fpetrel2fmodel2fSyntax24Operator3b rfl) rfl (by show 2 * 0 + _ ≤ _; exact Nat.le_of_eq rfl) (hb hby at_9) (fun _ _ => ⟨rfl, e0, (by decide : 0 + 0 ≤ _), (by decide : 0 + 0 ≤ _)⟩)
    dsimp only [Pt.U, Pt.locs, Pt.cells, Pt.slots] at X20 lz20 yz20 zz20 st20 hQ20
    subst lz20 yz20 zz20
    obtain ⟨rfl, N20q, e20⟩ := hQ20
    have N20 := Fr.app N0 N20q
    refine go st20 ?_
    show Run _ _ _ _ _ _ _ T20 (mkF m 12 #[.val (.int p0), .val (.int (3 : Int32)), .unset, .unset, .unset, .unset] [(.ref c3)])
    refine go (T' := T20) (f' := (mkF m 13 #[.val (.int p0), .val (.int (3 : Int32)), .val (.ref c3), .unset, .unset, .unset] [])) (by intro t k; exact XS.astoreN X20.here hx rfl (hb hby at_12) rfl rfl (l' := #[.val (.int p0), .val (.int (3 : Int32)), .val (.ref c3), .unset, .unset, .unset]) rfl k) ?_
    show Run _ _ _ _ _ _ _ T20 (mkF m 13 #[.val (.int p0), .val (.int (3 : Int32)), .val (.ref c3), .unset, .unset, .unset] [])
    refine go (T' := T20) (f' := (mkF m 14 #[.val (.int p0), .val (.int (3 : Int32)), .val (.ref c3), .unset, .unset, .unset] [(.ref c3)])) (by intro t k; exact XS.aloadN X20.here hx rfl (hb hby at_13) rfl rfl k) ?_
    show Run _ _ _ _ _ _ _ T20 (mkF m 14 #[.val (.int p0), .val (.int (3 : Int32)), .val (.ref c3), .unset, .unset, .unset] [(.ref c3)])
    obtain ⟨cq21, kq21, q21a, q21b, q21c⟩ := isOf hZ e20 (Exa.ext O0.2 E_3)
    obtain ⟨_, _, ⟨T21, Lz21, kz21, nz21⟩, -, X21, ⟨Lc21, hQ21, lz21, yz21, zz21⟩, st21⟩ := X20.virtualBack hx (y := (⟨"com/example/petrel/petrel/model/Syntax$Operator", "asksForReward", "()Z"⟩ : MethodName)) (z := (⟨"com/example/petrel/petrel/model/Syntax$Operator", "asksForReward", "()Z"⟩ : MethodName)) hown (mvT hZ (hw _ (List.mem_of_getElem? (i := 8) rfl))) (mvT hZ (hw _ (List.mem_of_getElem? (i := 9) rfl))) (notFace_of_selects (args := #[]) (mvT hZ (hw _ (List.mem_of_getElem? (i := 11) rfl)))) (mvT hZ (hw _ (List.mem_of_getElem? (i := 11) rfl))) (mvT hZ (hw _ (List.mem_of_getElem? (i := 10) rfl))) (by decide) (backOf (W := 0) (rm2 l Z aw hw [] c3 c3 c4 c5 (1 : Int32) h0 n0 Z0 O0 S_3 S_4 S_5 (if_pos rfl)) hZ (hw _ (List.mem_of_getElem? (i := 12) rfl)) (hw _ (List.mem_of_getElem? (i := 6) rfl)) (by decide) (by decide)) q21a q21c (g := (mkF m 14 #[.val (.int p0), .val (.int (3 : Int32)), .val (.ref c3), .unset, .unset, .unset] [(.ref c3)])) rfl (by rw [hml]; rfl) (Steps.refl _) (argsL := []) (rest := []) (lenOf pd_2829Z rfl) rfl (by show 2 * 0 + _ ≤ _; exact Nat.le_of_eq rfl) (hb hby at_14) (fun _ _ => ⟨rfl, e20, (by decide : 0 + 0 ≤ _), (by decide : 0 + 0 ≤ _)⟩)
    dsimp only [Pt.U, Pt.locs, Pt.cells, Pt.slots] at X21 lz21 yz21 zz21 st21 hQ21
    subst lz21 yz21 zz21
    obtain ⟨rfl, N21q, e21⟩ := hQ21
    have N21 := Fr.app N20 N21q
    refine go (fun _ k => st21.trans k) ?_
    show Run _ _ _ _ _ _ _ T21 (mkF m 17 #[.val (.int p0), .val (.int (3 : Int32)), .val (.ref c3), .unset, .unset, .unset] [(.int (1 : Int32))])
    refine go (T' := T21) (f' := (mkF m 18 #[.val (.int p0), .val (.int (3 : Int32)), .val (.ref c3), .val (.int (1 : Int32)), .unset, .unset] [])) (by intro t k; exact XS.istoreN X21.here hx rfl (hb hby at_17) rfl (l' := #[.val (.int p0), .val (.int (3 : Int32)), .val (.ref c3), .val (.int (1 : Int32)), .unset, .unset]) rfl k) ?_
    show Run _ _ _ _ _ _ _ T21 (mkF m 18 #[.val (.int p0), .val (.int (3 : Int32)), .val (.ref c3), .val (.int (1 : Int32)), .unset, .unset] [])
    refine go (T' := T21) (f' := (mkF m 19 #[.val (.int p0), .val (.int (3 : Int32)), .val (.ref c3), .val (.int (1 : Int32)), .unset, .unset] [(.int (3 : Int32))])) (by intro t k; exact XS.iloadN X21.here hx rfl (hb hby at_18) rfl k) ?_
    show Run _ _ _ _ _ _ _ T21 (mkF m 19 #[.val (.int p0), .val (.int (3 : Int32)), .val (.ref c3), .val (.int (1 : Int32)), .unset, .unset] [(.int (3 : Int32))])
    refine go (T' := T21) (f' := (mkF m 20 #[.val (.int p0), .val (.int (3 : Int32)), .val (.ref c3), .val (.int (1 : Int32)), .unset, .unset] [(.int (3 : Int32)), (.int (3 : Int32))])) (by intro t k; exact XS.iconst X21.here hx rfl (hb hby at_19) k) ?_
    show Run _ _ _ _ _ _ _ T21 (mkF m 20 #[.val (.int p0), .val (.int (3 : Int32)), .val (.ref c3), .val (.int (1 : Int32)), .unset, .unset] [(.int (3 : Int32)), (.int (3 : Int32))])
    refine go (T' := T21) (f' := (mkF m 23 #[.val (.int p0), .val (.int (3 : Int32)), .val (.ref c3), .val (.int (1 : Int32)), .unset, .unset] [])) (by intro t k; exact XS.icmpNo X21.here hx rfl (hb hby at_20) rfl (flt (by decide : ¬ ((3 : Int32) < (3 : Int32)))).1 k) ?_
    show Run _ _ _ _ _ _ _ T21 (mkF m 23 #[.val (.int p0), .val (.int (3 : Int32)), .val (.ref c3), .val (.int (1 : Int32)), .unset, .unset] [])
    refine go (T' := T21) (f' := (mkF m 24 #[.val (.int p0), .val (.int (3 : Int32)), .val (.ref c3), .val (.int (1 : Int32)), .unset, .unset] [(.int (1 : Int32))])) (by intro t k; exact XS.iconst X21.here hx rfl (hb hby at_23) k) ?_
    show Run _ _ _ _ _ _ _ T21 (mkF m 24 #[.val (.int p0), .val (.int (3 : Int32)), .val (.ref c3), .val (.int (1 : Int32)), .unset, .unset] [(.int (1 : Int32))])
    refine go (T' := T21) (f' := (mkF m 28 #[.val (.int p0), .val (.int (3 : Int32)), .val (.ref c3), .val (.int (1 : Int32)), .unset, .unset] [(.int (1 : Int32))])) (by intro t k; exact XS.goto X21.here hx rfl (pc0 := 24) (pc' := 28) rfl (hb hby at_24) (by decide) (by decide) k) ?_
    show Run _ _ _ _ _ _ _ T21 (mkF m 28 #[.val (.int p0), .val (.int (3 : Int32)), .val (.ref c3), .val (.int (1 : Int32)), .unset, .unset] [(.int (1 : Int32))])
    refine go (T' := T21) (f' := (mkF m 30 #[.val (.int p0), .val (.int (3 : Int32)), .val (.ref c3), .val (.int (1 : Int32)), .val (.int (1 : Int32)), .unset] [])) (by intro t k; exact XS.istore X21.here hx rfl (hb hby at_28) rfl (l' := #[.val (.int p0), .val (.int (3 : Int32)), .val (.ref c3), .val (.int (1 : Int32)), .val (.int (1 : Int32)), .unset]) rfl k) ?_
    show Run _ _ _ _ _ _ _ T21 (mkF m 30 #[.val (.int p0), .val (.int (3 : Int32)), .val (.ref c3), .val (.int (1 : Int32)), .val (.int (1 : Int32)), .unset] [])
    refine go (T' := T21) (f' := (mkF m 31 #[.val (.int p0), .val (.int (3 : Int32)), .val (.ref c3), .val (.int (1 : Int32)), .val (.int (1 : Int32)), .unset] [(.ref c3)])) (by intro t k; exact XS.aloadN X21.here hx rfl (hb hby at_30) rfl rfl k) ?_
    show Run _ _ _ _ _ _ _ T21 (mkF m 31 #[.val (.int p0), .val (.int (3 : Int32)), .val (.ref c3), .val (.int (1 : Int32)), .val (.int (1 : Int32)), .unset] [(.ref c3)])
    obtain ⟨T22, X22, e22, st22⟩ := getF X21 hx hZ hown (host := "") (Or.inl (hw _ (List.mem_of_getElem? (i := 19) rfl))) Via.refl e21 (Fld.ext O0.2 W_3) (g := (mkF m 31 #[.val (.int p0), .val (.int (3 : Int32)), .val (.ref c3), .val (.int (1 : Int32)), .val (.int (1 : Int32)), .unset] [(.ref c3)])) rfl rfl (hb hby at_31)
    refine go st22 ?_
    show Run _ _ _ _ _ _ _ T22 (mkF m 34 #[.val (.int p0), .val (.int (3 : Int32)), .val (.ref c3), .val (.int (1 : Int32)), .val (.int (1 : Int32)), .unset] [(.ref w3)])
    obtain ⟨cq23, kq23, q23a, q23b, q23c⟩ := isOf hZ e22 (Exa.ext O0.2 EW_3)
    obtain ⟨_, _, ⟨T23, Lz23, kz23, nz23⟩, -, X23, ⟨Lc23, hQ23, lz23, yz23, zz23⟩, st23⟩ := X22.virtualBack hx (y := (⟨"java/lang/String", "length", "()I"⟩ : MethodName)) (z := (⟨"java/lang/String", "length", "()I"⟩ : MethodName)) hown (mvT hZ (hw _ (List.mem_of_getElem? (i := 21) rfl))) (mvT hZ (hw _ (List.mem_of_getElem? (i := 22) rfl))) (notFace_of_selects (args := #[]) (mvT hZ (hw _ (List.mem_of_getElem? (i := 24) rfl)))) (mvT hZ (hw _ (List.mem_of_getElem? (i := 24) rfl))) (mvT hZ (hw _ (List.mem_of_getElem? (i := 23) rfl))) (by decide) (backOf (W := 0) (rm3 l Z aw hw [] w3 cs v3 [(.int (82 : Int32))] (1 : Int32) h0 n0 Z0 O0 S_cs hcs (Exa.ext O0.2 EW_3) (Fld.ext O0.2 FC_3) (Fld.ext O0.2 FV_3) (Ary.ext A_3 O0.2) rfl) hZ (hw _ (List.mem_of_getElem? (i := 26) rfl)) (hw _ (List.mem_of_getElem? (i := 25) rfl)) (by decide) (by decide)) q23a q23c (g := (mkF m 34 #[.val (.int p0), .val (.int (3 : Int32)), .val (.ref c3), .val (.int (1 : Int32)), .val (.int (1 : Int32)), .unset] [(.ref w3)])) rfl (by rw [hml]; rfl) (Steps.refl _) (argsL := []) (rest := []) (lenOf pd_2829I rfl) rfl (by show 2 * 0 + _ ≤ _; exact Nat.le_of_eq rfl) (hb hby at_34) (fun _ _ => ⟨rfl, e22, (by decide : 0 + 0 ≤ _), (by decide : 0 + 0 ≤ _)⟩)
    dsimp only [Pt.U, Pt.locs, Pt.cells, Pt.slots] at X23 lz23 yz23 zz23 st23 hQ23
    subst lz23 yz23 zz23
    obtain ⟨rfl, N23q, e23⟩ := hQ23
    have N23 := Fr.app N21 N23q
    refine go (fun _ k => st23.trans k) ?_
    show Run _ _ _ _ _ _ _ T23 (mkF m 37 #[.val (.int p0), .val (.int (3 : Int32)), .val (.ref c3), .val (.int (1 : Int32)), .val (.int (1 : Int32)), .unset] [(.int (1 : Int32))])
    refine go (T' := T23) (f' := (mkF m 40 #[.val (.int p0), .val (.int (3 : Int32)), .val (.ref c3), .val (.int (1 : Int32)), .val (.int (1 : Int32)), .unset] [])) (by intro t k; exact XS.ifNo X23.here hx rfl (hb hby at_37) rfl ((if0 _ _).trans (tlt (by decide : (0 : Int32) < (1 : Int32))).2.2.2) k) ?_
    show Run _ _ _ _ _ _ _ T23 (mkF m 40 #[.val (.int p0), .val (.int (3 : Int32)), .val (.ref c3), .val (.int (1 : Int32)), .val (.int (1 : Int32)), .unset] [])
    refine go (T' := T23) (f' := (mkF m 41 #[.val (.int p0), .val (.int (3 : Int32)), .val (.ref c3), .val (.int (1 : Int32)), .val (.int (1 : Int32)), .unset] [(.ref c3)])) (by intro t k; exact XS.aloadN X23.here hx rfl (hb hby at_40) rfl rfl k) ?_
    show Run _ _ _ _ _ _ _ T23 (mkF m 41 #[.val (.int p0), .val (.int (3 : Int32)), .val (.ref c3), .val (.int (1 : Int32)), .val (.int (1 : Int32)), .unset] [(.ref c3)])
    obtain ⟨T24, X24, e24, st24⟩ := getF X23 hx hZ hown (host := "") (Or.inl (hw _ (List.mem_of_getElem? (i := 19) rfl))) Via.refl e23 (Fld.ext O0.2 W_3) (g := (mkF m 41 #[.val (.int p0), .val (.int (3 : Int32)), .val (.ref c3), .val (.int (1 : Int32)), .val (.int (1 : Int32)), .unset] [(.ref c3)])) rfl rfl (hb hby at_41)
    refine go st24 ?_
    show Run _ _ _ _ _ _ _ T24 (mkF m 44 #[.val (.int p0), .val (.int (3 : Int32)), .val (.ref c3), .val (.int (1 : Int32)), .val (.int (1 : Int32)), .unset] [(.ref w3)])
    refine go (T' := T24) (f' := (mkF m 45 #[.val (.int p0), .val (.int (3 : Int32)), .val (.ref c3), .val (.int (1 : Int32)), .val (.int (1 : Int32)), .unset] [(.int (0 : Int32)), (.ref w3)])) (by intro t k; exact XS.iconst X24.here hx rfl (hb hby at_44) k) ?_
    show Run _ _ _ _ _ _ _ T24 (mkF m 45 #[.val (.int p0), .val (.int (3 : Int32)), .val (.ref c3), .val (.int (1 : Int32)), .val (.int (1 : Int32)), .unset] [(.int (0 : Int32)), (.ref w3)])
    obtain ⟨cq25, kq25, q25a, q25b, q25c⟩ := isOf hZ e24 (Exa.ext O0.2 EW_3)
    obtain ⟨_, _, ⟨T25, Lz25, kz25, nz25⟩, -, X25, ⟨Lc25, hQ25, lz25, yz25, zz25⟩, st25⟩ := X24.virtualBack hx (y := (⟨"java/lang/String", "charAt", "(I)C"⟩ : MethodName)) (z := (⟨"java/lang/String", "charAt", "(I)C"⟩ : MethodName)) hown (mvT hZ (hw _ (List.mem_of_getElem? (i := 37) rfl))) (mvT hZ (hw _ (List.mem_of_getElem? (i := 38) rfl))) (notFace_of_selects (args := #[]) (mvT hZ (hw _ (List.mem_of_getElem? (i := 40) rfl)))) (mvT hZ (hw _ (List.mem_of_getElem? (i := 40) rfl))) (mvT hZ (hw _ (List.mem_of_getElem? (i := 39) rfl))) (by decide) (backOf (W := 0) (rm5 l Z aw hw [] w3 (0 : Int32) cs wf v3 [(.int (82 : Int32))] (1 : Int32) (82 : Int32) (82 : Int32) h0 n0 Z0 O0 S_cs hcs S_sf hwf (Exa.ext O0.2 EW_3) (Fld.ext O0.2 FC_3) (Fld.ext O0.2 FV_3) (Ary.ext A_3 O0.2) rfl (by decide) (by decide) rfl (by decide)) hZ (hw _ (List.mem_of_getElem? (i := 41) rfl)) (hw _ (List.mem_of_getElem? (i := 25) rfl)) (by decide) (by decide)) q25a q25c (g := (mkF m 45 #[.val (.int p0), .val (.int (3 : Int32)), .val (.ref c3), .val (.int (1 : Int32)), .val (.int (1 : Int32)), .unset] [(.int (0 : Int32)), (.ref w3)])) rfl (by rw [hml]; rfl) (Steps.refl _) (argsL := [(.int (0 : Int32))]) (rest := []) (lenOf pd_28I29C rfl) rfl (by show 2 * 0 + _ ≤ _; exact Nat.le_of_eq rfl) (hb hby at_45) (fun _ _ => ⟨rfl, e24, (by decide : 0 + 0 ≤ _), (by decide : 0 + 0 ≤ _)⟩)
    dsimp only [Pt.U, Pt.locs, Pt.cells, Pt.slots] at X25 lz25 yz25 zz25 st25 hQ25
    subst lz25 yz25 zz25
    obtain ⟨rfl, N25q, e25⟩ := hQ25
    have N25 := Fr.app N23 N25q
    refine go (fun _ k => st25.trans k) ?_
    show Run _ _ _ _ _ _ _ T25 (mkF m 48 #[.val (.int p0), .val (.int (3 : Int32)), .val (.ref c3), .val (.int (1 : Int32)), .val (.int (1 : Int32)), .unset] [(.int (82 : Int32))])
    refine go (T' := T25) (f' := (mkF m 50 #[.val (.int p0), .val (.int (3 : Int32)), .val (.ref c3), .val (.int (1 : Int32)), .val (.int (1 : Int32)), .unset] [(.int (82 : Int32)), (.int (82 : Int32))])) (by intro t k; exact XS.bipush X25.here hx rfl (hb hby at_48) k) ?_
    show Run _ _ _ _ _ _ _ T25 (mkF m 50 #[.val (.int p0), .val (.int (3 : Int32)), .val (.ref c3), .val (.int (1 : Int32)), .val (.int (1 : Int32)), .unset] [(.int (82 : Int32)), (.int (82 : Int32))])
    refine go (T' := T25) (f' := (mkF m 53 #[.val (.int p0), .val (.int (3 : Int32)), .val (.ref c3), .val (.int (1 : Int32)), .val (.int (1 : Int32)), .unset] [])) (by intro t k; exact XS.icmpNo X25.here hx rfl (hb hby at_50) rfl (teq (rfl : (82 : Int32) = (82 : Int32))).2 k) ?_
    show Run _ _ _ _ _ _ _ T25 (mkF m 53 #[.val (.int p0), .val (.int (3 : Int32)), .val (.ref c3), .val (.int (1 : Int32)), .val (.int (1 : Int32)), .unset] [])
    refine go (T' := T25) (f' := (mkF m 54 #[.val (.int p0), .val (.int (3 : Int32)), .val (.ref c3), .val (.int (1 : Int32)), .val (.int (1 : Int32)), .unset] [(.int (1 : Int32))])) (by intro t k; exact XS.iconst X25.here hx rfl (hb hby at_53) k) ?_
    show Run _ _ _ _ _ _ _ T25 (mkF m 54 #[.val (.int p0), .val (.int (3 : Int32)), .val (.ref c3), .val (.int (1 : Int32)), .val (.int (1 : Int32)), .unset] [(.int (1 : Int32))])
    refine go (T' := T25) (f' := (mkF m 58 #[.val (.int p0), .val (.int (3 : Int32)), .val (.ref c3), .val (.int (1 : Int32)), .val (.int (1 : Int32)), .unset] [(.int (1 : Int32))])) (by intro t k; exact XS.goto X25.here hx rfl (pc0 := 54) (pc' := 58) rfl (hb hby at_54) (by decide) (by decide) k) ?_
    show Run _ _ _ _ _ _ _ T25 (mkF m 58 #[.val (.int p0), .val (.int (3 : Int32)), .val (.ref c3), .val (.int (1 : Int32)), .val (.int (1 : Int32)), .unset] [(.int (1 : Int32))])
    refine go (T' := T25) (f' := (mkF m 60 #[.val (.int p0), .val (.int (3 : Int32)), .val (.ref c3), .val (.int (1 : Int32)), .val (.int (1 : Int32)), .val (.int (1 : Int32))] [])) (by intro t k; exact XS.istore X25.here hx rfl (hb hby at_58) rfl (l' := #[.val (.int p0), .val (.int (3 : Int32)), .val (.ref c3), .val (.int (1 : Int32)), .val (.int (1 : Int32)), .val (.int (1 : Int32))]) rfl k) ?_
    show Run _ _ _ _ _ _ _ T25 (mkF m 60 #[.val (.int p0), .val (.int (3 : Int32)), .val (.ref c3), .val (.int (1 : Int32)), .val (.int (1 : Int32)), .val (.int (1 : Int32))] [])
    refine go (T' := T25) (f' := (mkF m 61 #[.val (.int p0), .val (.int (3 : Int32)), .val (.ref c3), .val (.int (1 : Int32)), .val (.int (1 : Int32)), .val (.int (1 : Int32))] [(.int (1 : Int32))])) (by intro t k; exact XS.iloadN X25.here hx rfl (hb hby at_60) rfl k) ?_
    show Run _ _ _ _ _ _ _ T25 (mkF m 61 #[.val (.int p0), .val (.int (3 : Int32)), .val (.ref c3), .val (.int (1 : Int32)), .val (.int (1 : Int32)), .val (.int (1 : Int32))] [(.int (1 : Int32))])
    refine go (T' := T25) (f' := (mkF m 63 #[.val (.int p0), .val (.int (3 : Int32)), .val (.ref c3), .val (.int (1 : Int32)), .val (.int (1 : Int32)), .val (.int (1 : Int32))] [(.int (1 : Int32)), (.int (1 : Int32))])) (by intro t k; exact XS.iload X25.here hx rfl (hb hby at_61) rfl k) ?_
    show Run _ _ _ _ _ _ _ T25 (mkF m 63 #[.val (.int p0), .val (.int (3 : Int32)), .val (.ref c3), .val (.int (1 : Int32)), .val (.int (1 : Int32)), .val (.int (1 : Int32))] [(.int (1 : Int32)), (.int (1 : Int32))])
    refine go (T' := T25) (f' := (mkF m 66 #[.val (.int p0), .val (.int (3 : Int32)), .val (.ref c3), .val (.int (1 : Int32)), .val (.int (1 : Int32)), .val (.int (1 : Int32))] [])) (by intro t k; exact XS.icmpNo X25.here hx rfl (hb hby at_63) rfl (teq (rfl : (1 : Int32) = (1 : Int32))).2 k) ?_
    show Run _ _ _ _ _ _ _ T25 (mkF m 66 #[.val (.int p0), .val (.int (3 : Int32)), .val (.ref c3), .val (.int (1 : Int32)), .val (.int (1 : Int32)), .val (.int (1 : Int32))] [])
    refine go (T' := T25) (f' := (mkF m 67 #[.val (.int p0), .val (.int (3 : Int32)), .val (.ref c3), .val (.int (1 : Int32)), .val (.int (1 : Int32)), .val (.int (1 : Int32))] [(.int (1 : Int32))])) (by intro t k; exact XS.iloadN X25.here hx rfl (hb hby at_66) rfl k) ?_
    show Run _ _ _ _ _ _ _ T25 (mkF m 67 #[.val (.int p0), .val (.int (3 : Int32)), .val (.ref c3), .val (.int (1 : Int32)), .val (.int (1 : Int32)), .val (.int (1 : Int32))] [(.int (1 : Int32))])
    refine go (T' := T25) (f' := (mkF m 69 #[.val (.int p0), .val (.int (3 : Int32)), .val (.ref c3), .val (.int (1 : Int32)), .val (.int (1 : Int32)), .val (.int (1 : Int32))] [(.int (1 : Int32)), (.int (1 : Int32))])) (by intro t k; exact XS.iload X25.here hx rfl (hb hby at_67) rfl k) ?_
    show Run _ _ _ _ _ _ _ T25 (mkF m 69 #[.val (.int p0), .val (.int (3 : Int32)), .val (.ref c3), .val (.int (1 : Int32)), .val (.int (1 : Int32)), .val (.int (1 : Int32))] [(.int (1 : Int32)), (.int (1 : Int32))])
    refine go (T' := T25) (f' := (mkF m 72 #[.val (.int p0), .val (.int (3 : Int32)), .val (.ref c3), .val (.int (1 : Int32)), .val (.int (1 : Int32)), .val (.int (1 : Int32))] [])) (by intro t k; exact XS.icmpNo X25.here hx rfl (hb hby at_69) rfl (teq (rfl : (1 : Int32) = (1 : Int32))).2 k) ?_
    show Run _ _ _ _ _ _ _ T25 (mkF m 72 #[.val (.int p0), .val (.int (3 : Int32)), .val (.ref c3), .val (.int (1 : Int32)), .val (.int (1 : Int32)), .val (.int (1 : Int32))] [])
    refine go (T' := T25) (f' := (mkF m 73 #[.val (.int p0), .val (.int (3 : Int32)), .val (.ref c3), .val (.int (1 : Int32)), .val (.int (1 : Int32)), .val (.int (1 : Int32))] [(.int (1 : Int32))])) (by intro t k; exact XS.iconst X25.here hx rfl (hb hby at_72) k) ?_
    show Run _ _ _ _ _ _ _ T25 (mkF m 73 #[.val (.int p0), .val (.int (3 : Int32)), .val (.ref c3), .val (.int (1 : Int32)), .val (.int (1 : Int32)), .val (.int (1 : Int32))] [(.int (1 : Int32))])
    refine go (T' := T25) (f' := (mkF m 77 #[.val (.int p0), .val (.int (3 : Int32)), .val (.ref c3), .val (.int (1 : Int32)), .val (.int (1 : Int32)), .val (.int (1 : Int32))] [(.int (1 : Int32))])) (by intro t k; exact XS.goto X25.here hx rfl (pc0 := 73) (pc' := 77) rfl (hb hby at_73) (by decide) (by decide) k) ?_
    show Run _ _ _ _ _ _ _ T25 (mkF m 77 #[.val (.int p0), .val (.int (3 : Int32)), .val (.ref c3), .val (.int (1 : Int32)), .val (.int (1 : Int32)), .val (.int (1 : Int32))] [(.int (1 : Int32))])
    refine retZ X25 hx (t := .boolean) Bd.returns (by simp) (hb hby at_77) hlk (by decide) (by decide) ?_
    show Q0 Z p0 cs wf c0 w0 v0 c1 w1 v1 c2 w2 v2 c3 w3 v3 c4 w4 v4 c5 w5 v5 h0 n0 _ T25.heap _
    rw [e25]
    have hv' : (nar .boolean (1 : Int32)) = (1 : Int32) := by
      rfl
    have hv : (some (.int (nar .boolean (1 : Int32))) : Option Value) = some (.int (1 : Int32)) := congrArg (fun z => (some (.int z) : Option Value)) hv'
    exact ⟨hv, N25⟩
  · subst ez
    show Run _ _ _ _ _ _ _ s₁ (mkF m 7 #[.val (.int p0), .unset, .unset, .unset, .unset, .unset] [(.int (4 : Int32))])
    refine go (T' := s₁) (f' := (mkF m 8 #[.val (.int p0), .val (.int (4 : Int32)), .unset, .unset, .unset, .unset] [])) (by intro t k; exact XS.istoreN X0.here hx rfl (hb hby at_7) rfl (l' := #[.val (.int p0), .val (.int (4 : Int32)), .unset, .unset, .unset, .unset]) rfl k) ?_
    show Run _ _ _ _ _ _ _ s₁ (mkF m 8 #[.val (.int p0), .val (.int (4 : Int32)), .unset, .unset, .unset, .unset] [])
    refine go (T' := s₁) (f' := (mkF m 9 #[.val (.int p0), .val (.int (4 : Int32)), .unset, .unset, .unset, .unset] [(.int (4 : Int32))])) (by intro t k; exact XS.iloadN X0.here hx rfl (hb hby at_8) rfl k) ?_
    show Run _ _ _ _ _ _ _ s₁ (mkF m 9 #[.val (.int p0), .val (.int (4 : Int32)), .unset, .unset, .unset, .unset] [(.int (4 : Int32))])
    obtain ⟨_, _, ⟨T26, Lz26, kz26, nz26⟩, -, X26, ⟨Lc26, hQ26, lz26, yz26, zz26⟩, st26⟩ := Jvm.LawKit.callS X0 hx (y := (⟨"com/example/petrel/petrel/model/OperatorAsksForRewardPinLaw", "operatorAt", "(I)Lcom/example/petrel/petrel/model/Syntax$Operator;"⟩ : MethodName)) hown (mvT hZ (hw _ (List.mem_of_getElem? (i := 1) rfl))) (mvT hZ (hw _ (List.mem_of_getElem? (i := 2) rfl))) (mvT hZ (hw _ (List.mem_of_getElem? (i := 3) rfl))) (mvT hZ (hw _ (List.mem_of_getElem? (i := 4) rfl))) (by decide) (backOf (W := 0) (rm1k4 l Z aw hw []  c4 h0 n0 Z0 O0 S_4) hZ (hw _ (List.mem_of_getElem? (i := 4) rfl)) (hw _ (List.mem_of_getElem? (i := 3) rfl)) (by decide) (by decide)) (g := (mkF m 9 #[.val (.int p0), .val (.int (4 : Int32)), .unset, .unset, .unset, .unset] [(.int (4 : Int32))])) rfl (by rw [hml]; rfl) (argsL := [(.int (4 : Int32))]) (rest := []) (lenOf pd_28I29Lcom2fexample2fpetrel2fpetrel2fmodel2fSyntax24Operator3b rfl) rfl (by show 2 * 0 + _ ≤ _; exact Nat.le_of_eq rfl) (hb hby at_9) (fun _ _ => ⟨rfl, e0, (by decide : 0 + 0 ≤ _), (by decide : 0 + 0 ≤ _)⟩)
    dsimp only [Pt.U, Pt.locs, Pt.cells, Pt.slots] at X26 lz26 yz26 zz26 st26 hQ26
    subst lz26 yz26 zz26
    obtain ⟨rfl, N26q, e26⟩ := hQ26
    have N26 := Fr.app N0 N26q
    refine go st26 ?_
    show Run _ _ _ _ _ _ _ T26 (mkF m 12 #[.val (.int p0), .val (.int (4 : Int32)), .unset, .unset, .unset, .unset] [(.ref c4)])
    refine go (T' := T26) (f' := (mkF m 13 #[.val (.int p0), .val (.int (4 : Int32)), .val (.ref c4), .unset, .unset, .unset] [])) (by intro t k; exact XS.astoreN X26.here hx rfl (hb hby at_12) rfl rfl (l' := #[.val (.int p0), .val (.int (4 : Int32)), .val (.ref c4), .unset, .unset, .unset]) rfl k) ?_
    show Run _ _ _ _ _ _ _ T26 (mkF m 13 #[.val (.int p0), .val (.int (4 : Int32)), .val (.ref c4), .unset, .unset, .unset] [])
    refine go (T' := T26) (f' := (mkF m 14 #[.val (.int p0), .val (.int (4 : Int32)), .val (.ref c4), .unset, .unset, .unset] [(.ref c4)])) (by intro t k; exact XS.aloadN X26.here hx rfl (hb hby at_13) rfl rfl k) ?_
    show Run _ _ _ _ _ _ _ T26 (mkF m 14 #[.val (.int p0), .val (.int (4 : Int32)), .val (.ref c4), .unset, .unset, .unset] [(.ref c4)])
    obtain ⟨cq27, kq27, q27a, q27b, q27c⟩ := isOf hZ e26 (Exa.ext O0.2 E_4)
    obtain ⟨_, _, ⟨T27, Lz27, kz27, nz27⟩, -, X27, ⟨Lc27, hQ27, lz27, yz27, zz27⟩, st27⟩ := X26.virtualBack hx (y := (⟨"com/example/petrel/petrel/model/Syntax$Operator", "asksForReward", "()Z"⟩ : MethodName)) (z := (⟨"com/example/petrel/petrel/model/Syntax$Operator", "asksForReward", "()Z"⟩ : MethodName)) hown (mvT hZ (hw _ (List.mem_of_getElem? (i := 8) rfl))) (mvT hZ (hw _ (List.mem_of_getElem? (i := 9) rfl))) (notFace_of_selects (args := #[]) (mvT hZ (hw _ (List.mem_of_getElem? (i := 11) rfl)))) (mvT hZ (hw _ (List.mem_of_getElem? (i := 11) rfl))) (mvT hZ (hw _ (List.mem_of_getElem? (i := 10) rfl))) (by decide) (backOf (W := 0) (rm2 l Z aw hw [] c4 c3 c4 c5 (1 : Int32) h0 n0 Z0 O0 S_3 S_4 S_5 ((if_neg (Ne.symm d34)).trans (if_pos rfl))) hZ (hw _ (List.mem_of_getElem? (i := 12) rfl)) (hw _ (List.mem_of_getElem? (i := 6) rfl)) (by decide) (by decide)) q27a q27c (g := (mkF m 14 #[.val (.int p0), .val (.int (4 : Int32)), .val (.ref c4), .unset, .unset, .unset] [(.ref c4)])) rfl (by rw [hml]; rfl) (Steps.refl _) (argsL := []) (rest := []) (lenOf pd_2829Z rfl) rfl (by show 2 * 0 + _ ≤ _; exact Nat.le_of_eq rfl) (hb hby at_14) (fun _ _ => ⟨rfl, e26, (by decide : 0 + 0 ≤ _), (by decide : 0 + 0 ≤ _)⟩)
    dsimp only [Pt.U, Pt.locs, Pt.cells, Pt.slots] at X27 lz27 yz27 zz27 st27 hQ27
    subst lz27 yz27 zz27
    obtain ⟨rfl, N27q, e27⟩ := hQ27
    have N27 := Fr.app N26 N27q
    refine go (fun _ k => st27.trans k) ?_
    show Run _ _ _ _ _ _ _ T27 (mkF m 17 #[.val (.int p0), .val (.int (4 : Int32)), .val (.ref c4), .unset, .unset, .unset] [(.int (1 : Int32))])
    refine go (T' := T27) (f' := (mkF m 18 #[.val (.int p0), .val (.int (4 : Int32)), .val (.ref c4), .val (.int (1 : Int32)), .unset, .unset] [])) (by intro t k; exact XS.istoreN X27.here hx rfl (hb hby at_17) rfl (l' := #[.val (.int p0), .val (.int (4 : Int32)), .val (.ref c4), .val (.int (1 : Int32)), .unset, .unset]) rfl k) ?_
    show Run _ _ _ _ _ _ _ T27 (mkF m 18 #[.val (.int p0), .val (.int (4 : Int32)), .val (.ref c4), .val (.int (1 : Int32)), .unset, .unset] [])
    refine go (T' := T27) (f' := (mkF m 19 #[.val (.int p0), .val (.int (4 : Int32)), .val (.ref c4), .val (.int (1 : Int32)), .unset, .unset] [(.int (4 : Int32))])) (by intro t k; exact XS.iloadN X27.here hx rfl (hb hby at_18) rfl k) ?_
    show Run _ _ _ _ _ _ _ T27 (mkF m 19 #[.val (.int p0), .val (.int (4 : Int32)), .val (.ref c4), .val (.int (1 : Int32)), .unset, .unset] [(.int (4 : Int32))])
    refine go (T' := T27) (f' := (mkF m 20 #[.val (.int p0), .val (.int (4 : Int32)), .val (.ref c4), .val (.int (1 : Int32)), .unset, .unset] [(.int (3 : Int32)), (.int (4 : Int32))])) (by intro t k; exact XS.iconst X27.here hx rfl (hb hby at_19) k) ?_
    show Run _ _ _ _ _ _ _ T27 (mkF m 20 #[.val (.int p0), .val (.int (4 : Int32)), .val (.ref c4), .val (.int (1 : Int32)), .unset, .unset] [(.int (3 : Int32)), (.int (4 : Int32))])
    refine go (T' := T27) (f' := (mkF m 23 #[.val (.int p0), .val (.int (4 : Int32)), .val (.ref c4), .val (.int (1 : Int32)), .unset, .unset] [])) (by intro t k; exact XS.icmpNo X27.here hx rfl (hb hby at_20) rfl (flt (by decide : ¬ ((4 : Int32) < (3 : Int32)))).1 k) ?_
    show Run _ _ _ _ _ _ _ T27 (mkF m 23 #[.val (.int p0), .val (.int (4 : Int32)), .val (.ref c4), .val (.int (1 : Int32)), .unset, .unset] [])
    refine go (T' := T27) (f' := (mkF m 24 #[.val (.int p0), .val (.int (4 : Int32)), .val (.ref c4), .val (.int (1 : Int32)), .unset, .unset] [(.int (1 : Int32))])) (by intro t k; exact XS.iconst X27.here hx rfl (hb hby at_23) k) ?_
    show Run _ _ _ _ _ _ _ T27 (mkF m 24 #[.val (.int p0), .val (.int (4 : Int32)), .val (.ref c4), .val (.int (1 : Int32)), .unset, .unset] [(.int (1 : Int32))])
    refine go (T' := T27) (f' := (mkF m 28 #[.val (.int p0), .val (.int (4 : Int32)), .val (.ref c4), .val (.int (1 : Int32)), .unset, .unset] [(.int (1 : Int32))])) (by intro t k; exact XS.goto X27.here hx rfl (pc0 := 24) (pc' := 28) rfl (hb hby at_24) (by decide) (by decide) k) ?_
    show Run _ _ _ _ _ _ _ T27 (mkF m 28 #[.val (.int p0), .val (.int (4 : Int32)), .val (.ref c4), .val (.int (1 : Int32)), .unset, .unset] [(.int (1 : Int32))])
    refine go (T' := T27) (f' := (mkF m 30 #[.val (.int p0), .val (.int (4 : Int32)), .val (.ref c4), .val (.int (1 : Int32)), .val (.int (1 : Int32)), .unset] [])) (by intro t k; exact XS.istore X27.here hx rfl (hb hby at_28) rfl (l' := #[.val (.int p0), .val (.int (4 : Int32)), .val (.ref c4), .val (.int (1 : Int32)), .val (.int (1 : Int32)), .unset]) rfl k) ?_
    show Run _ _ _ _ _ _ _ T27 (mkF m 30 #[.val (.int p0), .val (.int (4 : Int32)), .val (.ref c4), .val (.int (1 : Int32)), .val (.int (1 : Int32)), .unset] [])
    refine go (T' := T27) (f' := (mkF m 31 #[.val (.int p0), .val (.int (4 : Int32)), .val (.ref c4), .val (.int (1 : Int32)), .val (.int (1 : Int32)), .unset] [(.ref c4)])) (by intro t k; exact XS.aloadN X27.here hx rfl (hb hby at_30) rfl rfl k) ?_
    show Run _ _ _ _ _ _ _ T27 (mkF m 31 #[.val (.int p0), .val (.int (4 : Int32)), .val (.ref c4), .val (.int (1 : Int32)), .val (.int (1 : Int32)), .unset] [(.ref c4)])
    obtain ⟨T28, X28, e28, st28⟩ := getF X27 hx hZ hown (host := "") (Or.inl (hw _ (List.mem_of_getElem? (i := 19) rfl))) Via.refl e27 (Fld.ext O0.2 W_4) (g := (mkF m 31 #[.val (.int p0), .val (.int (4 : Int32)), .val (.ref c4), .val (.int (1 : Int32)), .val (.int (1 : Int32)), .unset] [(.ref c4)])) rfl rfl (hb hby at_31)
    refine go st28 ?_
    show Run _ _ _ _ _ _ _ T28 (mkF m 34 #[.val (.int p0), .val (.int (4 : Int32)), .val (.ref c4), .val (.int (1 : Int32)), .val (.int (1 : Int32)), .unset] [(.ref w4)])
    obtain ⟨cq29, kq29, q29a, q29b, q29c⟩ := isOf hZ e28 (Exa.ext O0.2 EW_4)
    obtain ⟨_, _, ⟨T29, Lz29, kz29, nz29⟩, -, X29, ⟨Lc29, hQ29, lz29, yz29, zz29⟩, st29⟩ := X28.virtualBack hx (y := (⟨"java/lang/String", "length", "()I"⟩ : MethodName)) (z := (⟨"java/lang/String", "length", "()I"⟩ : MethodName)) hown (mvT hZ (hw _ (List.mem_of_getElem? (i := 21) rfl))) (mvT hZ (hw _ (List.mem_of_getElem? (i := 22) rfl))) (notFace_of_selects (args := #[]) (mvT hZ (hw _ (List.mem_of_getElem? (i := 24) rfl)))) (mvT hZ (hw _ (List.mem_of_getElem? (i := 24) rfl))) (mvT hZ (hw _ (List.mem_of_getElem? (i := 23) rfl))) (by decide) (backOf (W := 0) (rm3 l Z aw hw [] w4 cs v4 [(.int (82 : Int32)), (.int (109 : Int32)), (.int (97 : Int32)), (.int (120 : Int32))] (4 : Int32) h0 n0 Z0 O0 S_cs hcs (Exa.ext O0.2 EW_4) (Fld.ext O0.2 FC_4) (Fld.ext O0.2 FV_4) (Ary.ext A_4 O0.2) rfl) hZ (hw _ (List.mem_of_getElem? (i := 26) rfl)) (hw _ (List.mem_of_getElem? (i := 25) rfl)) (by decide) (by decide)) q29a q29c (g := (mkF m 34 #[.val (.int p0), .val (.int (4 : Int32)), .val (.ref c4), .val (.int (1 : Int32)), .val (.int (1 : Int32)), .unset] [(.ref w4)])) rfl (by rw [hml]; rfl) (Steps.refl _) (argsL := []) (rest := []) (lenOf pd_2829I rfl) rfl (by show 2 * 0 + _ ≤ _; exact Nat.le_of_eq rfl) (hb hby at_34) (fun _ _ => ⟨rfl, e28, (by decide : 0 + 0 ≤ _), (by decide : 0 + 0 ≤ _)⟩)
    dsimp only [Pt.U, Pt.locs, Pt.cells, Pt.slots] at X29 lz29 yz29 zz29 st29 hQ29
    subst lz29 yz29 zz29
    obtain ⟨rfl, N29q, e29⟩ := hQ29
    have N29 := Fr.app N27 N29q
    refine go (fun _ k => st29.trans k) ?_
    show Run _ _ _ _ _ _ _ T29 (mkF m 37 #[.val (.int p0), .val (.int (4 : Int32)), .val (.ref c4), .val (.int (1 : Int32)), .val (.int (1 : Int32)), .unset] [(.int (4 : Int32))])
    refine go (T' := T29) (f' := (mkF m 40 #[.val (.int p0), .val (.int (4 : Int32)), .val (.ref c4), .val (.int (1 : Int32)), .val (.int (1 : Int32)), .unset] [])) (by intro t k; exact XS.ifNo X29.here hx rfl (hb hby at_37) rfl ((if0 _ _).trans (tlt (by decide : (0 : Int32) < (4 : Int32))).2.2.2) k) ?_
    show Run _ _ _ _ _ _ _ T29 (mkF m 40 #[.val (.int p0), .val (.int (4 : Int32)), .val (.ref c4), .val (.int (1 : Int32)), .val (.int (1 : Int32)), .unset] [])
    refine go (T' := T29) (f' := (mkF m 41 #[.val (.int p0), .val (.int (4 : Int32)), .val (.ref c4), .val (.int (1 : Int32)), .val (.int (1 : Int32)), .unset] [(.ref c4)])) (by intro t k; exact XS.aloadN X29.here hx rfl (hb hby at_40) rfl rfl k) ?_
    show Run _ _ _ _ _ _ _ T29 (mkF m 41 #[.val (.int p0), .val (.int (4 : Int32)), .val (.ref c4), .val (.int (1 : Int32)), .val (.int (1 : Int32)), .unset] [(.ref c4)])
    obtain ⟨T30, X30, e30, st30⟩ := getF X29 hx hZ hown (host := "") (Or.inl (hw _ (List.mem_of_getElem? (i := 19) rfl))) Via.refl e29 (Fld.ext O0.2 W_4) (g := (mkF m 41 #[.val (.int p0), .val (.int (4 : Int32)), .val (.ref c4), .val (.int (1 : Int32)), .val (.int (1 : Int32)), .unset] [(.ref c4)])) rfl rfl (hb hby at_41)
    refine go st30 ?_
    show Run _ _ _ _ _ _ _ T30 (mkF m 44 #[.val (.int p0), .val (.int (4 : Int32)), .val (.ref c4), .val (.int (1 : Int32)), .val (.int (1 : Int32)), .unset] [(.ref w4)])
    refine go (T' := T30) (f' := (mkF m 45 #[.val (.int p0), .val (.int (4 : Int32)), .val (.ref c4), .val (.int (1 : Int32)), .val (.int (1 : Int32)), .unset] [(.int (0 : Int32)), (.ref w4)])) (by intro t k; exact XS.iconst X30.here hx rfl (hb hby at_44) k) ?_
    show Run _ _ _ _ _ _ _ T30 (mkF m 45 #[.val (.int p0), .val (.int (4 : Int32)), .val (.ref c4), .val (.int (1 : Int32)), .val (.int (1 : Int32)), .unset] [(.int (0 : Int32)), (.ref w4)])
    obtain ⟨cq31, kq31, q31a, q31b, q31c⟩ := isOf hZ e30 (Exa.ext O0.2 EW_4)
    obtain ⟨_, _, ⟨T31, Lz31, kz31, nz31⟩, -, X31, ⟨Lc31, hQ31, lz31, yz31, zz31⟩, st31⟩ := X30.virtualBack hx (y := (⟨"java/lang/String", "charAt", "(I)C"⟩ : MethodName)) (z := (⟨"java/lang/String", "charAt", "(I)C"⟩ : MethodName)) hown (mvT hZ (hw _ (List.mem_of_getElem? (i := 37) rfl))) (mvT hZ (hw _ (List.mem_of_getElem? (i := 38) rfl))) (notFace_of_selects (args := #[]) (mvT hZ (hw _ (List.mem_of_getElem? (i := 40) rfl)))) (mvT hZ (hw _ (List.mem_of_getElem? (i := 40) rfl))) (mvT hZ (hw _ (List.mem_of_getElem? (i := 39) rfl))) (by decide) (backOf (W := 0) (rm5 l Z aw hw [] w4 (0 : Int32) cs wf v4 [(.int (82 : Int32)), (.int (109 : Int32)), (.int (97 : Int32)), (.int (120 : Int32))] (4 : Int32) (82 : Int32) (82 : Int32) h0 n0 Z0 O0 S_cs hcs S_sf hwf (Exa.ext O0.2 EW_4) (Fld.ext O0.2 FC_4) (Fld.ext O0.2 FV_4) (Ary.ext A_4 O0.2) rfl (by decide) (by decide) rfl (by decide)) hZ (hw _ (List.mem_of_getElem? (i := 41) rfl)) (hw _ (List.mem_of_getElem? (i := 25) rfl)) (by decide) (by decide)) q31a q31c (g := (mkF m 45 #[.val (.int p0), .val (.int (4 : Int32)), .val (.ref c4), .val (.int (1 : Int32)), .val (.int (1 : Int32)), .unset] [(.int (0 : Int32)), (.ref w4)])) rfl (by rw [hml]; rfl) (Steps.refl _) (argsL := [(.int (0 : Int32))]) (rest := []) (lenOf pd_28I29C rfl) rfl (by show 2 * 0 + _ ≤ _; exact Nat.le_of_eq rfl) (hb hby at_45) (fun _ _ => ⟨rfl, e30, (by decide : 0 + 0 ≤ _), (by decide : 0 + 0 ≤ _)⟩)
    dsimp only [Pt.U, Pt.locs, Pt.cells, Pt.slots] at X31 lz31 yz31 zz31 st31 hQ31
    subst lz31 yz31 zz31
    obtain ⟨rfl, N31q, e31⟩ := hQ31
    have N31 := Fr.app N29 N31q
    refine go (fun _ k => st31.trans k) ?_
    show Run _ _ _ _ _ _ _ T31 (mkF m 48 #[.val (.int p0), .val (.int (4 : Int32)), .val (.ref c4), .val (.int (1 : Int32)), .val (.int (1 : Int32)), .unset] [(.int (82 : Int32))])
    refine go (T' := T31) (f' := (mkF m 50 #[.val (.int p0), .val (.int (4 : Int32)), .val (.ref c4), .val (.int (1 : Int32)), .val (.int (1 : Int32)), .unset] [(.int (82 : Int32)), (.int (82 : Int32))])) (by intro t k; exact XS.bipush X31.here hx rfl (hb hby at_48) k) ?_
    show Run _ _ _ _ _ _ _ T31 (mkF m 50 #[.val (.int p0), .val (.int (4 : Int32)), .val (.ref c4), .val (.int (1 : Int32)), .val (.int (1 : Int32)), .unset] [(.int (82 : Int32)), (.int (82 : Int32))])
    refine go (T' := T31) (f' := (mkF m 53 #[.val (.int p0), .val (.int (4 : Int32)), .val (.ref c4), .val (.int (1 : Int32)), .val (.int (1 : Int32)), .unset] [])) (by intro t k; exact XS.icmpNo X31.here hx rfl (hb hby at_50) rfl (teq (rfl : (82 : Int32) = (82 : Int32))).2 k) ?_
    show Run _ _ _ _ _ _ _ T31 (mkF m 53 #[.val (.int p0), .val (.int (4 : Int32)), .val (.ref c4), .val (.int (1 : Int32)), .val (.int (1 : Int32)), .unset] [])
    refine go (T' := T31) (f' := (mkF m 54 #[.val (.int p0), .val (.int (4 : Int32)), .val (.ref c4), .val (.int (1 : Int32)), .val (.int (1 : Int32)), .unset] [(.int (1 : Int32))])) (by intro t k; exact XS.iconst X31.here hx rfl (hb hby at_53) k) ?_
    show Run _ _ _ _ _ _ _ T31 (mkF m 54 #[.val (.int p0), .val (.int (4 : Int32)), .val (.ref c4), .val (.int (1 : Int32)), .val (.int (1 : Int32)), .unset] [(.int (1 : Int32))])
    refine go (T' := T31) (f' := (mkF m 58 #[.val (.int p0), .val (.int (4 : Int32)), .val (.ref c4), .val (.int (1 : Int32)), .val (.int (1 : Int32)), .unset] [(.int (1 : Int32))])) (by intro t k; exact XS.goto X31.here hx rfl (pc0 := 54) (pc' := 58) rfl (hb hby at_54) (by decide) (by decide) k) ?_
    show Run _ _ _ _ _ _ _ T31 (mkF m 58 #[.val (.int p0), .val (.int (4 : Int32)), .val (.ref c4), .val (.int (1 : Int32)), .val (.int (1 : Int32)), .unset] [(.int (1 : Int32))])
    refine go (T' := T31) (f' := (mkF m 60 #[.val (.int p0), .val (.int (4 : Int32)), .val (.ref c4), .val (.int (1 : Int32)), .val (.int (1 : Int32)), .val (.int (1 : Int32))] [])) (by intro t k; exact XS.istore X31.here hx rfl (hb hby at_58) rfl (l' := #[.val (.int p0), .val (.int (4 : Int32)), .val (.ref c4), .val (.int (1 : Int32)), .val (.int (1 : Int32)), .val (.int (1 : Int32))]) rfl k) ?_
    show Run _ _ _ _ _ _ _ T31 (mkF m 60 #[.val (.int p0), .val (.int (4 : Int32)), .val (.ref c4), .val (.int (1 : Int32)), .val (.int (1 : Int32)), .val (.int (1 : Int32))] [])
    refine go (T' := T31) (f' := (mkF m 61 #[.val (.int p0), .val (.int (4 : Int32)), .val (.ref c4), .val (.int (1 : Int32)), .val (.int (1 : Int32)), .val (.int (1 : Int32))] [(.int (1 : Int32))])) (by intro t k; exact XS.iloadN X31.here hx rfl (hb hby at_60) rfl k) ?_
    show Run _ _ _ _ _ _ _ T31 (mkF m 61 #[.val (.int p0), .val (.int (4 : Int32)), .val (.ref c4), .val (.int (1 : Int32)), .val (.int (1 : Int32)), .val (.int (1 : Int32))] [(.int (1 : Int32))])
    refine go (T' := T31) (f' := (mkF m 63 #[.val (.int p0), .val (.int (4 : Int32)), .val (.ref c4), .val (.int (1 : Int32)), .val (.int (1 : Int32)), .val (.int (1 : Int32))] [(.int (1 : Int32)), (.int (1 : Int32))])) (by intro t k; exact XS.iload X31.here hx rfl (hb hby at_61) rfl k) ?_
    show Run _ _ _ _ _ _ _ T31 (mkF m 63 #[.val (.int p0), .val (.int (4 : Int32)), .val (.ref c4), .val (.int (1 : Int32)), .val (.int (1 : Int32)), .val (.int (1 : Int32))] [(.int (1 : Int32)), (.int (1 : Int32))])
    refine go (T' := T31) (f' := (mkF m 66 #[.val (.int p0), .val (.int (4 : Int32)), .val (.ref c4), .val (.int (1 : Int32)), .val (.int (1 : Int32)), .val (.int (1 : Int32))] [])) (by intro t k; exact XS.icmpNo X31.here hx rfl (hb hby at_63) rfl (teq (rfl : (1 : Int32) = (1 : Int32))).2 k) ?_
    show Run _ _ _ _ _ _ _ T31 (mkF m 66 #[.val (.int p0), .val (.int (4 : Int32)), .val (.ref c4), .val (.int (1 : Int32)), .val (.int (1 : Int32)), .val (.int (1 : Int32))] [])
    refine go (T' := T31) (f' := (mkF m 67 #[.val (.int p0), .val (.int (4 : Int32)), .val (.ref c4), .val (.int (1 : Int32)), .val (.int (1 : Int32)), .val (.int (1 : Int32))] [(.int (1 : Int32))])) (by intro t k; exact XS.iloadN X31.here hx rfl (hb hby at_66) rfl k) ?_
    show Run _ _ _ _ _ _ _ T31 (mkF m 67 #[.val (.int p0), .val (.int (4 : Int32)), .val (.ref c4), .val (.int (1 : Int32)), .val (.int (1 : Int32)), .val (.int (1 : Int32))] [(.int (1 : Int32))])
    refine go (T' := T31) (f' := (mkF m 69 #[.val (.int p0), .val (.int (4 : Int32)), .val (.ref c4), .val (.int (1 : Int32)), .val (.int (1 : Int32)), .val (.int (1 : Int32))] [(.int (1 : Int32)), (.int (1 : Int32))])) (by intro t k; exact XS.iload X31.here hx rfl (hb hby at_67) rfl k) ?_
    show Run _ _ _ _ _ _ _ T31 (mkF m 69 #[.val (.int p0), .val (.int (4 : Int32)), .val (.ref c4), .val (.int (1 : Int32)), .val (.int (1 : Int32)), .val (.int (1 : Int32))] [(.int (1 : Int32)), (.int (1 : Int32))])
    refine go (T' := T31) (f' := (mkF m 72 #[.val (.int p0), .val (.int (4 : Int32)), .val (.ref c4), .val (.int (1 : Int32)), .val (.int (1 : Int32)), .val (.int (1 : Int32))] [])) (by intro t k; exact XS.icmpNo X31.here hx rfl (hb hby at_69) rfl (teq (rfl : (1 : Int32) = (1 : Int32))).2 k) ?_
    show Run _ _ _ _ _ _ _ T31 (mkF m 72 #[.val (.int p0), .val (.int (4 : Int32)), .val (.ref c4), .val (.int (1 : Int32)), .val (.int (1 : Int32)), .val (.int (1 : Int32))] [])
    refine go (T' := T31) (f' := (mkF m 73 #[.val (.int p0), .val (.int (4 : Int32)), .val (.ref c4), .val (.int (1 : Int32)), .val (.int (1 : Int32)), .val (.int (1 : Int32))] [(.int (1 : Int32))])) (by intro t k; exact XS.iconst X31.here hx rfl (hb hby at_72) k) ?_
    show Run _ _ _ _ _ _ _ T31 (mkF m 73 #[.val (.int p0), .val (.int (4 : Int32)), .val (.ref c4), .val (.int (1 : Int32)), .val (.int (1 : Int32)), .val (.int (1 : Int32))] [(.int (1 : Int32))])
    refine go (T' := T31) (f' := (mkF m 77 #[.val (.int p0), .val (.int (4 : Int32)), .val (.ref c4), .val (.int (1 : Int32)), .val (.int (1 : Int32)), .val (.int (1 : Int32))] [(.int (1 : Int32))])) (by intro t k; exact XS.goto X31.here hx rfl (pc0 := 73) (pc' := 77) rfl (hb hby at_73) (by decide) (by decide) k) ?_
    show Run _ _ _ _ _ _ _ T31 (mkF m 77 #[.val (.int p0), .val (.int (4 : Int32)), .val (.ref c4), .val (.int (1 : Int32)), .val (.int (1 : Int32)), .val (.int (1 : Int32))] [(.int (1 : Int32))])
    refine retZ X31 hx (t := .boolean) Bd.returns (by simp) (hb hby at_77) hlk (by decide) (by decide) ?_
    show Q0 Z p0 cs wf c0 w0 v0 c1 w1 v1 c2 w2 v2 c3 w3 v3 c4 w4 v4 c5 w5 v5 h0 n0 _ T31.heap _
    rw [e31]
    have hv' : (nar .boolean (1 : Int32)) = (1 : Int32) := by
      rfl
    have hv : (some (.int (nar .boolean (1 : Int32))) : Option Value) = some (.int (1 : Int32)) := congrArg (fun z => (some (.int z) : Option Value)) hv'
    exact ⟨hv, N31⟩
  · subst ez
    show Run _ _ _ _ _ _ _ s₁ (mkF m 7 #[.val (.int p0), .unset, .unset, .unset, .unset, .unset] [(.int (5 : Int32))])
    refine go (T' := s₁) (f' := (mkF m 8 #[.val (.int p0), .val (.int (5 : Int32)), .unset, .unset, .unset, .unset] [])) (by intro t k; exact XS.istoreN X0.here hx rfl (hb hby at_7) rfl (l' := #[.val (.int p0), .val (.int (5 : Int32)), .unset, .unset, .unset, .unset]) rfl k) ?_
    show Run _ _ _ _ _ _ _ s₁ (mkF m 8 #[.val (.int p0), .val (.int (5 : Int32)), .unset, .unset, .unset, .unset] [])
    refine go (T' := s₁) (f' := (mkF m 9 #[.val (.int p0), .val (.int (5 : Int32)), .unset, .unset, .unset, .unset] [(.int (5 : Int32))])) (by intro t k; exact XS.iloadN X0.here hx rfl (hb hby at_8) rfl k) ?_
    show Run _ _ _ _ _ _ _ s₁ (mkF m 9 #[.val (.int p0), .val (.int (5 : Int32)), .unset, .unset, .unset, .unset] [(.int (5 : Int32))])
    obtain ⟨_, _, ⟨T32, Lz32, kz32, nz32⟩, -, X32, ⟨Lc32, hQ32, lz32, yz32, zz32⟩, st32⟩ := Jvm.LawKit.callS X0 hx (y := (⟨"com/example/petrel/petrel/model/OperatorAsksForRewardPinLaw", "operatorAt", "(I)Lcom/example/petrel/petrel/model/Syntax$Operator;"⟩ : MethodName)) hown (mvT hZ (hw _ (List.mem_of_getElem? (i := 1) rfl))) (mvT hZ (hw _ (List.mem_of_getElem? (i := 2) rfl))) (mvT hZ (hw _ (List.mem_of_getElem? (i := 3) rfl))) (mvT hZ (hw _ (List.mem_of_getElem? (i := 4) rfl))) (by decide) (backOf (W := 0) (rm1k5 l Z aw hw []  c5 h0 n0 Z0 O0 S_5) hZ (hw _ (List.mem_of_getElem? (i := 4) rfl)) (hw _ (List.mem_of_getElem? (i := 3) rfl)) (by decide) (by decide)) (g := (mkF m 9 #[.val (.int p0), .val (.int (5 : Int32)), .unset, .unset, .unset, .unset] [(.int (5 : Int32))])) rfl (by rw [hml]; rfl) (argsL := [(.int (5 : Int32))]) (rest := []) (lenOf pd_28I29Lcom2fexample2fpetrel2fpetrel2fmodel2fSyntax24Operator3b rfl) rfl (by show 2 * 0 + _ ≤ _; exact Nat.le_of_eq rfl) (hb hby at_9) (fun _ _ => ⟨rfl, e0, (by decide : 0 + 0 ≤ _), (by decide : 0 + 0 ≤ _)⟩)
    dsimp only [Pt.U, Pt.locs, Pt.cells, Pt.slots] at X32 lz32 yz32 zz32 st32 hQ32
    subst lz32 yz32 zz32
    obtain ⟨rfl, N32q, e32⟩ := hQ32
    have N32 := Fr.app N0 N32q
    refine go st32 ?_
    show Run _ _ _ _ _ _ _ T32 (mkF m 12 #[.val (.int p0), .val (.int (5 : Int32)), .unset, .unset, .unset, .unset] [(.ref c5)])
    refine go (T' := T32) (f' := (mkF m 13 #[.val (.int p0), .val (.int (5 : Int32)), .val (.ref c5), .unset, .unset, .unset] [])) (by intro t k; exact XS.astoreN X32.here hx rfl (hb hby at_12) rfl rfl (l' := #[.val (.int p0), .val (.int (5 : Int32)), .val (.ref c5), .unset, .unset, .unset]) rfl k) ?_
    show Run _ _ _ _ _ _ _ T32 (mkF m 13 #[.val (.int p0), .val (.int (5 : Int32)), .val (.ref c5), .unset, .unset, .unset] [])
    refine go (T' := T32) (f' := (mkF m 14 #[.val (.int p0), .val (.int (5 : Int32)), .val (.ref c5), .unset, .unset, .unset] [(.ref c5)])) (by intro t k; exact XS.aloadN X32.here hx rfl (hb hby at_13) rfl rfl k) ?_
    show Run _ _ _ _ _ _ _ T32 (mkF m 14 #[.val (.int p0), .val (.int (5 : Int32)), .val (.ref c5), .unset, .unset, .unset] [(.ref c5)])
    obtain ⟨cq33, kq33, q33a, q33b, q33c⟩ := isOf hZ e32 (Exa.ext O0.2 E_5)
    obtain ⟨_, _, ⟨T33, Lz33, kz33, nz33⟩, -, X33, ⟨Lc33, hQ33, lz33, yz33, zz33⟩, st33⟩ := X32.virtualBack hx (y := (⟨"com/example/petrel/petrel/model/Syntax$Operator", "asksForReward", "()Z"⟩ : MethodName)) (z := (⟨"com/example/petrel/petrel/model/Syntax$Operator", "asksForReward", "()Z"⟩ : MethodName)) hown (mvT hZ (hw _ (List.mem_of_getElem? (i := 8) rfl))) (mvT hZ (hw _ (List.mem_of_getElem? (i := 9) rfl))) (notFace_of_selects (args := #[]) (mvT hZ (hw _ (List.mem_of_getElem? (i := 11) rfl)))) (mvT hZ (hw _ (List.mem_of_getElem? (i := 11) rfl))) (mvT hZ (hw _ (List.mem_of_getElem? (i := 10) rfl))) (by decide) (backOf (W := 0) (rm2 l Z aw hw [] c5 c3 c4 c5 (1 : Int32) h0 n0 Z0 O0 S_3 S_4 S_5 ((if_neg (Ne.symm d35)).trans ((if_neg (Ne.symm d45)).trans (if_pos rfl)))) hZ (hw _ (List.mem_of_getElem? (i := 12) rfl)) (hw _ (List.mem_of_getElem? (i := 6) rfl)) (by decide) (by decide)) q33a q33c (g := (mkF m 14 #[.val (.int p0), .val (.int (5 : Int32)), .val (.ref c5), .unset, .unset, .unset] [(.ref c5)])) rfl (by rw [hml]; rfl) (Steps.refl _) (argsL := []) (rest := []) (lenOf pd_2829Z rfl) rfl (by show 2 * 0 + _ ≤ _; exact Nat.le_of_eq rfl) (hb hby at_14) (fun _ _ => ⟨rfl, e32, (by decide : 0 + 0 ≤ _), (by decide : 0 + 0 ≤ _)⟩)
    dsimp only [Pt.U, Pt.locs, Pt.cells, Pt.slots] at X33 lz33 yz33 zz33 st33 hQ33
    subst lz33 yz33 zz33
    obtain ⟨rfl, N33q, e33⟩ := hQ33
    have N33 := Fr.app N32 N33q
    refine go (fun _ k => st33.trans k) ?_
    show Run _ _ _ _ _ _ _ T33 (mkF m 17 #[.val (.int p0), .val (.int (5 : Int32)), .val (.ref c5), .unset, .unset, .unset] [(.int (1 : Int32))])
    refine go (T' := T33) (f' := (mkF m 18 #[.val (.int p0), .val (.int (5 : Int32)), .val (.ref c5), .val (.int (1 : Int32)), .unset, .unset] [])) (by intro t k; exact XS.istoreN X33.here hx rfl (hb hby at_17) rfl (l' := #[.val (.int p0), .val (.int (5 : Int32)), .val (.ref c5), .val (.int (1 : Int32)), .unset, .unset]) rfl k) ?_
    show Run _ _ _ _ _ _ _ T33 (mkF m 18 #[.val (.int p0), .val (.int (5 : Int32)), .val (.ref c5), .val (.int (1 : Int32)), .unset, .unset] [])
    refine go (T' := T33) (f' := (mkF m 19 #[.val (.int p0), .val (.int (5 : Int32)), .val (.ref c5), .val (.int (1 : Int32)), .unset, .unset] [(.int (5 : Int32))])) (by intro t k; exact XS.iloadN X33.here hx rfl (hb hby at_18) rfl k) ?_
    show Run _ _ _ _ _ _ _ T33 (mkF m 19 #[.val (.int p0), .val (.int (5 : Int32)), .val (.ref c5), .val (.int (1 : Int32)), .unset, .unset] [(.int (5 : Int32))])
    refine go (T' := T33) (f' := (mkF m 20 #[.val (.int p0), .val (.int (5 : Int32)), .val (.ref c5), .val (.int (1 : Int32)), .unset, .unset] [(.int (3 : Int32)), (.int (5 : Int32))])) (by intro t k; exact XS.iconst X33.here hx rfl (hb hby at_19) k) ?_
    show Run _ _ _ _ _ _ _ T33 (mkF m 20 #[.val (.int p0), .val (.int (5 : Int32)), .val (.ref c5), .val (.int (1 : Int32)), .unset, .unset] [(.int (3 : Int32)), (.int (5 : Int32))])
    refine go (T' := T33) (f' := (mkF m 23 #[.val (.int p0), .val (.int (5 : Int32)), .val (.ref c5), .val (.int (1 : Int32)), .unset, .unset] [])) (by intro t k; exact XS.icmpNo X33.here hx rfl (hb hby at_20) rfl (flt (by decide : ¬ ((5 : Int32) < (3 : Int32)))).1 k) ?_
    show Run _ _ _ _ _ _ _ T33 (mkF m 23 #[.val (.int p0), .val (.int (5 : Int32)), .val (.ref c5), .val (.int (1 : Int32)), .unset, .unset] [])
    refine go (T' := T33) (f' := (mkF m 24 #[.val (.int p0), .val (.int (5 : Int32)), .val (.ref c5), .val (.int (1 : Int32)), .unset, .unset] [(.int (1 : Int32))])) (by intro t k; exact XS.iconst X33.here hx rfl (hb hby at_23) k) ?_
    show Run _ _ _ _ _ _ _ T33 (mkF m 24 #[.val (.int p0), .val (.int (5 : Int32)), .val (.ref c5), .val (.int (1 : Int32)), .unset, .unset] [(.int (1 : Int32))])
    refine go (T' := T33) (f' := (mkF m 28 #[.val (.int p0), .val (.int (5 : Int32)), .val (.ref c5), .val (.int (1 : Int32)), .unset, .unset] [(.int (1 : Int32))])) (by intro t k; exact XS.goto X33.here hx rfl (pc0 := 24) (pc' := 28) rfl (hb hby at_24) (by decide) (by decide) k) ?_
    show Run _ _ _ _ _ _ _ T33 (mkF m 28 #[.val (.int p0), .val (.int (5 : Int32)), .val (.ref c5), .val (.int (1 : Int32)), .unset, .unset] [(.int (1 : Int32))])
    refine go (T' := T33) (f' := (mkF m 30 #[.val (.int p0), .val (.int (5 : Int32)), .val (.ref c5), .val (.int (1 : Int32)), .val (.int (1 : Int32)), .unset] [])) (by intro t k; exact XS.istore X33.here hx rfl (hb hby at_28) rfl (l' := #[.val (.int p0), .val (.int (5 : Int32)), .val (.ref c5), .val (.int (1 : Int32)), .val (.int (1 : Int32)), .unset]) rfl k) ?_
    show Run _ _ _ _ _ _ _ T33 (mkF m 30 #[.val (.int p0), .val (.int (5 : Int32)), .val (.ref c5), .val (.int (1 : Int32)), .val (.int (1 : Int32)), .unset] [])
    refine go (T' := T33) (f' := (mkF m 31 #[.val (.int p0), .val (.int (5 : Int32)), .val (.ref c5), .val (.int (1 : Int32)), .val (.int (1 : Int32)), .unset] [(.ref c5)])) (by intro t k; exact XS.aloadN X33.here hx rfl (hb hby at_30) rfl rfl k) ?_
    show Run _ _ _ _ _ _ _ T33 (mkF m 31 #[.val (.int p0), .val (.int (5 : Int32)), .val (.ref c5), .val (.int (1 : Int32)), .val (.int (1 : Int32)), .unset] [(.ref c5)])
    obtain ⟨T34, X34, e34, st34⟩ := getF X33 hx hZ hown (host := "") (Or.inl (hw _ (List.mem_of_getElem? (i := 19) rfl))) Via.refl e33 (Fld.ext O0.2 W_5) (g := (mkF m 31 #[.val (.int p0), .val (.int (5 : Int32)), .val (.ref c5), .val (.int (1 : Int32)), .val (.int (1 : Int32)), .unset] [(.ref c5)])) rfl rfl (hb hby at_31)
    refine go st34 ?_
    show Run _ _ _ _ _ _ _ T34 (mkF m 34 #[.val (.int p0), .val (.int (5 : Int32)), .val (.ref c5), .val (.int (1 : Int32)), .val (.int (1 : Int32)), .unset] [(.ref w5)])
    obtain ⟨cq35, kq35, q35a, q35b, q35c⟩ := isOf hZ e34 (Exa.ext O0.2 EW_5)
    obtain ⟨_, _, ⟨T35, Lz35, kz35, nz35⟩, -, X35, ⟨Lc35, hQ35, lz35, yz35, zz35⟩, st35⟩ := X34.virtualBack hx (y := (⟨"java/lang/String", "length", "()I"⟩ : MethodName)) (z := (⟨"java/lang/String", "length", "()I"⟩ : MethodName)) hown (mvT hZ (hw _ (List.mem_of_getElem? (i := 21) rfl))) (mvT hZ (hw _ (List.mem_of_getElem? (i := 22) rfl))) (notFace_of_selects (args := #[]) (mvT hZ (hw _ (List.mem_of_getElem? (i := 24) rfl)))) (mvT hZ (hw _ (List.mem_of_getElem? (i := 24) rfl))) (mvT hZ (hw _ (List.mem_of_getElem? (i := 23) rfl))) (by decide) (backOf (W := 0) (rm3 l Z aw hw [] w5 cs v5 [(.int (82 : Int32)), (.int (109 : Int32)), (.int (105 : Int32)), (.int (110 : Int32))] (4 : Int32) h0 n0 Z0 O0 S_cs hcs (Exa.ext O0.2 EW_5) (Fld.ext O0.2 FC_5) (Fld.ext O0.2 FV_5) (Ary.ext A_5 O0.2) rfl) hZ (hw _ (List.mem_of_getElem? (i := 26) rfl)) (hw _ (List.mem_of_getElem? (i := 25) rfl)) (by decide) (by decide)) q35a q35c (g := (mkF m 34 #[.val (.int p0), .val (.int (5 : Int32)), .val (.ref c5), .val (.int (1 : Int32)), .val (.int (1 : Int32)), .unset] [(.ref w5)])) rfl (by rw [hml]; rfl) (Steps.refl _) (argsL := []) (rest := []) (lenOf pd_2829I rfl) rfl (by show 2 * 0 + _ ≤ _; exact Nat.le_of_eq rfl) (hb hby at_34) (fun _ _ => ⟨rfl, e34, (by decide : 0 + 0 ≤ _), (by decide : 0 + 0 ≤ _)⟩)
    dsimp only [Pt.U, Pt.locs, Pt.cells, Pt.slots] at X35 lz35 yz35 zz35 st35 hQ35
    subst lz35 yz35 zz35
    obtain ⟨rfl, N35q, e35⟩ := hQ35
    have N35 := Fr.app N33 N35q
    refine go (fun _ k => st35.trans k) ?_
    show Run _ _ _ _ _ _ _ T35 (mkF m 37 #[.val (.int p0), .val (.int (5 : Int32)), .val (.ref c5), .val (.int (1 : Int32)), .val (.int (1 : Int32)), .unset] [(.int (4 : Int32))])
    refine go (T' := T35) (f' := (mkF m 40 #[.val (.int p0), .val (.int (5 : Int32)), .val (.ref c5), .val (.int (1 : Int32)), .val (.int (1 : Int32)), .unset] [])) (by intro t k; exact XS.ifNo X35.here hx rfl (hb hby at_37) rfl ((if0 _ _).trans (tlt (by decide : (0 : Int32) < (4 : Int32))).2.2.2) k) ?_
    show Run _ _ _ _ _ _ _ T35 (mkF m 40 #[.val (.int p0), .val (.int (5 : Int32)), .val (.ref c5), .val (.int (1 : Int32)), .val (.int (1 : Int32)), .unset] [])
    refine go (T' := T35) (f' := (mkF m 41 #[.val (.int p0), .val (.int (5 : Int32)), .val (.ref c5), .val (.int (1 : Int32)), .val (.int (1 : Int32)), .unset] [(.ref c5)])) (by intro t k; exact XS.aloadN X35.here hx rfl (hb hby at_40) rfl rfl k) ?_
    show Run _ _ _ _ _ _ _ T35 (mkF m 41 #[.val (.int p0), .val (.int (5 : Int32)), .val (.ref c5), .val (.int (1 : Int32)), .val (.int (1 : Int32)), .unset] [(.ref c5)])
    obtain ⟨T36, X36, e36, st36⟩ := getF X35 hx hZ hown (host := "") (Or.inl (hw _ (List.mem_of_getElem? (i := 19) rfl))) Via.refl e35 (Fld.ext O0.2 W_5) (g := (mkF m 41 #[.val (.int p0), .val (.int (5 : Int32)), .val (.ref c5), .val (.int (1 : Int32)), .val (.int (1 : Int32)), .unset] [(.ref c5)])) rfl rfl (hb hby at_41)
    refine go st36 ?_
    show Run _ _ _ _ _ _ _ T36 (mkF m 44 #[.val (.int p0), .val (.int (5 : Int32)), .val (.ref c5), .val (.int (1 : Int32)), .val (.int (1 : Int32)), .unset] [(.ref w5)])
    refine go (T' := T36) (f' := (mkF m 45 #[.val (.int p0), .val (.int (5 : Int32)), .val (.ref c5), .val (.int (1 : Int32)), .val (.int (1 : Int32)), .unset] [(.int (0 : Int32)), (.ref w5)])) (by intro t k; exact XS.iconst X36.here hx rfl (hb hby at_44) k) ?_
    show Run _ _ _ _ _ _ _ T36 (mkF m 45 #[.val (.int p0), .val (.int (5 : Int32)), .val (.ref c5), .val (.int (1 : Int32)), .val (.int (1 : Int32)), .unset] [(.int (0 : Int32)), (.ref w5)])
    obtain ⟨cq37, kq37, q37a, q37b, q37c⟩ := isOf hZ e36 (Exa.ext O0.2 EW_5)
    obtain ⟨_, _, ⟨T37, Lz37, kz37, nz37⟩, -, X37, ⟨Lc37, hQ37, lz37, yz37, zz37⟩, st37⟩ := X36.virtualBack hx (y := (⟨"java/lang/String", "charAt", "(I)C"⟩ : MethodName)) (z := (⟨"java/lang/String", "charAt", "(I)C"⟩ : MethodName)) hown (mvT hZ (hw _ (List.mem_of_getElem? (i := 37) rfl))) (mvT hZ (hw _ (List.mem_of_getElem? (i := 38) rfl))) (notFace_of_selects (args := #[]) (mvT hZ (hw _ (List.mem_of_getElem? (i := 40) rfl)))) (mvT hZ (hw _ (List.mem_of_getElem? (i := 40) rfl))) (mvT hZ (hw _ (List.mem_of_getElem? (i := 39) rfl))) (by decide) (backOf (W := 0) (rm5 l Z aw hw [] w5 (0 : Int32) cs wf v5 [(.int (82 : Int32)), (.int (109 : Int32)), (.int (105 : Int32)), (.int (110 : Int32))] (4 : Int32) (82 : Int32) (82 : Int32) h0 n0 Z0 O0 S_cs hcs S_sf hwf (Exa.ext O0.2 EW_5) (Fld.ext O0.2 FC_5) (Fld.ext O0.2 FV_5) (Ary.ext A_5 O0.2) rfl (by decide) (by decide) rfl (by decide)) hZ (hw _ (List.mem_of_getElem? (i := 41) rfl)) (hw _ (List.mem_of_getElem? (i := 25) rfl)) (by decide) (by decide)) q37a q37c (g := (mkF m 45 #[.val (.int p0), .val (.int (5 : Int32)), .val (.ref c5), .val (.int (1 : Int32)), .val (.int (1 : Int32)), .unset] [(.int (0 : Int32)), (.ref w5)])) rfl (by rw [hml]; rfl) (Steps.refl _) (argsL := [(.int (0 : Int32))]) (rest := []) (lenOf pd_28I29C rfl) rfl (by show 2 * 0 + _ ≤ _; exact Nat.le_of_eq rfl) (hb hby at_45) (fun _ _ => ⟨rfl, e36, (by decide : 0 + 0 ≤ _), (by decide : 0 + 0 ≤ _)⟩)
    dsimp only [Pt.U, Pt.locs, Pt.cells, Pt.slots] at X37 lz37 yz37 zz37 st37 hQ37
    subst lz37 yz37 zz37
    obtain ⟨rfl, N37q, e37⟩ := hQ37
    have N37 := Fr.app N35 N37q
    refine go (fun _ k => st37.trans k) ?_
    show Run _ _ _ _ _ _ _ T37 (mkF m 48 #[.val (.int p0), .val (.int (5 : Int32)), .val (.ref c5), .val (.int (1 : Int32)), .val (.int (1 : Int32)), .unset] [(.int (82 : Int32))])
    refine go (T' := T37) (f' := (mkF m 50 #[.val (.int p0), .val (.int (5 : Int32)), .val (.ref c5), .val (.int (1 : Int32)), .val (.int (1 : Int32)), .unset] [(.int (82 : Int32)), (.int (82 : Int32))])) (by intro t k; exact XS.bipush X37.here hx rfl (hb hby at_48) k) ?_
    show Run _ _ _ _ _ _ _ T37 (mkF m 50 #[.val (.int p0), .val (.int (5 : Int32)), .val (.ref c5), .val (.int (1 : Int32)), .val (.int (1 : Int32)), .unset] [(.int (82 : Int32)), (.int (82 : Int32))])
    refine go (T' := T37) (f' := (mkF m 53 #[.val (.int p0), .val (.int (5 : Int32)), .val (.ref c5), .val (.int (1 : Int32)), .val (.int (1 : Int32)), .unset] [])) (by intro t k; exact XS.icmpNo X37.here hx rfl (hb hby at_50) rfl (teq (rfl : (82 : Int32) = (82 : Int32))).2 k) ?_
    show Run _ _ _ _ _ _ _ T37 (mkF m 53 #[.val (.int p0), .val (.int (5 : Int32)), .val (.ref c5), .val (.int (1 : Int32)), .val (.int (1 : Int32)), .unset] [])
    refine go (T' := T37) (f' := (mkF m 54 #[.val (.int p0), .val (.int (5 : Int32)), .val (.ref c5), .val (.int (1 : Int32)), .val (.int (1 : Int32)), .unset] [(.int (1 : Int32))])) (by intro t k; exact XS.iconst X37.here hx rfl (hb hby at_53) k) ?_
    show Run _ _ _ _ _ _ _ T37 (mkF m 54 #[.val (.int p0), .val (.int (5 : Int32)), .val (.ref c5), .val (.int (1 : Int32)), .val (.int (1 : Int32)), .unset] [(.int (1 : Int32))])
    refine go (T' := T37) (f' := (mkF m 58 #[.val (.int p0), .val (.int (5 : Int32)), .val (.ref c5), .val (.int (1 : Int32)), .val (.int (1 : Int32)), .unset] [(.int (1 : Int32))])) (by intro t k; exact XS.goto X37.here hx rfl (pc0 := 54) (pc' := 58) rfl (hb hby at_54) (by decide) (by decide) k) ?_
    show Run _ _ _ _ _ _ _ T37 (mkF m 58 #[.val (.int p0), .val (.int (5 : Int32)), .val (.ref c5), .val (.int (1 : Int32)), .val (.int (1 : Int32)), .unset] [(.int (1 : Int32))])
    refine go (T' := T37) (f' := (mkF m 60 #[.val (.int p0), .val (.int (5 : Int32)), .val (.ref c5), .val (.int (1 : Int32)), .val (.int (1 : Int32)), .val (.int (1 : Int32))] [])) (by intro t k; exact XS.istore X37.here hx rfl (hb hby at_58) rfl (l' := #[.val (.int p0), .val (.int (5 : Int32)), .val (.ref c5), .val (.int (1 : Int32)), .val (.int (1 : Int32)), .val (.int (1 : Int32))]) rfl k) ?_
    show Run _ _ _ _ _ _ _ T37 (mkF m 60 #[.val (.int p0), .val (.int (5 : Int32)), .val (.ref c5), .val (.int (1 : Int32)), .val (.int (1 : Int32)), .val (.int (1 : Int32))] [])
    refine go (T' := T37) (f' := (mkF m 61 #[.val (.int p0), .val (.int (5 : Int32)), .val (.ref c5), .val (.int (1 : Int32)), .val (.int (1 : Int32)), .val (.int (1 : Int32))] [(.int (1 : Int32))])) (by intro t k; exact XS.iloadN X37.here hx rfl (hb hby at_60) rfl k) ?_
    show Run _ _ _ _ _ _ _ T37 (mkF m 61 #[.val (.int p0), .val (.int (5 : Int32)), .val (.ref c5), .val (.int (1 : Int32)), .val (.int (1 : Int32)), .val (.int (1 : Int32))] [(.int (1 : Int32))])
    refine go (T' := T37) (f' := (mkF m 63 #[.val (.int p0), .val (.int (5 : Int32)), .val (.ref c5), .val (.int (1 : Int32)), .val (.int (1 : Int32)), .val (.int (1 : Int32))] [(.int (1 : Int32)), (.int (1 : Int32))])) (by intro t k; exact XS.iload X37.here hx rfl (hb hby at_61) rfl k) ?_
    show Run _ _ _ _ _ _ _ T37 (mkF m 63 #[.val (.int p0), .val (.int (5 : Int32)), .val (.ref c5), .val (.int (1 : Int32)), .val (.int (1 : Int32)), .val (.int (1 : Int32))] [(.int (1 : Int32)), (.int (1 : Int32))])
    refine go (T' := T37) (f' := (mkF m 66 #[.val (.int p0), .val (.int (5 : Int32)), .val (.ref c5), .val (.int (1 : Int32)), .val (.int (1 : Int32)), .val (.int (1 : Int32))] [])) (by intro t k; exact XS.icmpNo X37.here hx rfl (hb hby at_63) rfl (teq (rfl : (1 : Int32) = (1 : Int32))).2 k) ?_
    show Run _ _ _ _ _ _ _ T37 (mkF m 66 #[.val (.int p0), .val (.int (5 : Int32)), .val (.ref c5), .val (.int (1 : Int32)), .val (.int (1 : Int32)), .val (.int (1 : Int32))] [])
    refine go (T' := T37) (f' := (mkF m 67 #[.val (.int p0), .val (.int (5 : Int32)), .val (.ref c5), .val (.int (1 : Int32)), .val (.int (1 : Int32)), .val (.int (1 : Int32))] [(.int (1 : Int32))])) (by intro t k; exact XS.iloadN X37.here hx rfl (hb hby at_66) rfl k) ?_
    show Run _ _ _ _ _ _ _ T37 (mkF m 67 #[.val (.int p0), .val (.int (5 : Int32)), .val (.ref c5), .val (.int (1 : Int32)), .val (.int (1 : Int32)), .val (.int (1 : Int32))] [(.int (1 : Int32))])
    refine go (T' := T37) (f' := (mkF m 69 #[.val (.int p0), .val (.int (5 : Int32)), .val (.ref c5), .val (.int (1 : Int32)), .val (.int (1 : Int32)), .val (.int (1 : Int32))] [(.int (1 : Int32)), (.int (1 : Int32))])) (by intro t k; exact XS.iload X37.here hx rfl (hb hby at_67) rfl k) ?_
    show Run _ _ _ _ _ _ _ T37 (mkF m 69 #[.val (.int p0), .val (.int (5 : Int32)), .val (.ref c5), .val (.int (1 : Int32)), .val (.int (1 : Int32)), .val (.int (1 : Int32))] [(.int (1 : Int32)), (.int (1 : Int32))])
    refine go (T' := T37) (f' := (mkF m 72 #[.val (.int p0), .val (.int (5 : Int32)), .val (.ref c5), .val (.int (1 : Int32)), .val (.int (1 : Int32)), .val (.int (1 : Int32))] [])) (by intro t k; exact XS.icmpNo X37.here hx rfl (hb hby at_69) rfl (teq (rfl : (1 : Int32) = (1 : Int32))).2 k) ?_
    show Run _ _ _ _ _ _ _ T37 (mkF m 72 #[.val (.int p0), .val (.int (5 : Int32)), .val (.ref c5), .val (.int (1 : Int32)), .val (.int (1 : Int32)), .val (.int (1 : Int32))] [])
    refine go (T' := T37) (f' := (mkF m 73 #[.val (.int p0), .val (.int (5 : Int32)), .val (.ref c5), .val (.int (1 : Int32)), .val (.int (1 : Int32)), .val (.int (1 : Int32))] [(.int (1 : Int32))])) (by intro t k; exact XS.iconst X37.here hx rfl (hb hby at_72) k) ?_
    show Run _ _ _ _ _ _ _ T37 (mkF m 73 #[.val (.int p0), .val (.int (5 : Int32)), .val (.ref c5), .val (.int (1 : Int32)), .val (.int (1 : Int32)), .val (.int (1 : Int32))] [(.int (1 : Int32))])
    refine go (T' := T37) (f' := (mkF m 77 #[.val (.int p0), .val (.int (5 : Int32)), .val (.ref c5), .val (.int (1 : Int32)), .val (.int (1 : Int32)), .val (.int (1 : Int32))] [(.int (1 : Int32))])) (by intro t k; exact XS.goto X37.here hx rfl (pc0 := 73) (pc' := 77) rfl (hb hby at_73) (by decide) (by decide) k) ?_
    show Run _ _ _ _ _ _ _ T37 (mkF m 77 #[.val (.int p0), .val (.int (5 : Int32)), .val (.ref c5), .val (.int (1 : Int32)), .val (.int (1 : Int32)), .val (.int (1 : Int32))] [(.int (1 : Int32))])
    refine retZ X37 hx (t := .boolean) Bd.returns (by simp) (hb hby at_77) hlk (by decide) (by decide) ?_
    show Q0 Z p0 cs wf c0 w0 v0 c1 w1 v1 c2 w2 v2 c3 w3 v3 c4 w4 v4 c5 w5 v5 h0 n0 _ T37.heap _
    rw [e37]
    have hv' : (nar .boolean (1 : Int32)) = (1 : Int32) := by
      rfl
    have hv : (some (.int (nar .boolean (1 : Int32))) : Option Value) = some (.int (1 : Int32)) := congrArg (fun z => (some (.int z) : Option Value)) hv'
    exact ⟨hv, N37⟩
theorem own_ne0 {args : Array Value} {s : State} {t : Term} {x : Int32} (e : t.eval args s none [] s = some (.int x)) (h : (Jvm.Cond.not (Jvm.Cond.eq t (Jvm.Term.int (0 : Int32)))).value args s none s [] = some true) : ¬ (x = (0 : Int32)) := fun q => by
  have := not_v h
  simp [Cond.value, Term.eval, e, q] at this
set_option maxRecDepth 65536 in
set_option maxHeartbeats 40000000 in
theorem comes_1 {Post : Tables → Env → Array Value → State → Outcome → State → Prop} (hpost : ∀ tb e args s v u, (limb_1_1.after args s (.returned v) u = true ∧ limb_1_2.after args s (.returned v) u = true ∧ True) → FrameEnd s (.returned v) u (Jvm.fieldLocs frame_1_writes args s ++ Jvm.arrayLocs frame_1_arrays args s ++ Jvm.staticLocs frame_1_statics s) 0 0 → Post tb e args s (.returned v) u) :
    ArmFor flags0 classFile x code maxLocals ret World_1 tables_1 room_1 Calls_1 rest_1 Pre_1 Post := by
  intro l hfl _ _ p e ha hc hk s m args below hf hA hF happ hP
  obtain ⟨hcalls, hrest, hpre⟩ := hP
  obtain ⟨-, -, -, hnamed, -, -, -, hat⟩ := (Spec.applies_iff hf).mp happ
  obtain ⟨hg, hn⟩ := and_e (Cond.before_iff.mp (show (Jvm.Cond.and given_1 narrow_1).before args s = true from hpre))
  obtain ⟨g1, g2⟩ := and_e hg
  obtain ⟨w0, rfl⟩ : ∃ w0 : Value, args = #[w0] := by
    have hs : args.size = 1 := by simpa [Cond.value, given_1] using g1
    obtain ⟨L⟩ := args
    match L, hs with
    | [w0], _ => exact ⟨w0, rfl⟩
  have hw := fun d (hd : d ∈ tables_1) => atoms_spec (ws := Jvm.Cond.code x code maxLocals ret :: tables_1) hat d (List.mem_cons_of_mem _ hd)
  have hfit : Fit s := fun {y c} hc i hi => by
    obtain ⟨ha, rfl⟩ := Array.getElem?_eq_some_iff.mp hc
    have q := List.all_eq_true.mp ((Array.all_eq_true_iff_forall_mem.mp hF) _ (Array.getElem_mem ha)) i (List.mem_range.mpr hi)
    simpa [Array.getElem?_eq_getElem hi] using q
  obtain ⟨hsets, hown0⟩ := atoms_of _ (rest_1_c_eq ▸ (show rest_1_c.before _ s = true from hrest))
  have hr0 := Cond.before_iff.mp hown0
  obtain ⟨i0, ei0⟩ := is_v g2
  obtain rfl : w0 = (.int i0) := Option.some.inj ei0
  obtain ⟨n0, m0⟩ := and_e hn
  obtain ⟨n1, m1⟩ := and_e m0
  obtain ⟨n2, m2⟩ := and_e m1
  obtain ⟨n3, m3⟩ := and_e m2
  obtain ⟨n4, m4⟩ := and_e m3
  obtain ⟨n5, m5⟩ := and_e m4
  obtain ⟨n6, m6⟩ := and_e m5
  obtain ⟨n7, m7⟩ := and_e m6
  obtain ⟨n8, m8⟩ := and_e m7
  obtain ⟨n9, m9⟩ := and_e m8
  obtain ⟨n10, m10⟩ := and_e m9
  obtain ⟨n11, m11⟩ := and_e m10
  obtain ⟨n12, m12⟩ := and_e m11
  obtain ⟨n13, m13⟩ := and_e m12
  obtain ⟨n14, m14⟩ := and_e m13
  obtain ⟨n15, m15⟩ := and_e m14
  obtain ⟨n16, m16⟩ := and_e m15
  obtain ⟨n17, m17⟩ := and_e m16
  obtain ⟨n18, m18⟩ := and_e m17
  obtain ⟨n19, m19⟩ := and_e m18
  obtain ⟨n20, m20⟩ := and_e m19
  obtain ⟨n21, m21⟩ := and_e m20
  obtain ⟨n22, m22⟩ := and_e m21
  obtain ⟨n23, m23⟩ := and_e m22
  obtain ⟨n24, m24⟩ := and_e m23
  obtain ⟨n25, m25⟩ := and_e m24
  obtain ⟨n26, m26⟩ := and_e m25
  obtain ⟨n27, m27⟩ := and_e m26
  obtain ⟨n28, m28⟩ := and_e m27
  obtain ⟨n29, m29⟩ := and_e m28
  obtain ⟨n30, m30⟩ := and_e m29
  obtain ⟨n31, m31⟩ := and_e m30
  obtain ⟨n32, m32⟩ := and_e m31
  obtain ⟨n33, m33⟩ := and_e m32
  obtain ⟨n34, m34⟩ := and_e m33
  obtain ⟨n35, m35⟩ := and_e m34
  obtain ⟨n36, m36⟩ := and_e m35
  obtain ⟨n37, m37⟩ := and_e m36
  obtain ⟨n38, m38⟩ := and_e m37
  obtain ⟨n39, m39⟩ := and_e m38
  obtain ⟨n40, m40⟩ := and_e m39
  obtain ⟨n41, m41⟩ := and_e m40
  obtain ⟨n42, m42⟩ := and_e m41
  obtain ⟨n43, m43⟩ := and_e m42
  obtain ⟨n44, m44⟩ := and_e m43
  obtain ⟨n45, m45⟩ := and_e m44
  obtain ⟨n46, m46⟩ := and_e m45
  obtain ⟨n47, m47⟩ := and_e m46
  obtain ⟨n48, m48⟩ := and_e m47
  obtain ⟨n49, m49⟩ := and_e m48
  obtain ⟨n50, m50⟩ := and_e m49
  obtain ⟨n51, m51⟩ := and_e m50
  obtain ⟨n52, m52⟩ := and_e m51
  have n53 := m52
  obtain ⟨cs, ecs⟩ := is_v (Cond.before_iff.mp (hsets _ (List.mem_of_getElem? (i := 1) rfl)))
  have S_cs := Sta.start ecs (Or.inl (hsets _ (List.mem_of_getElem? (i := 0) rfl)))
  have hcs : ¬ (cs = (0 : Int32)) := own_ne0 ecs (Cond.before_iff.mp (hsets _ (List.mem_of_getElem? (i := 2) rfl)))
  obtain ⟨wf, ewf, hwf⟩ := isR_v (Cond.before_iff.mp (hsets _ (List.mem_of_getElem? (i := 8) rfl)))
  have S_sf := Sta.start ewf (Or.inl (hsets _ (List.mem_of_getElem? (i := 7) rfl)))
  obtain ⟨c0, ev0⟩ := exa_v n0
  have E_0 := Exa.start ev0 n0
  have S_0 := Sta.start ev0 (Or.inr ⟨(hw _ (List.mem_of_getElem? (i := 6) rfl)), (hw _ (List.mem_of_getElem? (i := 7) rfl))⟩)
  have R_0 := Fld.start ((fld_at ev0).symm.trans (eqi_v n2))
  obtain ⟨w0, ew0⟩ := exa_v n8
  have EW_0 := Exa.start ew0 n8
  have W_0 := Fld.start ((fld_at ev0).symm.trans ew0)
  obtain ⟨v0, el0⟩ := arr_v n9
  have FV_0 := Fld.start ((fld_at ew0).symm.trans el0)
  have FC_0 := Fld.start ((fld_at ew0).symm.trans (eqi_v n11))
  have A_0 : Ary s s.heap v0 .byte [(.int (80 : Int32))] := ary_start hfit el0 n9 n10 rfl (by decide) (fun j hj => by
    match j, hj with
    | 0, _ => exact eqi_v n12)
  obtain ⟨c1, ev1⟩ := exa_v n25
  have E_1 := Exa.start ev1 n25
  have S_1 := Sta.start ev1 (Or.inr ⟨(hw _ (List.mem_of_getElem? (i := 6) rfl)), (hw _ (List.mem_of_getElem? (i := 63) rfl))⟩)
  have R_1 := Fld.start ((fld_at ev1).symm.trans (eqi_v n26))
  obtain ⟨w1, ew1⟩ := exa_v n27
  have EW_1 := Exa.start ew1 n27
  have W_1 := Fld.start ((fld_at ev1).symm.trans ew1)
  obtain ⟨v1, el1⟩ := arr_v n28
  have FV_1 := Fld.start ((fld_at ew1).symm.trans el1)
  have FC_1 := Fld.start ((fld_at ew1).symm.trans (eqi_v n30))
  have A_1 : Ary s s.heap v1 .byte [(.int (80 : Int32)), (.int (109 : Int32)), (.int (97 : Int32)), (.int (120 : Int32))] := ary_start hfit el1 n28 n29 rfl (by decide) (fun j hj => by
    match j, hj with
    | 0, _ => exact eqi_v n31
    | 1, _ => exact eqi_v n45
    | 2, _ => exact eqi_v n46
    | 3, _ => exact eqi_v n47)
  obtain ⟨c2, ev2⟩ := exa_v n18
  have E_2 := Exa.start ev2 n18
  have S_2 := Sta.start ev2 (Or.inr ⟨(hw _ (List.mem_of_getElem? (i := 6) rfl)), (hw _ (List.mem_of_getElem? (i := 61) rfl))⟩)
  have R_2 := Fld.start ((fld_at ev2).symm.trans (eqi_v n19))
  obtain ⟨w2, ew2⟩ := exa_v n20
  have EW_2 := Exa.start ew2 n20
  have W_2 := Fld.start ((fld_at ev2).symm.trans ew2)
  obtain ⟨v2, el2⟩ := arr_v n21
  have FV_2 := Fld.start ((fld_at ew2).symm.trans el2)
  have FC_2 := Fld.start ((fld_at ew2).symm.trans (eqi_v n23))
  have A_2 : Ary s s.heap v2 .byte [(.int (80 : Int32)), (.int (109 : Int32)), (.int (105 : Int32)), (.int (110 : Int32))] := ary_start hfit el2 n21 n22 rfl (by decide) (fun j hj => by
    match j, hj with
    | 0, _ => exact eqi_v n24
    | 1, _ => exact eqi_v n42
    | 2, _ => exact eqi_v n43
    | 3, _ => exact eqi_v n44)
  obtain ⟨c3, ev3⟩ := exa_v n1
  have E_3 := Exa.start ev3 n1
  have S_3 := Sta.start ev3 (Or.inr ⟨(hw _ (List.mem_of_getElem? (i := 6) rfl)), (hw _ (List.mem_of_getElem? (i := 14) rfl))⟩)
  have R_3 := Fld.start ((fld_at ev3).symm.trans (eqi_v n3))
  obtain ⟨w3, ew3⟩ := exa_v n13
  have EW_3 := Exa.start ew3 n13
  have W_3 := Fld.start ((fld_at ev3).symm.trans ew3)
  obtain ⟨v3, el3⟩ := arr_v n14
  have FV_3 := Fld.start ((fld_at ew3).symm.trans el3)
  have FC_3 := Fld.start ((fld_at ew3).symm.trans (eqi_v n16))
  have A_3 : Ary s s.heap v3 .byte [(.int (82 : Int32))] := ary_start hfit el3 n14 n15 rfl (by decide) (fun j hj => by
    match j, hj with
    | 0, _ => exact eqi_v n17)
  obtain ⟨c4, ev4⟩ := exa_v n4
  have E_4 := Exa.start ev4 n4
  have S_4 := Sta.start ev4 (Or.inr ⟨(hw _ (List.mem_of_getElem? (i := 6) rfl)), (hw _ (List.mem_of_getElem? (i := 16) rfl))⟩)
  have R_4 := Fld.start ((fld_at ev4).symm.trans (eqi_v n5))
  obtain ⟨w4, ew4⟩ := exa_v n37
  have EW_4 := Exa.start ew4 n37
  have W_4 := Fld.start ((fld_at ev4).symm.trans ew4)
  obtain ⟨v4, el4⟩ := arr_v n38
  have FV_4 := Fld.start ((fld_at ew4).symm.trans el4)
  have FC_4 := Fld.start ((fld_at ew4).symm.trans (eqi_v n40))
  have A_4 : Ary s s.heap v4 .byte [(.int (82 : Int32)), (.int (109 : Int32)), (.int (97 : Int32)), (.int (120 : Int32))] := ary_start hfit el4 n38 n39 rfl (by decide) (fun j hj => by
    match j, hj with
    | 0, _ => exact eqi_v n41
    | 1, _ => exact eqi_v n51
    | 2, _ => exact eqi_v n52
    | 3, _ => exact eqi_v n53)
  obtain ⟨c5, ev5⟩ := exa_v n6
  have E_5 := Exa.start ev5 n6
  have S_5 := Sta.start ev5 (Or.inr ⟨(hw _ (List.mem_of_getElem? (i := 6) rfl)), (hw _ (List.mem_of_getElem? (i := 18) rfl))⟩)
  have R_5 := Fld.start ((fld_at ev5).symm.trans (eqi_v n7))
  obtain ⟨w5, ew5⟩ := exa_v n32
  have EW_5 := Exa.start ew5 n32
  have W_5 := Fld.start ((fld_at ev5).symm.trans ew5)
  obtain ⟨v5, el5⟩ := arr_v n33
  have FV_5 := Fld.start ((fld_at ew5).symm.trans el5)
  have FC_5 := Fld.start ((fld_at ew5).symm.trans (eqi_v n35))
  have A_5 : Ary s s.heap v5 .byte [(.int (82 : Int32)), (.int (109 : Int32)), (.int (105 : Int32)), (.int (110 : Int32))] := ary_start hfit el5 n33 n34 rfl (by decide) (fun j hj => by
    match j, hj with
    | 0, _ => exact eqi_v n36
    | 1, _ => exact eqi_v n48
    | 2, _ => exact eqi_v n49
    | 3, _ => exact eqi_v n50)
  obtain ⟨n, o, h1, h2, h3, _, L, rfl, ⟨rfl, N⟩, hq⟩ := rm0 l s _ hw tables_1 i0 cs wf c0 w0 v0 c1 w1 v1 c2 w2 v2 c3 w3 v3 c4 w4 v4 c5 w5 v5 s.heap s.heap.size (Nat.le_refl _) (Old.start s) S_cs hcs S_sf hwf S_0 E_0 W_0 EW_0 FV_0 FC_0 A_0 S_1 E_1 W_1 EW_1 FV_1 FC_1 A_1 S_2 E_2 W_2 EW_2 FV_2 FC_2 A_2 S_3 E_3 W_3 EW_3 FV_3 FC_3 A_3 S_4 E_4 W_4 EW_4 FV_4 FC_4 A_4 S_5 E_5 W_5 EW_5 FV_5 FC_5 A_5 (Fld.ne R_0 R_1 (by decide)) (Fld.ne R_0 R_2 (by decide)) (Fld.ne R_0 R_3 (by decide)) (Fld.ne R_0 R_4 (by decide)) (Fld.ne R_0 R_5 (by decide)) (Fld.ne R_1 R_2 (by decide)) (Fld.ne R_1 R_3 (by decide)) (Fld.ne R_1 R_4 (by decide)) (Fld.ne R_1 R_5 (by decide)) (Fld.ne R_2 R_3 (by decide)) (Fld.ne R_2 R_4 (by decide)) (Fld.ne R_2 R_5 (by decide)) (Fld.ne R_3 R_4 (by decide)) (Fld.ne R_3 R_5 (by decide)) (Fld.ne R_4 R_5 (by decide)) p e ha hc hk s m _ below hf ((Spec.applies_iff_loose hf).mp happ).1 ⟨rfl, State.Warmed39.refl s, rfl⟩ trivial
  refine ⟨n, _, h1, h2, h3, hpost _ _ _ _ _ _ ⟨Cond.after_iff.mpr rfl, Cond.after_iff.mpr (eq_i res_at (Term.int_eval (1)) rfl), trivial⟩ ⟨hq.1, hq.2.1, (hq.2.2.sift fun y hy => Or.inr (N y hy)).mono (by decide) (by decide)⟩⟩
theorem main_1_1 : Claimed_1_1 := comes_1 fun _ _ _ _ _ _ h hF => ⟨h.1, hF⟩
theorem main_1_2 : Claimed_1_2 := comes_1 fun _ _ _ _ _ _ h hF => ⟨h.2.1, hF⟩
end Jvm.Pilot.@@N@@
namespace Jvm.Pilot.@@N@@
open Jvm Jvm.ClassFile Sem Op Lib Jvm.Free Jvm.Stand Jvm.Pilot.@@N@@.Jvm.D
/-! MADE BY PROGRAM (witnessworld.py) out of the Statement's table words and the real class files: 18 classes; the members and pool entries that the words name. The judged class is class 1, her method 1. -/
namespace start1
open Jvm.ClassFile
def u (s : String) : CpInfo := .utf8 (stringToUtf16 s)
/-- a pool by its gaps: so many unusable entries, then the entry; so many at the end -/
def gap : Nat → List CpInfo → List CpInfo
  | 0, r => r
  | n + 1, r => .unusable :: gap n r
def poolList (es : List (Nat × CpInfo)) (last : Nat) : List CpInfo := es.foldr (fun e r => gap e.1 (e.2 :: r)) (gap last [])
def pool (es : List (Nat × CpInfo)) (last : Nat) : Array CpInfo := ⟨poolList es last⟩
def fileOf (pool : Array CpInfo) (this : Nat) (attrs : Array Attribute := #[]) (ms : Array MethodInfo := #[]) (fl : Nat := 33) (sup : Nat := 0) (ifs : Array Nat := #[]) (fds : Array FieldInfo := #[]) : ClassFile where
  minorVersion := 0
  majorVersion := 65
  constantPool := pool
  accessFlags := fl
  thisClass := this
  superClass := sup
  interfaces := ifs
  fields := fds
  methods := ms
  attributes := attrs
def plain (name : String) (sup : Option ClassId) : Class where
  name := name
  kind := .ordinary
  loader := none
  accessFlags := 33
  super := sup
  interfaces := #[]
  cf := none
  fields := #[]
  methods := #[]
  instanceTypes := #[]
  staticTypes := #[]
  resolved := #[]
  callSites := []
  init := .initialized
  statics := none
  mirror := none

def pool0 : Array CpInfo := pool [(5, u "<init>"), (0, u "()V"), (1, .class_ 10), (1, u "java/lang/Object")] 113

def k0m0 : Method := { name := "<init>", desc := "()V", sig := { parameters := [], returnType := none }, accessFlags := 1, code := none }
/-- java/lang/Object -/
def k0 : Class := { plain "java/lang/Object" none with
  accessFlags := 33
  interfaces := #[]
  cf := some (fileOf pool0 8 #[] #[{ accessFlags := 1, nameIndex := 5, descriptorIndex := 6, attributes := #[] }] 33 0 #[] #[])
  fields := #[]
  methods := #[k0m0]
  instanceTypes := #[]
  staticTypes := #[]
  resolved := Array.replicate 124 none
  statics := none }

def pool1 : Array CpInfo := pool [(2, .class_ 4), (1, u "java/lang/Object"), (0, u "<init>"), (0, u "()V"), (0, .integer 2147483647), (0, .methodref 9 10), (0, .class_ 11), (0, .nameAndType 12 13), (0, u "com/example/petrel/petrel/model/OperatorAsksForRewardPinLaw"), (0, u "operatorAt"), (0, u "(I)Lcom/example/petrel/petrel/model/Syntax$Operator;"), (0, .methodref 15 16), (0, .class_ 17), (0, .nameAndType 18 19), (0, u "com/example/petrel/petrel/model/Syntax$Operator"), (0, u "asksForReward"), (0, u "()Z"), (0, .fieldref 15 21), (0, .nameAndType 22 23), (0, u "word"), (0, u "Ljava/lang/String;"), (0, .methodref 25 26), (0, .class_ 27), (0, .nameAndType 28 29), (0, u "java/lang/String"), (0, u "length"), (0, u "()I"), (0, .methodref 25 31), (0, .nameAndType 32 33), (0, u "charAt"), (0, u "(I)C"), (0, .fieldref 15 35), (0, .nameAndType 36 37), (0, u "P"), (0, u "Lcom/example/petrel/petrel/model/Syntax$Operator;"), (0, .fieldref 15 39), (0, .nameAndType 40 37), (0, u "PMAX"), (0, .fieldref 15 42), (0, .nameAndType 43 37), (0, u "PMIN"), (0, .fieldref 15 45), (0, .nameAndType 46 37), (0, u "R"), (0, .fieldref 15 48), (0, .nameAndType 49 37), (0, u "RMAX"), (0, .fieldref 15 51), (0, .nameAndType 52 37), (0, u "RMIN"), (2, u "law"), (0, u "(I)Z")] 7

def k1m0 : Method := { name := "<init>", desc := "()V", sig := { parameters := [], returnType := none }, accessFlags := 2, code := none }
def k1c1 : Code := { maxStack := 2, maxLocals := 6, code := code, exceptionTable := #[], attributes := #[] }
def k1m1 : Method := { name := "law", desc := "(I)Z", sig := { parameters := [.int], returnType := some .boolean }, accessFlags := 9, code := some k1c1 }
def k1c2 : Code := { maxStack := 2, maxLocals := 1, code := method_3_code, exceptionTable := #[], attributes := #[] }
def k1m2 : Method := { name := "operatorAt", desc := "(I)Lcom/example/petrel/petrel/model/Syntax$Operator;", sig := { parameters := [.int], returnType := some (.object "com/example/petrel/petrel/model/Syntax$Operator") }, accessFlags := 10, code := some k1c2 }
/-- com/example/petrel/petrel/model/OperatorAsksForRewardPinLaw -/
def k1 : Class := { plain "com/example/petrel/petrel/model/OperatorAsksForRewardPinLaw" (some 0) with
  accessFlags := 49
  interfaces := #[]
  cf := some (fileOf pool1 9 #[] #[{ accessFlags := 2, nameIndex := 5, descriptorIndex := 6, attributes := #[] }, { accessFlags := 9, nameIndex := 55, descriptorIndex := 56, attributes := #[] }, { accessFlags := 10, nameIndex := 12, descriptorIndex := 13, attributes := #[] }] 49 2 #[] #[])
  fields := #[]
  methods := #[k1m0, k1m1, k1m2]
  instanceTypes := #[]
  staticTypes := #[]
  resolved := Array.replicate 64 none
  statics := none }

def pool2 : Array CpInfo := pool [(1, .class_ 2), (0, u "java/lang/constant/Constable"), (0, .class_ 4), (0, u "java/lang/Object")] 6

/-- java/lang/constant/Constable -/
def k2 : Class := { plain "java/lang/constant/Constable" (some 0) with
  accessFlags := 1537
  interfaces := #[]
  cf := some (fileOf pool2 1 #[] #[] 1537 3 #[] #[])
  fields := #[]
  methods := #[]
  instanceTypes := #[]
  staticTypes := #[]
  resolved := Array.replicate 11 none
  statics := none }

def pool3 : Array CpInfo := pool [(1, .class_ 2), (0, u "java/lang/Comparable"), (0, .class_ 4), (0, u "java/lang/Object")] 7

/-- java/lang/Comparable -/
def k3 : Class := { plain "java/lang/Comparable" (some 0) with
  accessFlags := 1537
  interfaces := #[]
  cf := some (fileOf pool3 1 #[] #[] 1537 3 #[] #[])
  fields := #[]
  methods := #[]
  instanceTypes := #[]
  staticTypes := #[]
  resolved := Array.replicate 12 none
  statics := none }

def pool4 : Array CpInfo := pool [(1, .class_ 2), (0, u "java/io/Serializable"), (0, .class_ 4), (0, u "java/lang/Object")] 2

/-- java/io/Serializable -/
def k4 : Class := { plain "java/io/Serializable" (some 0) with
  accessFlags := 1537
  interfaces := #[]
  cf := some (fileOf pool4 1 #[] #[] 1537 3 #[] #[])
  fields := #[]
  methods := #[]
  instanceTypes := #[]
  staticTypes := #[]
  resolved := Array.replicate 7 none
  statics := none }

def pool5 : Array CpInfo := pool [(2, .class_ 4), (1, u "java/lang/Enum"), (0, u "name"), (0, u "Ljava/lang/String;"), (2, u "ordinal"), (0, u "I"), (1, .class_ 14), (1, u "java/lang/Object"), (4, u "hash"), (86, .class_ 108), (1, u "java/lang/Enum$EnumDesc"), (2, .class_ 112), (0, u "java/lang/constant/Constable"), (0, .class_ 114), (0, u "java/lang/Comparable"), (0, .class_ 116), (0, u "java/io/Serializable")] 87

/-- java/lang/Enum -/
def k5 : Class := { plain "java/lang/Enum" (some 0) with
  accessFlags := 1057
  interfaces := #[2, 3, 4]
  cf := some (fileOf pool5 2 #[.nestMembers #[106]] #[] 1057 12 #[111, 113, 115] #[{ accessFlags := 18, nameIndex := 5, descriptorIndex := 6, attributes := #[] }, { accessFlags := 18, nameIndex := 9, descriptorIndex := 10, attributes := #[] }, { accessFlags := 2, nameIndex := 19, descriptorIndex := 10, attributes := #[] }])
  fields := #[{ name := "name", type := (.object "java/lang/String"), accessFlags := 18, slot := 0, constantValue := 0 }, { name := "ordinal", type := .int, accessFlags := 18, slot := 1, constantValue := 0 }, { name := "hash", type := .int, accessFlags := 2, slot := 2, constantValue := 0 }]
  methods := #[]
  instanceTypes := #[(.object "java/lang/String"), .int, .int]
  staticTypes := #[]
  resolved := Array.replicate 204 none
  statics := none }

def pool6 : Array CpInfo := pool [(1, .class_ 2), (0, u "com/example/petrel/petrel/model/Syntax$Operator"), (2, u "P"), (0, u "Lcom/example/petrel/petrel/model/Syntax$Operator;"), (2, u "PMAX"), (2, u "PMIN"), (0, .fieldref 1 14), (0, .nameAndType 15 6), (0, u "R"), (0, .fieldref 1 17), (0, .nameAndType 18 6), (0, u "RMAX"), (0, .fieldref 1 20), (0, .nameAndType 21 6), (0, u "RMIN"), (2, u "$VALUES"), (0, u "[Lcom/example/petrel/petrel/model/Syntax$Operator;"), (6, .class_ 34), (1, u "java/lang/Enum"), (8, u "word"), (0, u "Ljava/lang/String;"), (2, u "asksForReward"), (0, u "()Z"), (45, .class_ 95), (0, u "com/example/petrel/petrel/model/Syntax")] 2

def k6c0 : Code := { maxStack := 2, maxLocals := 1, code := prog_123_method_4_code, exceptionTable := #[], attributes := #[] }
def k6m0 : Method := { name := "asksForReward", desc := "()Z", sig := { parameters := [], returnType := some .boolean }, accessFlags := 0, code := some k6c0 }
/-- com/example/petrel/petrel/model/Syntax$Operator -/
def k6 : Class := { plain "com/example/petrel/petrel/model/Syntax$Operator" (some 5) with
  accessFlags := 16432
  interfaces := #[]
  cf := some (fileOf pool6 1 #[.nestHost 94] #[{ accessFlags := 0, nameIndex := 47, descriptorIndex := 48, attributes := #[] }] 16432 32 #[] #[{ accessFlags := 16409, nameIndex := 5, descriptorIndex := 6, attributes := #[] }, { accessFlags := 16409, nameIndex := 9, descriptorIndex := 6, attributes := #[] }, { accessFlags := 16409, nameIndex := 12, descriptorIndex := 6, attributes := #[] }, { accessFlags := 16409, nameIndex := 15, descriptorIndex := 6, attributes := #[] }, { accessFlags := 16409, nameIndex := 18, descriptorIndex := 6, attributes := #[] }, { accessFlags := 16409, nameIndex := 21, descriptorIndex := 6, attributes := #[] }, { accessFlags := 16, nameIndex := 43, descriptorIndex := 44, attributes := #[] }, { accessFlags := 4122, nameIndex := 24, descriptorIndex := 25, attributes := #[] }])
  fields := #[{ name := "P", type := (.object "com/example/petrel/petrel/model/Syntax$Operator"), accessFlags := 16409, slot := 0, constantValue := 0 }, { name := "PMAX", type := (.object "com/example/petrel/petrel/model/Syntax$Operator"), accessFlags := 16409, slot := 1, constantValue := 0 }, { name := "PMIN", type := (.object "com/example/petrel/petrel/model/Syntax$Operator"), accessFlags := 16409, slot := 2, constantValue := 0 }, { name := "R", type := (.object "com/example/petrel/petrel/model/Syntax$Operator"), accessFlags := 16409, slot := 3, constantValue := 0 }, { name := "RMAX", type := (.object "com/example/petrel/petrel/model/Syntax$Operator"), accessFlags := 16409, slot := 4, constantValue := 0 }, { name := "RMIN", type := (.object "com/example/petrel/petrel/model/Syntax$Operator"), accessFlags := 16409, slot := 5, constantValue := 0 }, { name := "word", type := (.object "java/lang/String"), accessFlags := 16, slot := 3, constantValue := 0 }, { name := "$VALUES", type := (.array (.object "com/example/petrel/petrel/model/Syntax$Operator")), accessFlags := 4122, slot := 6, constantValue := 0 }]
  methods := #[k6m0]
  instanceTypes := #[(.object "java/lang/String"), .int, .int, (.object "java/lang/String")]
  staticTypes := #[(.object "com/example/petrel/petrel/model/Syntax$Operator"), (.object "com/example/petrel/petrel/model/Syntax$Operator"), (.object "com/example/petrel/petrel/model/Syntax$Operator"), (.object "com/example/petrel/petrel/model/Syntax$Operator"), (.object "com/example/petrel/petrel/model/Syntax$Operator"), (.object "com/example/petrel/petrel/model/Syntax$Operator"), (.array (.object "com/example/petrel/petrel/model/Syntax$Operator"))]
  resolved := Array.replicate 98 none
  statics := some 0 }

def pool7 : Array CpInfo := pool [(2, .class_ 4), (1, u "java/lang/CharSequence"), (42, .class_ 48), (0, u "java/lang/CharSequence$1CodePointIterator"), (10, .class_ 60), (0, u "java/lang/CharSequence$1CharIterator"), (5, .class_ 67), (0, u "java/lang/Object")] 63

/-- java/lang/CharSequence -/
def k7 : Class := { plain "java/lang/CharSequence" (some 0) with
  accessFlags := 1537
  interfaces := #[]
  cf := some (fileOf pool7 2 #[.nestMembers #[47, 59]] #[] 1537 66 #[] #[])
  fields := #[]
  methods := #[]
  instanceTypes := #[]
  staticTypes := #[]
  resolved := Array.replicate 131 none
  statics := none }

def pool8 : Array CpInfo := pool [(1, .class_ 2), (0, u "java/lang/constant/ConstantDesc"), (0, .class_ 4), (0, u "java/lang/Object")] 32

/-- java/lang/constant/ConstantDesc -/
def k8 : Class := { plain "java/lang/constant/ConstantDesc" (some 0) with
  accessFlags := 1537
  interfaces := #[]
  cf := some (fileOf pool8 1 #[] #[] 1537 3 #[] #[])
  fields := #[]
  methods := #[]
  instanceTypes := #[]
  staticTypes := #[]
  resolved := Array.replicate 37 none
  statics := none }

def pool9 : Array CpInfo := pool [(2, .class_ 4), (1, u "java/lang/Object"), (0, u "<init>"), (0, u "()V"), (2, .fieldref 10 11), (0, .class_ 12), (0, .nameAndType 13 14), (0, u "java/lang/String"), (0, u "value"), (0, u "[B"), (0, .fieldref 10 16), (0, .nameAndType 17 18), (0, u "coder"), (0, u "B"), (2, u "hash"), (0, u "I"), (2, u "hashIsZero"), (0, u "Z"), (11, .fieldref 10 39), (0, .nameAndType 40 26), (0, u "COMPACT_STRINGS"), (66, .class_ 109), (1, u "java/lang/StringLatin1"), (32, u "()Z"), (191, u "()I"), (0, .methodref 10 336), (0, .nameAndType 17 337), (0, u "()B"), (25, u "([BI)C"), (27, u "(II)V"), (35, u "(I)C"), (64, .methodref 10 493), (0, .nameAndType 494 142), (0, u "isLatin1"), (0, .methodref 107 496), (0, .nameAndType 497 363), (0, u "charAt"), (3, u "checkIndex"), (5, u "length"), (67, .class_ 576), (0, u "java/lang/CharSequence"), (22, u "CASE_INSENSITIVE_ORDER"), (0, u "Ljava/util/Comparator;"), (452, .fieldref 1054 1055), (0, .class_ 1056), (0, .nameAndType 1057 1058), (0, u "jdk/internal/util/Preconditions"), (0, u "SIOOBE_FORMATTER"), (0, u "Ljava/util/function/BiFunction;"), (0, .methodref 1054 1060), (0, .nameAndType 501 1061), (0, u "(IILjava/util/function/BiFunction;)I"), (39, u "serialPersistentFields"), (0, u "[Ljava/io/ObjectStreamField;"), (0, .class_ 1104), (0, u "java/lang/String$CaseInsensitiveComparator"), (1, .class_ 1107), (0, u "java/io/Serializable"), (0, .class_ 1109), (0, u "java/lang/Comparable"), (0, .class_ 1111), (0, u "java/lang/constant/Constable"), (0, .class_ 1113), (0, u "java/lang/constant/ConstantDesc"), (2, u "serialVersionUID"), (0, u "J"), (3, u "REPL"), (0, u "C"), (2, u "LATIN1"), (1, u "UTF16")] 323

def k9m0 : Method := { name := "<init>", desc := "()V", sig := { parameters := [], returnType := none }, accessFlags := 1, code := none }
def k9c1 : Code := { maxStack := 2, maxLocals := 1, code := jdk_42_method_54_code, exceptionTable := #[], attributes := #[] }
def k9m1 : Method := { name := "length", desc := "()I", sig := { parameters := [], returnType := some .int }, accessFlags := 1, code := some k9c1 }
def k9c2 : Code := { maxStack := 2, maxLocals := 2, code := jdk_42_method_56_code, exceptionTable := #[], attributes := #[] }
def k9m2 : Method := { name := "charAt", desc := "(I)C", sig := { parameters := [.int], returnType := some .char }, accessFlags := 1, code := some k9c2 }
def k9c3 : Code := { maxStack := 1, maxLocals := 1, code := jdk_42_method_152_code, exceptionTable := #[], attributes := #[] }
def k9m3 : Method := { name := "coder", desc := "()B", sig := { parameters := [], returnType := some .byte }, accessFlags := 0, code := some k9c3 }
def k9c4 : Code := { maxStack := 1, maxLocals := 1, code := jdk_42_method_154_code, exceptionTable := #[], attributes := #[] }
def k9m4 : Method := { name := "isLatin1", desc := "()Z", sig := { parameters := [], returnType := some .boolean }, accessFlags := 0, code := some k9c4 }
def k9c5 : Code := { maxStack := 3, maxLocals := 2, code := jdk_42_method_155_code, exceptionTable := #[], attributes := #[] }
def k9m5 : Method := { name := "checkIndex", desc := "(II)V", sig := { parameters := [.int, .int], returnType := none }, accessFlags := 8, code := some k9c5 }
/-- java/lang/String -/
def k9 : Class := { plain "java/lang/String" (some 0) with
  accessFlags := 49
  interfaces := #[4, 3, 7, 2, 8]
  cf := some (fileOf pool9 10 #[.nestMembers #[1103]] #[{ accessFlags := 1, nameIndex := 5, descriptorIndex := 6, attributes := #[] }, { accessFlags := 1, nameIndex := 507, descriptorIndex := 334, attributes := #[] }, { accessFlags := 1, nameIndex := 497, descriptorIndex := 427, attributes := #[] }, { accessFlags := 0, nameIndex := 17, descriptorIndex := 337, attributes := #[] }, { accessFlags := 0, nameIndex := 494, descriptorIndex := 142, attributes := #[] }, { accessFlags := 8, nameIndex := 501, descriptorIndex := 391, attributes := #[] }] 49 2 #[1106, 1108, 575, 1110, 1112] #[{ accessFlags := 18, nameIndex := 13, descriptorIndex := 14, attributes := #[] }, { accessFlags := 18, nameIndex := 17, descriptorIndex := 18, attributes := #[] }, { accessFlags := 2, nameIndex := 21, descriptorIndex := 22, attributes := #[] }, { accessFlags := 2, nameIndex := 25, descriptorIndex := 26, attributes := #[] }, { accessFlags := 26, nameIndex := 1116, descriptorIndex := 1117, attributes := #[] }, { accessFlags := 24, nameIndex := 40, descriptorIndex := 26, attributes := #[] }, { accessFlags := 26, nameIndex := 1101, descriptorIndex := 1102, attributes := #[] }, { accessFlags := 26, nameIndex := 1121, descriptorIndex := 1122, attributes := #[] }, { accessFlags := 25, nameIndex := 599, descriptorIndex := 600, attributes := #[] }, { accessFlags := 24, nameIndex := 1125, descriptorIndex := 18, attributes := #[] }, { accessFlags := 24, nameIndex := 1127, descriptorIndex := 18, attributes := #[] }])
  fields := #[{ name := "value", type := (.array .byte), accessFlags := 18, slot := 0, constantValue := 0 }, { name := "coder", type := .byte, accessFlags := 18, slot := 1, constantValue := 0 }, { name := "hash", type := .int, accessFlags := 2, slot := 2, constantValue := 0 }, { name := "hashIsZero", type := .boolean, accessFlags := 2, slot := 3, constantValue := 0 }, { name := "serialVersionUID", type := .long, accessFlags := 26, slot := 0, constantValue := 0 }, { name := "COMPACT_STRINGS", type := .boolean, accessFlags := 24, slot := 1, constantValue := 0 }, { name := "serialPersistentFields", type := (.array (.object "java/io/ObjectStreamField")), accessFlags := 26, slot := 2, constantValue := 0 }, { name := "REPL", type := .char, accessFlags := 26, slot := 3, constantValue := 0 }, { name := "CASE_INSENSITIVE_ORDER", type := (.object "java/util/Comparator"), accessFlags := 25, slot := 4, constantValue := 0 }, { name := "LATIN1", type := .byte, accessFlags := 24, slot := 5, constantValue := 0 }, { name := "UTF16", type := .byte, accessFlags := 24, slot := 6, constantValue := 0 }]
  methods := #[k9m0, k9m1, k9m2, k9m3, k9m4, k9m5]
  instanceTypes := #[(.array .byte), .byte, .int, .boolean]
  staticTypes := #[.long, .boolean, (.array (.object "java/io/ObjectStreamField")), .char, (.object "java/util/Comparator"), .byte, .byte]
  resolved := Array.replicate 1451 none
  statics := some 1 }

def pool10 : Array CpInfo := pool [(1, .class_ 2), (0, u "java/lang/String"), (1, .class_ 6), (1, u "java/lang/Object"), (0, u "<init>"), (0, u "()V"), (0, .methodref 1 10), (0, .nameAndType 11 12), (0, u "checkIndex"), (0, u "(II)V"), (1, .class_ 16), (1, u "java/lang/StringLatin1"), (36, u "([BI)C"), (67, u "$assertionsDisabled"), (0, u "Z"), (98, .class_ 223), (1, u "java/lang/StringLatin1$LinesSpliterator"), (28, u "charAt"), (137, .class_ 391), (0, u "java/lang/StringLatin1$CharsSpliterator")] 3

def k10m0 : Method := { name := "<init>", desc := "()V", sig := { parameters := [], returnType := none }, accessFlags := 0, code := none }
def k10c1 : Code := { maxStack := 2, maxLocals := 2, code := jdk_43_method_2_code, exceptionTable := #[], attributes := #[] }
def k10m1 : Method := { name := "charAt", desc := "([BI)C", sig := { parameters := [(.array .byte), .int], returnType := some .char }, accessFlags := 9, code := some k10c1 }
/-- java/lang/StringLatin1 -/
def k10 : Class := { plain "java/lang/StringLatin1" (some 0) with
  accessFlags := 48
  interfaces := #[]
  cf := some (fileOf pool10 14 #[.nestMembers #[390, 221]] #[{ accessFlags := 0, nameIndex := 7, descriptorIndex := 8, attributes := #[] }, { accessFlags := 9, nameIndex := 252, descriptorIndex := 53, attributes := #[] }] 48 4 #[] #[{ accessFlags := 4120, nameIndex := 121, descriptorIndex := 122, attributes := #[] }])
  fields := #[{ name := "$assertionsDisabled", type := .boolean, accessFlags := 4120, slot := 0, constantValue := 0 }]
  methods := #[k10m0, k10m1]
  instanceTypes := #[]
  staticTypes := #[.boolean]
  resolved := Array.replicate 395 none
  statics := none }

def pool11 : Array CpInfo := pool [(2, .class_ 4), (1, u "java/lang/Object"), (0, u "<init>"), (0, u "()V"), (17, .class_ 26), (1, u "jdk/internal/util/Preconditions"), (6, u "checkIndex"), (21, .class_ 56), (0, u "jdk/internal/util/Preconditions$4"), (57, .class_ 115), (0, u "jdk/internal/util/Preconditions$1"), (7, u "SIOOBE_FORMATTER"), (0, u "Ljava/util/function/BiFunction;"), (0, .class_ 126), (0, u "jdk/internal/util/Preconditions$2"), (3, u "AIOOBE_FORMATTER"), (0, .class_ 132), (0, u "jdk/internal/util/Preconditions$3"), (3, u "IOOBE_FORMATTER"), (41, u "(IILjava/util/function/BiFunction;)I")] 15

def k11m0 : Method := { name := "<init>", desc := "()V", sig := { parameters := [], returnType := none }, accessFlags := 1, code := none }
def k11c1 : Code := { maxStack := 3, maxLocals := 3, code := jdk_41_method_11_code, exceptionTable := #[], attributes := #[] }
def k11m1 : Method := { name := "checkIndex", desc := "(IILjava/util/function/BiFunction;)I", sig := { parameters := [.int, .int, (.object "java/util/function/BiFunction")], returnType := some .int }, accessFlags := 9, code := some k11c1 }
/-- jdk/internal/util/Preconditions -/
def k11 : Class := { plain "jdk/internal/util/Preconditions" (some 0) with
  accessFlags := 33
  interfaces := #[]
  cf := some (fileOf pool11 24 #[.nestMembers #[55, 131, 125, 114]] #[{ accessFlags := 1, nameIndex := 5, descriptorIndex := 6, attributes := #[] }, { accessFlags := 9, nameIndex := 33, descriptorIndex := 178, attributes := #[] }] 33 2 #[] #[{ accessFlags := 25, nameIndex := 123, descriptorIndex := 124, attributes := #[] }, { accessFlags := 25, nameIndex := 130, descriptorIndex := 124, attributes := #[] }, { accessFlags := 25, nameIndex := 136, descriptorIndex := 124, attributes := #[] }])
  fields := #[{ name := "SIOOBE_FORMATTER", type := (.object "java/util/function/BiFunction"), accessFlags := 25, slot := 0, constantValue := 0 }, { name := "AIOOBE_FORMATTER", type := (.object "java/util/function/BiFunction"), accessFlags := 25, slot := 1, constantValue := 0 }, { name := "IOOBE_FORMATTER", type := (.object "java/util/function/BiFunction"), accessFlags := 25, slot := 2, constantValue := 0 }]
  methods := #[k11m0, k11m1]
  instanceTypes := #[]
  staticTypes := #[(.object "java/util/function/BiFunction"), (.object "java/util/function/BiFunction"), (.object "java/util/function/BiFunction")]
  resolved := Array.replicate 194 none
  statics := some 2 }

def pool12 : Array CpInfo := pool [(9, u "<init>"), (6, .class_ 18), (1, u "java/lang/Object"), (0, u "()V"), (1, .class_ 23), (1, u "jdk/internal/util/ArraysSupport"), (0, u "LOG2_ARRAY_LONG_INDEX_SCALE"), (0, u "I"), (2, u "U"), (0, u "Ljdk/internal/misc/Unsafe;"), (8, u "BIG_ENDIAN"), (0, u "Z"), (8, u "LOG2_BYTE_BIT_SIZE"), (4, u "LOG2_ARRAY_INT_INDEX_SCALE"), (54, u "JLA"), (0, u "Ljdk/internal/access/JavaLangAccess;"), (11, u "LOG2_ARRAY_BOOLEAN_INDEX_SCALE"), (9, u "LOG2_ARRAY_BYTE_INDEX_SCALE"), (5, u "LOG2_ARRAY_CHAR_INDEX_SCALE"), (5, u "LOG2_ARRAY_SHORT_INDEX_SCALE"), (18, u "LOG2_ARRAY_FLOAT_INDEX_SCALE"), (24, u "LOG2_ARRAY_DOUBLE_INDEX_SCALE"), (89, u "T_BOOLEAN"), (2, u "T_CHAR"), (1, u "T_FLOAT"), (1, u "T_DOUBLE"), (1, u "T_BYTE"), (1, u "T_SHORT"), (1, u "T_INT"), (1, u "T_LONG"), (1, u "SOFT_MAX_ARRAY_LENGTH")] 83

def k12m0 : Method := { name := "<init>", desc := "()V", sig := { parameters := [], returnType := none }, accessFlags := 2, code := none }
/-- jdk/internal/util/ArraysSupport -/
def k12 : Class := { plain "jdk/internal/util/ArraysSupport" (some 0) with
  accessFlags := 33
  interfaces := #[]
  cf := some (fileOf pool12 21 #[] #[{ accessFlags := 2, nameIndex := 9, descriptorIndex := 19, attributes := #[] }] 33 16 #[] #[{ accessFlags := 24, nameIndex := 28, descriptorIndex := 29, attributes := #[] }, { accessFlags := 26, nameIndex := 38, descriptorIndex := 39, attributes := #[] }, { accessFlags := 25, nameIndex := 121, descriptorIndex := 25, attributes := #[] }, { accessFlags := 25, nameIndex := 131, descriptorIndex := 25, attributes := #[] }, { accessFlags := 25, nameIndex := 137, descriptorIndex := 25, attributes := #[] }, { accessFlags := 25, nameIndex := 143, descriptorIndex := 25, attributes := #[] }, { accessFlags := 25, nameIndex := 53, descriptorIndex := 25, attributes := #[] }, { accessFlags := 25, nameIndex := 24, descriptorIndex := 25, attributes := #[] }, { accessFlags := 25, nameIndex := 162, descriptorIndex := 25, attributes := #[] }, { accessFlags := 25, nameIndex := 187, descriptorIndex := 25, attributes := #[] }, { accessFlags := 26, nameIndex := 48, descriptorIndex := 25, attributes := #[] }, { accessFlags := 25, nameIndex := 277, descriptorIndex := 25, attributes := #[] }, { accessFlags := 25, nameIndex := 280, descriptorIndex := 25, attributes := #[] }, { accessFlags := 25, nameIndex := 282, descriptorIndex := 25, attributes := #[] }, { accessFlags := 25, nameIndex := 284, descriptorIndex := 25, attributes := #[] }, { accessFlags := 25, nameIndex := 286, descriptorIndex := 25, attributes := #[] }, { accessFlags := 25, nameIndex := 288, descriptorIndex := 25, attributes := #[] }, { accessFlags := 25, nameIndex := 290, descriptorIndex := 25, attributes := #[] }, { accessFlags := 25, nameIndex := 292, descriptorIndex := 25, attributes := #[] }, { accessFlags := 26, nameIndex := 108, descriptorIndex := 109, attributes := #[] }, { accessFlags := 25, nameIndex := 294, descriptorIndex := 25, attributes := #[] }])
  fields := #[{ name := "U", type := (.object "jdk/internal/misc/Unsafe"), accessFlags := 24, slot := 0, constantValue := 0 }, { name := "BIG_ENDIAN", type := .boolean, accessFlags := 26, slot := 1, constantValue := 0 }, { name := "LOG2_ARRAY_BOOLEAN_INDEX_SCALE", type := .int, accessFlags := 25, slot := 2, constantValue := 0 }, { name := "LOG2_ARRAY_BYTE_INDEX_SCALE", type := .int, accessFlags := 25, slot := 3, constantValue := 0 }, { name := "LOG2_ARRAY_CHAR_INDEX_SCALE", type := .int, accessFlags := 25, slot := 4, constantValue := 0 }, { name := "LOG2_ARRAY_SHORT_INDEX_SCALE", type := .int, accessFlags := 25, slot := 5, constantValue := 0 }, { name := "LOG2_ARRAY_INT_INDEX_SCALE", type := .int, accessFlags := 25, slot := 6, constantValue := 0 }, { name := "LOG2_ARRAY_LONG_INDEX_SCALE", type := .int, accessFlags := 25, slot := 7, constantValue := 0 }, { name := "LOG2_ARRAY_FLOAT_INDEX_SCALE", type := .int, accessFlags := 25, slot := 8, constantValue := 0 }, { name := "LOG2_ARRAY_DOUBLE_INDEX_SCALE", type := .int, accessFlags := 25, slot := 9, constantValue := 0 }, { name := "LOG2_BYTE_BIT_SIZE", type := .int, accessFlags := 26, slot := 10, constantValue := 0 }, { name := "T_BOOLEAN", type := .int, accessFlags := 25, slot := 11, constantValue := 0 }, { name := "T_CHAR", type := .int, accessFlags := 25, slot := 12, constantValue := 0 }, { name := "T_FLOAT", type := .int, accessFlags := 25, slot := 13, constantValue := 0 }, { name := "T_DOUBLE", type := .int, accessFlags := 25, slot := 14, constantValue := 0 }, { name := "T_BYTE", type := .int, accessFlags := 25, slot := 15, constantValue := 0 }, { name := "T_SHORT", type := .int, accessFlags := 25, slot := 16, constantValue := 0 }, { name := "T_INT", type := .int, accessFlags := 25, slot := 17, constantValue := 0 }, { name := "T_LONG", type := .int, accessFlags := 25, slot := 18, constantValue := 0 }, { name := "JLA", type := (.object "jdk/internal/access/JavaLangAccess"), accessFlags := 26, slot := 19, constantValue := 0 }, { name := "SOFT_MAX_ARRAY_LENGTH", type := .int, accessFlags := 25, slot := 20, constantValue := 0 }]
  methods := #[k12m0]
  instanceTypes := #[]
  staticTypes := #[(.object "jdk/internal/misc/Unsafe"), .boolean, .int, .int, .int, .int, .int, .int, .int, .int, .int, .int, .int, .int, .int, .int, .int, .int, .int, (.object "jdk/internal/access/JavaLangAccess"), .int]
  resolved := Array.replicate 378 none
  statics := none }

def pool13 : Array CpInfo := pool [(1, u "java/lang/Cloneable"), (0, .class_ 1), (0, u "java/lang/Object"), (0, .class_ 3)] 3

/-- java/lang/Cloneable -/
def k13 : Class := { plain "java/lang/Cloneable" (some 0) with
  accessFlags := 1537
  interfaces := #[]
  cf := some (fileOf pool13 2 #[] #[] 1537 4 #[] #[])
  fields := #[]
  methods := #[]
  instanceTypes := #[]
  staticTypes := #[]
  resolved := Array.replicate 8 none
  statics := none }

/-- the primitive byte -/
def k14 : Class := { plain "byte" none with kind := .primitive 'B', accessFlags := 0x411 }
/-- [B -/
def k15 : Class := { plain "[B" (some 0) with kind := .array 14 .byte, interfaces := #[13, 4], accessFlags := 1041 }

/-- the primitive int -/
def k16 : Class := { plain "int" none with kind := .primitive 'I', accessFlags := 0x411 }
/-- [I -/
def k17 : Class := { plain "[I" (some 0) with kind := .array 16 .int, interfaces := #[13, 4], accessFlags := 1041 }

def heap : Heap := #[{ cls := 6, slots := #[.ref 5, .ref 8, .ref 11, .ref 14, .ref 17, .ref 20, .null], vm := .statics 6 },
  { cls := 9, slots := #[.long 0, .int 1, .null, .int 0, .null, .int 0, .int 0], vm := .statics 9 },
  { cls := 11, slots := #[.null, .null, .null], vm := .statics 11 },
  { cls := 15, slots := #[.int 80], vm := .none },
  { cls := 9, slots := #[.ref 3, .int 0, .int 0, .int 0], vm := .none },
  { cls := 6, slots := #[.null, .int 0, .int 0, .ref 4], vm := .none },
  { cls := 15, slots := #[.int 80, .int 109, .int 97, .int 120], vm := .none },
  { cls := 9, slots := #[.ref 6, .int 0, .int 0, .int 0], vm := .none },
  { cls := 6, slots := #[.null, .int 1, .int 0, .ref 7], vm := .none },
  { cls := 15, slots := #[.int 80, .int 109, .int 105, .int 110], vm := .none },
  { cls := 9, slots := #[.ref 9, .int 0, .int 0, .int 0], vm := .none },
  { cls := 6, slots := #[.null, .int 2, .int 0, .ref 10], vm := .none },
  { cls := 15, slots := #[.int 82], vm := .none },
  { cls := 9, slots := #[.ref 12, .int 0, .int 0, .int 0], vm := .none },
  { cls := 6, slots := #[.null, .int 3, .int 0, .ref 13], vm := .none },
  { cls := 15, slots := #[.int 82, .int 109, .int 97, .int 120], vm := .none },
  { cls := 9, slots := #[.ref 15, .int 0, .int 0, .int 0], vm := .none },
  { cls := 6, slots := #[.null, .int 4, .int 0, .ref 16], vm := .none },
  { cls := 15, slots := #[.int 82, .int 109, .int 105, .int 110], vm := .none },
  { cls := 9, slots := #[.ref 18, .int 0, .int 0, .int 0], vm := .none },
  { cls := 6, slots := #[.null, .int 5, .int 0, .ref 19], vm := .none }]
def classes : Array Class := #[k0, k1, k2, k3, k4, k5, k6, k7, k8, k9, k10, k11, k12, k13, k14, k15, k16, k17]
def interned : List (Array UInt16 × Addr) := []
def slotsUsed : Nat := 83
def theMethod : MethodId := ⟨1, 1⟩
def args0 : Array Value := #[.int 1]
def aboutOver (below : List Frame) : State where
  vm := { classes := classes, interned := interned.toArray }
  heap := heap
  slotsUsed := slotsUsed
  threads := #[{ frames := .invoking theMethod args0 :: below }]
def below0 : List Frame := [.native { method := ⟨0, 0⟩, args := #[] }]
def about1 : State := aboutOver below0
def p0 : Program := .bare "" "" ""
def e0 : Env := launch0.env 0 0 0
theorem w_frames : about1.frames = Frame.invoking theMethod args0 :: below0 := rfl
set_option maxRecDepth 65536 in
theorem w_args : argsFit about1.vm theMethod args0 = true := by decide +kernel
set_option maxRecDepth 65536 in
theorem w_heap : heapFits about1 = true := by decide +kernel
set_option maxRecDepth 65536 in
theorem w_runnable : about1.curStatus? = some .runnable := by decide +kernel
set_option maxRecDepth 65536 in
theorem w_alone : about1.alone = true := by decide +kernel
set_option maxRecDepth 65536 in
theorem w_named : about1.methodNamed? x = some theMethod := by decide +kernel
set_option maxRecDepth 65536 in
theorem w_hears : about1.hears theMethod below0 = true := by decide +kernel
set_option maxRecDepth 65536 in
theorem w_ripe : about1.ripe theMethod args0 below0 = true := by decide +kernel
theorem w_running : about1.status = .running := rfl
set_option maxRecDepth 65536 in
theorem w_room : about1.hasRoom e0.platform room_1 = true :=
  launch0.hasRoom_least _ room_1 (by decide +kernel) (by decide +kernel) (by decide +kernel) (by decide +kernel) (by decide +kernel) (by decide +kernel)
theorem allAtoms_all (ts : List Jvm.Cond) (a : Array Jvm.Value) (st : Jvm.State) : (allAtoms ts).before a st = ts.all (fun c => c.before a st) := by
  induction ts with
  | nil => rfl
  | cons c t ih =>
    show (Jvm.Cond.and c (allAtoms t)).before a st = _
    rw [Jvm.Cond.before_and, ih, List.all_cons]
def words1 : List Jvm.Cond := Jvm.Cond.code x code maxLocals ret :: tables_1
/-- a 'code' word, met by the world's own term for the bytes: nothing is compared byte by byte -/
theorem code_word {y : MethodName} {bytes : ByteArray} {mx : Nat} {rt : Option FieldType} {a : Array Value} {s : State} {m : MethodId} {meth : Method} {c : Code} (h1 : s.methodNamed? y = some m) (h2 : s.vm.method? m = some meth) (h3 : meth.code = some c) (h4 : c.code = bytes)
    (h5 : (c.maxLocals == mx && c.exceptionTable.isEmpty && decide (c.maxStack ≤ mostOperands) && decide (meth.sig.returnType = rt) && !meth.locks && decide (parseMethodDescriptor y.desc = some meth.sig)) = true) : (Jvm.Cond.code y bytes mx rt).before a s = true := by
  simp only [Bool.and_eq_true, beq_iff_eq, Bool.not_eq_true', decide_eq_true_eq] at h5
  obtain ⟨⟨⟨⟨⟨g1, g2⟩, g3⟩, g4⟩, g5⟩, g6⟩ := h5
  simp [Cond.before, Cond.holds, Cond.value, h1, h2, h3, h4, g1, g2, g3, g4, g5, g6]
def isCode : Jvm.Cond → Bool
  | .code _ _ _ _ => true
  | _ => false
theorem all_split {L : List Jvm.Cond} {P : Jvm.Cond → Bool} (h1 : L.all (fun c => isCode c || P c) = true) (h2 : ∀ c ∈ L.filter isCode, P c = true) : L.all P = true := by
  refine List.all_eq_true.mpr fun c hc => ?_
  have h := List.all_eq_true.mp h1 c hc
  rcases Bool.eq_false_or_eq_true (isCode c) with hi | hi
  · exact h2 c (List.mem_filter.mpr ⟨hc, hi⟩)
  · simpa [hi] using h
set_option maxRecDepth 65536 in
theorem w_c0 : (Jvm.Cond.code x code maxLocals ret).before args0 about1 = true := code_word (m := ⟨1, 1⟩) (meth := k1m1) (c := k1c1) (by decide +kernel) rfl rfl rfl (by decide +kernel)
set_option maxRecDepth 65536 in
theorem w_c1 : (Jvm.Cond.code ({ cls := "com/example/petrel/petrel/model/OperatorAsksForRewardPinLaw", name := "operatorAt", desc := "(I)Lcom/example/petrel/petrel/model/Syntax$Operator;" } : Jvm.MethodName) method_3_code (1 : Nat) (Option.some (Jvm.ClassFile.FieldType.object "com/example/petrel/petrel/model/Syntax$Operator"))).before args0 about1 = true := code_word (m := ⟨1, 2⟩) (meth := k1m2) (c := k1c2) (by decide +kernel) rfl rfl rfl (by decide +kernel)
set_option maxRecDepth 65536 in
theorem w_c2 : (Jvm.Cond.code ({ cls := "com/example/petrel/petrel/model/Syntax$Operator", name := "asksForReward", desc := "()Z" } : Jvm.MethodName) prog_123_method_4_code (1 : Nat) (Option.some Jvm.ClassFile.FieldType.boolean)).before args0 about1 = true := code_word (m := ⟨6, 0⟩) (meth := k6m0) (c := k6c0) (by decide +kernel) rfl rfl rfl (by decide +kernel)
set_option maxRecDepth 65536 in
theorem w_c3 : (Jvm.Cond.code ({ cls := "java/lang/String", name := "length", desc := "()I" } : Jvm.MethodName) jdk_42_method_54_code (1 : Nat) (Option.some Jvm.ClassFile.FieldType.int)).before args0 about1 = true := code_word (m := ⟨9, 1⟩) (meth := k9m1) (c := k9c1) (by decide +kernel) rfl rfl rfl (by decide +kernel)
set_option maxRecDepth 65536 in
theorem w_c4 : (Jvm.Cond.code ({ cls := "java/lang/String", name := "coder", desc := "()B" } : Jvm.MethodName) jdk_42_method_152_code (1 : Nat) (Option.some Jvm.ClassFile.FieldType.byte)).before args0 about1 = true := code_word (m := ⟨9, 3⟩) (meth := k9m3) (c := k9c3) (by decide +kernel) rfl rfl rfl (by decide +kernel)
set_option maxRecDepth 65536 in
theorem w_c5 : (Jvm.Cond.code ({ cls := "java/lang/String", name := "charAt", desc := "(I)C" } : Jvm.MethodName) jdk_42_method_56_code (2 : Nat) (Option.some Jvm.ClassFile.FieldType.char)).before args0 about1 = true := code_word (m := ⟨9, 2⟩) (meth := k9m2) (c := k9c2) (by decide +kernel) rfl rfl rfl (by decide +kernel)
set_option maxRecDepth 65536 in
theorem w_c6 : (Jvm.Cond.code ({ cls := "java/lang/String", name := "isLatin1", desc := "()Z" } : Jvm.MethodName) jdk_42_method_154_code (1 : Nat) (Option.some Jvm.ClassFile.FieldType.boolean)).before args0 about1 = true := code_word (m := ⟨9, 4⟩) (meth := k9m4) (c := k9c4) (by decide +kernel) rfl rfl rfl (by decide +kernel)
set_option maxRecDepth 65536 in
theorem w_c7 : (Jvm.Cond.code ({ cls := "java/lang/StringLatin1", name := "charAt", desc := "([BI)C" } : Jvm.MethodName) jdk_43_method_2_code (2 : Nat) (Option.some Jvm.ClassFile.FieldType.char)).before args0 about1 = true := code_word (m := ⟨10, 1⟩) (meth := k10m1) (c := k10c1) (by decide +kernel) rfl rfl rfl (by decide +kernel)
set_option maxRecDepth 65536 in
theorem w_c8 : (Jvm.Cond.code ({ cls := "java/lang/String", name := "checkIndex", desc := "(II)V" } : Jvm.MethodName) jdk_42_method_155_code (2 : Nat) (Option.none : Option Jvm.ClassFile.FieldType)).before args0 about1 = true := code_word (m := ⟨9, 5⟩) (meth := k9m5) (c := k9c5) (by decide +kernel) rfl rfl rfl (by decide +kernel)
set_option maxRecDepth 65536 in
theorem w_c9 : (Jvm.Cond.code ({ cls := "jdk/internal/util/Preconditions", name := "checkIndex", desc := "(IILjava/util/function/BiFunction;)I" } : Jvm.MethodName) jdk_41_method_11_code (3 : Nat) (Option.some Jvm.ClassFile.FieldType.int)).before args0 about1 = true := code_word (m := ⟨11, 1⟩) (meth := k11m1) (c := k11c1) (by decide +kernel) rfl rfl rfl (by decide +kernel)
def codes1 : List Jvm.Cond := [Jvm.Cond.code x code maxLocals ret, Jvm.Cond.code ({ cls := "com/example/petrel/petrel/model/OperatorAsksForRewardPinLaw", name := "operatorAt", desc := "(I)Lcom/example/petrel/petrel/model/Syntax$Operator;" } : Jvm.MethodName) method_3_code (1 : Nat) (Option.some (Jvm.ClassFile.FieldType.object "com/example/petrel/petrel/model/Syntax$Operator")), Jvm.Cond.code ({ cls := "com/example/petrel/petrel/model/Syntax$Operator", name := "asksForReward", desc := "()Z" } : Jvm.MethodName) prog_123_method_4_code (1 : Nat) (Option.some Jvm.ClassFile.FieldType.boolean), Jvm.Cond.code ({ cls := "java/lang/String", name := "length", desc := "()I" } : Jvm.MethodName) jdk_42_method_54_code (1 : Nat) (Option.some Jvm.ClassFile.FieldType.int), Jvm.Cond.code ({ cls := "java/lang/String", name := "coder", desc := "()B" } : Jvm.MethodName) jdk_42_method_152_code (1 : Nat) (Option.some Jvm.ClassFile.FieldType.byte), Jvm.Cond.code ({ cls := "java/lang/String", name := "charAt", desc := "(I)C" } : Jvm.MethodName) jdk_42_method_56_code (2 : Nat) (Option.some Jvm.ClassFile.FieldType.char), Jvm.Cond.code ({ cls := "java/lang/String", name := "isLatin1", desc := "()Z" } : Jvm.MethodName) jdk_42_method_154_code (1 : Nat) (Option.some Jvm.ClassFile.FieldType.boolean), Jvm.Cond.code ({ cls := "java/lang/StringLatin1", name := "charAt", desc := "([BI)C" } : Jvm.MethodName) jdk_43_method_2_code (2 : Nat) (Option.some Jvm.ClassFile.FieldType.char), Jvm.Cond.code ({ cls := "java/lang/String", name := "checkIndex", desc := "(II)V" } : Jvm.MethodName) jdk_42_method_155_code (2 : Nat) (Option.none : Option Jvm.ClassFile.FieldType), Jvm.Cond.code ({ cls := "jdk/internal/util/Preconditions", name := "checkIndex", desc := "(IILjava/util/function/BiFunction;)I" } : Jvm.MethodName) jdk_41_method_11_code (3 : Nat) (Option.some Jvm.ClassFile.FieldType.int)]
set_option maxRecDepth 65536 in
theorem codes_eq : words1.filter isCode = codes1 := rfl
theorem w_codes : ∀ c ∈ words1.filter isCode, c.before args0 about1 = true := by
  rw [codes_eq]
  intro c hc
  simp only [codes1, List.mem_cons, List.not_mem_nil, or_false] at hc
  rcases hc with rfl | rfl | rfl | rfl | rfl | rfl | rfl | rfl | rfl | rfl
  · exact w_c0
  · exact w_c1
  · exact w_c2
  · exact w_c3
  · exact w_c4
  · exact w_c5
  · exact w_c6
  · exact w_c7
  · exact w_c8
  · exact w_c9
set_option maxRecDepth 65536 in
theorem w_t1 : (words1.take 24).all (fun c => isCode c || c.before args0 about1) = true := by decide +kernel
set_option maxRecDepth 65536 in
theorem w_t2 : ((words1.drop 24).take 24).all (fun c => isCode c || c.before args0 about1) = true := by decide +kernel
set_option maxRecDepth 65536 in
theorem w_t3 : ((words1.drop 24).drop 24).all (fun c => isCode c || c.before args0 about1) = true := by decide +kernel
theorem w_tables : (allAtoms (Jvm.Cond.code x code maxLocals ret :: tables_1)).before args0 about1 = true := by
  rw [allAtoms_all]
  show words1.all (fun c => c.before args0 about1) = true
  refine all_split ?_ w_codes
  rw [← List.take_append_drop 24 words1, List.all_append, w_t1, ← List.take_append_drop 24 (words1.drop 24), List.all_append, w_t2, w_t3]
  rfl
set_option maxRecDepth 65536 in
theorem w_rest : rest_1_c.before args0 about1 = true := by decide +kernel
set_option maxRecDepth 65536 in
theorem w_case : (Jvm.Cond.and given_1 narrow_1).before args0 about1 = true := by decide +kernel
theorem w_applies : (headSpec (Jvm.Cond.code x code maxLocals ret :: tables_1) room_1).applies x e0.platform about1 = true :=
  (Spec.applies_iff w_frames).mpr ⟨w_running, w_runnable, w_alone, w_named, w_hears, w_ripe, w_room, w_tables⟩
theorem atStart : AtStart classFile x code maxLocals ret World_1 tables_1 room_1 Calls_1 rest_1 Pre_1 launch0 p0 e0 about1 theMethod args0 below0 :=
  ⟨lists_1, trivial, launch0.admits_env _ _ _, launch0.least_env, fairChoices_fair.cas, fairChoices_fair.clock, w_frames, w_args, w_heap, w_applies, trivial, w_rest, w_case⟩
end start1
theorem witness_1 : WitnessClaimed_1 := ⟨start1.p0, start1.e0, start1.about1, start1.theMethod, start1.args0, start1.below0, start1.atStart⟩
end Jvm.Pilot.@@N@@
