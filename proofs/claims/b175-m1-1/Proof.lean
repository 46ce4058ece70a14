import JvmDerived
import JvmDerived.Pilot.@@N@@Statement
import JvmDerived.Pilot.@@N@@Code
set_option linter.unusedVariables false
set_option linter.unusedSimpArgs false
namespace Jvm.Own
open Sem ClassFile Op Lib Jvm.Stand Jvm.Free Jvm.LawKit Jvm.RoadKit
/-- from the frame f over T the run ends in a return that Q speaks of -/
def Run (p : Program) (e : Env) (s : State) (below : List Frame) (Q : Option Value → Heap → List Loc → Prop) (cm sm : Nat) (T : State) (f : JFrame) : Prop :=
  ∃ s₂ o, Steps p.tables e below (T.setTop f) s₂ ∧ s₂.status = .running ∧ Ended s₂ below o ∧ ∃ v L, o = .returned v ∧ Q v s₂.heap L ∧ FrameEnd s o s₂ L cm sm
section Own
variable {p : Program} {l : Launch} {e : Env} {R : Room} {s : State} {m : MethodId} {args : Array Value} {below : List Frame} {meth : Method} {c : Code} {T : State} {locs : List Loc} {cells slots : Nat} {Q : Option Value → Heap → List Loc → Prop} {cm sm : Nat}
theorem go {T' : State} {f f' : JFrame} (st : ∀ target, Steps p.tables e below (T'.setTop f') target → Steps p.tables e below (T.setTop f) target) (k : Run p e s below Q cm sm T' f') : Run p e s below Q cm sm T f := by
  obtain ⟨s₂, o, h, r⟩ := k
  exact ⟨s₂, o, st _ h, r⟩
theorem retZ (X : Stand p l e R s m args below meth c T locs cells slots) (hx : p.tables.exec = Jvm.exec) {pc : Nat} {Ls : Array Slot} {z : Int32} {t : FieldType} {rest : List Value} (hret : meth.sig.returnType = some t) (ht : t = .boolean ∨ t = .byte ∨ t = .char ∨ t = .short)
    (hd : decode c.code pc = .ok (.ireturn, 1)) (hlk : meth.locks = false) (hc : cells ≤ cm) (hs : slots ≤ sm) (hq : Q (some (.int (nar t z))) T.heap locs) : Run p e s below Q cm sm T (mkF m pc Ls (.int z :: rest)) := by
  obtain ⟨fs, hr, hrun, hended, hW, hsame⟩ := X.leave (v := some (.int (nar t z))) (fun h => by rw [hret] at h; cases h) hlk
  exact ⟨_, _, retN X hx hret ht hd hr, hrun, hended, _, _, rfl, hq, ⟨_, rfl⟩, hW, hsame.mono hc hs⟩
theorem retW (X : Stand p l e R s m args below meth c T locs cells slots) (hx : p.tables.exec = Jvm.exec) {pc : Nat} {Ls : Array Slot} {w : Value} {t : FieldType} {i : Instr} {rest : List Value} (hret : meth.sig.returnType = some t) (hn : narrow t w = w)
    (hi : (i = .ireturn ∧ (t = .int ∨ t = .boolean ∨ t = .byte ∨ t = .char ∨ t = .short) ∧ ∃ z, w = .int z) ∨ (i = .lreturn ∧ t = .long ∧ ∃ z, w = .long z) ∨ (i = .dreturn ∧ t = .double ∧ ∃ z, w = .double z) ∨ (i = .freturn ∧ t = .float ∧ ∃ z, w = .float z) ∨ (i = .areturn ∧ t.isReference = true ∧ w.isRef = true))
    (hd : decode c.code pc = .ok (i, 1)) (hlk : meth.locks = false) (hc : cells ≤ cm) (hs : slots ≤ sm) (hq : Q (some w) T.heap locs) : Run p e s below Q cm sm T (mkF m pc Ls (w :: rest)) := by
  obtain ⟨fs, hr, hrun, hended, hW, hsame⟩ := X.leave (v := some w) (fun h => by rw [hret] at h; cases h) hlk
  exact ⟨_, _, retOut X hx hret hn hi hd hr, hrun, hended, _, _, rfl, hq, ⟨_, rfl⟩, hW, hsame.mono hc hs⟩
theorem retV (X : Stand p l e R s m args below meth c T locs cells slots) (hx : p.tables.exec = Jvm.exec) {pc : Nat} {Ls : Array Slot} (hret : meth.sig.returnType = none)
    (hd : decode c.code pc = .ok (.return_, 1)) (hlk : meth.locks = false) (hc : cells ≤ cm) (hs : slots ≤ sm) (hq : Q none T.heap locs) : Run p e s below Q cm sm T (mkF m pc Ls []) := by
  obtain ⟨fs, hr, hrun, hended, hW, hsame⟩ := X.leave (v := none) (fun _ => rfl) hlk
  exact ⟨_, _, X.returnOut hx hret hd hr, hrun, hended, _, _, rfl, hq, ⟨_, rfl⟩, hW, hsame.mono hc hs⟩
end Own
section Heap
variable {Z : State} {h h' h0 : Heap} {a b : Addr} {ty : FieldType} {vs : List Value} {ws ws' : List Addr} {v : Value} {k : ClassId} {z j : Int32}
/-- an array and all that it holds -/
def Ary (Z : State) (h : Heap) (a : Addr) (ty : FieldType) (vs : List Value) : Prop := ∃ c : Cell, Arr Z h a c ty ∧ c.slots.toList = vs ∧ vs.length < 2147483648 ∧ ∀ v ∈ vs, fits ty v = true
theorem Ary.lt (A : Ary Z h a ty vs) : a < h.size := by obtain ⟨c, A, -⟩ := A; exact A.lt
theorem Ary.ext (A : Ary Z h a ty vs) (E : Ext h h') : Ary Z h' a ty vs := by obtain ⟨c, A, r⟩ := A; exact ⟨c, A.ext E, r⟩
theorem Ary.keep (A : Ary Z h a ty vs) (K : Keep h h' ws) (q : a ∉ ws) : Ary Z h' a ty vs := by obtain ⟨c, A, r⟩ := A; exact ⟨c, ⟨K.2.1 a c A.1 q, A.2⟩, r⟩
theorem Ary.set (A : Ary Z h a ty vs) {i : Nat} (W : Wr h h' a i v) (hv : fits ty v = true) : Ary Z h' a ty (vs.set i v) := by
  obtain ⟨c, A, e, l, f⟩ := A
  refine ⟨_, A.same W, by simp [Cell.setSlot, e], by simpa using l, fun w hw => ?_⟩
  rcases List.mem_or_eq_of_mem_set hw with q | rfl
  · exact f w q
  · exact hv
theorem Ary.ld (A : Ary Z h a ty vs) (hj : ¬ j < 0) (hv : vs[j.toNatClampNeg]? = some v) : ∃ c : Cell, Arr Z h a c ty ∧ ¬ (j < 0 ∨ c.slots.size ≤ j.toNatClampNeg) ∧ c.slots[j.toNatClampNeg]? = some v := by
  obtain ⟨c, A, e, l, f⟩ := A
  have q : c.slots[j.toNatClampNeg]? = some v := by rw [← Array.getElem?_toList, e]; exact hv
  exact ⟨c, A, fun r => r.elim hj fun y => absurd (Array.getElem?_eq_some_iff.mp q).1 (Nat.not_lt.mpr y), q⟩
theorem Ary.st (A : Ary Z h a ty vs) (hj : ¬ j < 0) (hl : j.toNatClampNeg < vs.length) : ∃ c : Cell, Arr Z h a c ty ∧ ¬ (j < 0 ∨ c.slots.size ≤ j.toNatClampNeg) := by
  obtain ⟨c, A, e, l, f⟩ := A
  refine ⟨c, A, fun r => r.elim hj fun y => ?_⟩
  rw [← e, Array.length_toList] at hl
  omega
theorem Ary.len (A : Ary Z h a ty vs) : ∃ c : Cell, Arr Z h a c ty ∧ c.slots.size.toInt32 = vs.length.toInt32 := by
  obtain ⟨c, A, e, l, f⟩ := A
  exact ⟨c, A, by rw [← e, Array.length_toList]⟩
theorem Ary.new (A : Arr Z h a (newA k ty z) ty) : Ary Z h a ty (List.replicate z.toNatClampNeg (defaultValue ty)) := by
  refine ⟨_, A, by simp [newA], ?_, fun v hv => ?_⟩
  · rw [List.length_replicate]
    have := Int32.toInt_lt z
    simp only [Int32.toNatClampNeg]
    omega
  · rw [List.eq_of_mem_replicate hv]
    cases ty <;> rfl
theorem Ary.fit (A : Ary Z h a ty vs) : ∃ c : Cell, Arr Z h a c ty ∧ FitC Z c ∧ c.slots.toList = vs ∧ c.slots.size = vs.length ∧ (Arr Z h' b (cloneOf c) ty → Ary Z h' b ty vs) := by
  obtain ⟨c, A, e, l, f⟩ := A
  refine ⟨c, A, fitC_of A fun i hi v hv => ?_, e, by rw [← e, Array.length_toList], fun B => ⟨_, B, e, l, f⟩⟩
  refine f v ?_
  rw [← e]
  exact List.mem_of_getElem? (by rw [Array.getElem?_toList]; exact hv)
theorem ldI {p : Program} {l : Launch} {e : Env} {R : Room} {s : State} {m : MethodId} {args : Array Value} {below : List Frame} {meth : Method} {c : Code} {T : State} {locs : List Loc} {cells slots : Nat} (X : Stand p l e R s m args below meth c T locs cells slots) (hx : p.tables.exec = Jvm.exec) (hZ : Z.Warmed39 s.vm) (eT : T.heap = h) (A : Ary Z h a .int vs) (hj : ¬ j < 0) (hv : vs[j.toNatClampNeg]? = some v) {g : JFrame} (hg : g.method = m) {rest : List Value} (hs : g.stack = .int j :: .ref a :: rest) (hd : decode c.code g.pc = .ok (.iaload, 1)) (target : State)
    (hr : Steps p.tables e below (T.setTop { g with pc := g.pc + 1, stack := v :: rest }) target) : Steps p.tables e below (T.setTop g) target := by
  obtain ⟨cl, Ar, hin, hat⟩ := A.ld hj hv
  exact X.iaload hx (by rw [eT]; exact Ar.1) (State.isArrayOf_alike hZ.alike Ar.2.1) Ar.2.2 hin hat hg hs hd target hr
theorem ldJ {p : Program} {l : Launch} {e : Env} {R : Room} {s : State} {m : MethodId} {args : Array Value} {below : List Frame} {meth : Method} {c : Code} {T : State} {locs : List Loc} {cells slots : Nat} (X : Stand p l e R s m args below meth c T locs cells slots) (hx : p.tables.exec = Jvm.exec) (hZ : Z.Warmed39 s.vm) (eT : T.heap = h) (A : Ary Z h a .long vs) (hj : ¬ j < 0) (hv : vs[j.toNatClampNeg]? = some v) {g : JFrame} (hg : g.method = m) {rest : List Value} (hs : g.stack = .int j :: .ref a :: rest) (hd : decode c.code g.pc = .ok (.laload, 1)) (target : State)
    (hr : Steps p.tables e below (T.setTop { g with pc := g.pc + 1, stack := v :: rest }) target) : Steps p.tables e below (T.setTop g) target := by
  obtain ⟨cl, Ar, hin, hat⟩ := A.ld hj hv
  exact X.laload hx (by rw [eT]; exact Ar.1) (State.isArrayOf_alike hZ.alike Ar.2.1) Ar.2.2 hin hat hg hs hd target hr
theorem ldC {p : Program} {l : Launch} {e : Env} {R : Room} {s : State} {m : MethodId} {args : Array Value} {below : List Frame} {meth : Method} {c : Code} {T : State} {locs : List Loc} {cells slots : Nat} (X : Stand p l e R s m args below meth c T locs cells slots) (hx : p.tables.exec = Jvm.exec) (hZ : Z.Warmed39 s.vm) (eT : T.heap = h) (A : Ary Z h a .char vs) (hj : ¬ j < 0) (hv : vs[j.toNatClampNeg]? = some v) {g : JFrame} (hg : g.method = m) {rest : List Value} (hs : g.stack = .int j :: .ref a :: rest) (hd : decode c.code g.pc = .ok (.caload, 1)) (target : State)
    (hr : Steps p.tables e below (T.setTop { g with pc := g.pc + 1, stack := v :: rest }) target) : Steps p.tables e below (T.setTop g) target := by
  obtain ⟨cl, Ar, hin, hat⟩ := A.ld hj hv
  exact X.caload hx (by rw [eT]; exact Ar.1) (State.isArrayOf_alike hZ.alike Ar.2.1) Ar.2.2 hin hat hg hs hd target hr
theorem ldB {p : Program} {l : Launch} {e : Env} {R : Room} {s : State} {m : MethodId} {args : Array Value} {below : List Frame} {meth : Method} {c : Code} {T : State} {locs : List Loc} {cells slots : Nat} (X : Stand p l e R s m args below meth c T locs cells slots) (hx : p.tables.exec = Jvm.exec) (hZ : Z.Warmed39 s.vm) (eT : T.heap = h) (A : Ary Z h a .byte vs) (hj : ¬ j < 0) (hv : vs[j.toNatClampNeg]? = some v) {g : JFrame} (hg : g.method = m) {rest : List Value} (hs : g.stack = .int j :: .ref a :: rest) (hd : decode c.code g.pc = .ok (.baload, 1)) (target : State)
    (hr : Steps p.tables e below (T.setTop { g with pc := g.pc + 1, stack := v :: rest }) target) : Steps p.tables e below (T.setTop g) target := by
  obtain ⟨cl, Ar, hin, hat⟩ := A.ld hj hv
  exact X.baloadBytes hx (by rw [eT]; exact Ar.1) (State.isArrayOf_alike hZ.alike Ar.2.1) Ar.2.2 hin hat hg hs hd target hr
theorem ldZ {p : Program} {l : Launch} {e : Env} {R : Room} {s : State} {m : MethodId} {args : Array Value} {below : List Frame} {meth : Method} {c : Code} {T : State} {locs : List Loc} {cells slots : Nat} (X : Stand p l e R s m args below meth c T locs cells slots) (hx : p.tables.exec = Jvm.exec) (hZ : Z.Warmed39 s.vm) (eT : T.heap = h) (A : Ary Z h a .boolean vs) (hj : ¬ j < 0) (hv : vs[j.toNatClampNeg]? = some v) {g : JFrame} (hg : g.method = m) {rest : List Value} (hs : g.stack = .int j :: .ref a :: rest) (hd : decode c.code g.pc = .ok (.baload, 1)) (target : State)
    (hr : Steps p.tables e below (T.setTop { g with pc := g.pc + 1, stack := v :: rest }) target) : Steps p.tables e below (T.setTop g) target := by
  obtain ⟨cl, Ar, hin, hat⟩ := A.ld hj hv
  exact X.baloadBooleans hx (by rw [eT]; exact Ar.1) (State.isArrayOf_alike hZ.alike Ar.2.1) Ar.2.2 hin hat hg hs hd target hr
theorem ldR {p : Program} {l : Launch} {e : Env} {R : Room} {s : State} {m : MethodId} {args : Array Value} {below : List Frame} {meth : Method} {c : Code} {T : State} {locs : List Loc} {cells slots : Nat} (X : Stand p l e R s m args below meth c T locs cells slots) (hx : p.tables.exec = Jvm.exec) (hZ : Z.Warmed39 s.vm) (eT : T.heap = h) (A : Ary Z h a ty vs) (ht : ty.isReference = true) (hj : ¬ j < 0) (hv : vs[j.toNatClampNeg]? = some v) {g : JFrame} (hg : g.method = m) {rest : List Value} (hs : g.stack = .int j :: .ref a :: rest) (hd : decode c.code g.pc = .ok (.aaload, 1)) (target : State)
    (hr : Steps p.tables e below (T.setTop { g with pc := g.pc + 1, stack := v :: rest }) target) : Steps p.tables e below (T.setTop g) target := by
  obtain ⟨cl, Ar, hin, hat⟩ := A.ld hj hv
  exact X.aaload hx (by rw [eT]; exact Ar.1) (State.isArrayOf_alike hZ.alike Ar.2.1) ht Ar.2.2 hin hat hg hs hd target hr
theorem alen {p : Program} {l : Launch} {e : Env} {R : Room} {s : State} {m : MethodId} {args : Array Value} {below : List Frame} {meth : Method} {c : Code} {T : State} {locs : List Loc} {cells slots : Nat} (X : Stand p l e R s m args below meth c T locs cells slots) (hx : p.tables.exec = Jvm.exec) (hZ : Z.Warmed39 s.vm) (eT : T.heap = h) (A : Ary Z h a ty vs) (hn : vs.length.toInt32 = z) {g : JFrame} (hg : g.method = m) {rest : List Value} (hs : g.stack = .ref a :: rest) (hd : decode c.code g.pc = .ok (.arraylength, 1)) (target : State)
    (hr : Steps p.tables e below (T.setTop { g with pc := g.pc + 1, stack := .int z :: rest }) target) : Steps p.tables e below (T.setTop g) target := by
  obtain ⟨cl, Ar, ln⟩ := A.len
  exact X.arraylength hx (by rw [eT]; exact Ar.1) (State.isArrayOf_alike hZ.alike Ar.2.1) hg hs hd target (by rw [ln.trans hn]; exact hr)
theorem getI {xs : List Int32} {i : Nat} (q : i < xs.length) : (xs.map Value.int)[i]? = some (.int (xs.getD i 0)) := by
  simp [List.getElem?_map, List.getD_eq_getElem?_getD, List.getElem?_eq_getElem q]
theorem setI {xs : List Int32} {i : Nat} {x : Int32} : (xs.map Value.int).set i (.int x) = (xs.set i x).map Value.int := List.map_set.symm
/-- an array made over the class C -/
def OvA (Z : State) (h : Heap) (a : Addr) (C : String) : Prop := ∃ c : Cell, h[a]? = some c ∧ Ovr Z c.cls C
theorem OvA.keep {C : String} (O : OvA Z h a C) (K : Keep h h' ws) : OvA Z h' a C := by
  obtain ⟨c, e, o⟩ := O
  obtain ⟨c', q, r1, -, -⟩ := K.2.2 a c e
  exact ⟨c', q, r1 ▸ o⟩
theorem stA {C : String} {y : Addr} (O : OvA Z h a C) (A : Ary Z h a ty vs) (I : Ins Z h y C true) : Sto Z h a (.ref y) := by
  obtain ⟨c, A, -⟩ := A
  obtain ⟨c', e, o⟩ := O
  cases A.1.symm.trans e
  exact Sto.of A o I
theorem eqi_v {args : Array Value} {first s : State} {o : Option Outcome} {idx : List Nat} {t : Term} {k : Int32} (q : (Cond.eq t (.int k)).value args first o s idx = some true) : t.eval args first o idx s = some (.int k) := by
  simp only [Cond.value, Term.eval] at q
  cases ht : t.eval args first o idx s with
  | none => simp [ht] at q
  | some x => cases x <;> simp [ht] at q ⊢; exact q
theorem nin1 {x y : Addr} (q : x ≠ y) : x ∉ [y] := ninS q nin0
end Heap
end Jvm.Own
namespace Jvm.Pilot.@@N@@
open Jvm Jvm.ClassFile Sem Op Lib Jvm.Free Jvm.Stand Jvm.LawKit Jvm.RoadKit Jvm.Own Bundle Jvm.Pilot.@@N@@.Jvm.D
def own_nm (p0 : Int32) : Int32 := (if (32 : Int32) < p0 then (if p0 < (127 : Int32) then (if p0 = (44 : Int32) then (0 : Int32) else (if p0 = (58 : Int32) then (0 : Int32) else (if p0 = (60 : Int32) then (0 : Int32) else (if p0 = (62 : Int32) then (0 : Int32) else (if p0 = (123 : Int32) then (0 : Int32) else (if p0 = (125 : Int32) then (0 : Int32) else (1 : Int32))))))) else (0 : Int32)) else (0 : Int32))
theorem d1_0 : decode prog_28_method_2_code 0 = .ok (.iload_n 0, 1) := by decide +kernel
theorem d1_1 : decode prog_28_method_2_code 1 = .ok (.bipush 32, 2) := by decide +kernel
theorem d1_3 : decode prog_28_method_2_code 3 = .ok (.if_icmp .le 49, 3) := by decide +kernel
theorem d1_6 : decode prog_28_method_2_code 6 = .ok (.iload_n 0, 1) := by decide +kernel
theorem d1_7 : decode prog_28_method_2_code 7 = .ok (.bipush 127, 2) := by decide +kernel
theorem d1_9 : decode prog_28_method_2_code 9 = .ok (.if_icmp .ge 43, 3) := by decide +kernel
theorem d1_12 : decode prog_28_method_2_code 12 = .ok (.iload_n 0, 1) := by decide +kernel
theorem d1_13 : decode prog_28_method_2_code 13 = .ok (.bipush 44, 2) := by decide +kernel
theorem d1_15 : decode prog_28_method_2_code 15 = .ok (.if_icmp .eq 37, 3) := by decide +kernel
theorem d1_52 : decode prog_28_method_2_code 52 = .ok (.iconst 0, 1) := by decide +kernel
theorem d1_18 : decode prog_28_method_2_code 18 = .ok (.iload_n 0, 1) := by decide +kernel
theorem d1_19 : decode prog_28_method_2_code 19 = .ok (.bipush 58, 2) := by decide +kernel
theorem d1_21 : decode prog_28_method_2_code 21 = .ok (.if_icmp .eq 31, 3) := by decide +kernel
theorem d1_24 : decode prog_28_method_2_code 24 = .ok (.iload_n 0, 1) := by decide +kernel
theorem d1_25 : decode prog_28_method_2_code 25 = .ok (.bipush 60, 2) := by decide +kernel
theorem d1_27 : decode prog_28_method_2_code 27 = .ok (.if_icmp .eq 25, 3) := by decide +kernel
theorem d1_30 : decode prog_28_method_2_code 30 = .ok (.iload_n 0, 1) := by decide +kernel
theorem d1_31 : decode prog_28_method_2_code 31 = .ok (.bipush 62, 2) := by decide +kernel
theorem d1_33 : decode prog_28_method_2_code 33 = .ok (.if_icmp .eq 19, 3) := by decide +kernel
theorem d1_36 : decode prog_28_method_2_code 36 = .ok (.iload_n 0, 1) := by decide +kernel
theorem d1_37 : decode prog_28_method_2_code 37 = .ok (.bipush 123, 2) := by decide +kernel
theorem d1_39 : decode prog_28_method_2_code 39 = .ok (.if_icmp .eq 13, 3) := by decide +kernel
theorem d1_42 : decode prog_28_method_2_code 42 = .ok (.iload_n 0, 1) := by decide +kernel
theorem d1_43 : decode prog_28_method_2_code 43 = .ok (.bipush 125, 2) := by decide +kernel
theorem d1_45 : decode prog_28_method_2_code 45 = .ok (.if_icmp .eq 7, 3) := by decide +kernel
theorem d1_48 : decode prog_28_method_2_code 48 = .ok (.iconst 1, 1) := by decide +kernel
theorem d1_49 : decode prog_28_method_2_code 49 = .ok (.goto 4, 3) := by decide +kernel
theorem d1_53 : decode prog_28_method_2_code 53 = .ok (.ireturn, 1) := by decide +kernel
theorem pn_1 : plainName "com/example/stationbook/stationbook/format/Field" = true := by first | (simp [plainName, overriddenIn]; done) | decide +kernel
theorem ef_1 (m : MethodId) (x0 : Int32) : entryFrame m #[(.int x0)] 1 = mkF m 0 #[.val (.int x0)] [] := by first | (simp [entryFrame, mkF, argsToLocals, Value.category]; done) | rfl
def Q1 (Z : State) (p0 : Int32) (h0 : Heap) (n0 : Nat) (v : Option Value) (h : Heap) (L : List Loc) : Prop := v = some (.int (own_nm p0)) ∧ Fr n0 L ∧ h = h0
set_option maxRecDepth 65536 in
set_option maxHeartbeats 40000000 in
theorem rm1 (l : Launch) (Z : State) (a0 : Array Value) (hw : ∀ d ∈ tables_1, d.before a0 Z = true) (ws : List Jvm.Cond) (p0 : Int32) (h0 : Heap) (n0 : Nat) (Z0 : n0 ≤ h0.size) :
    MetFree l (⟨"com/example/stationbook/stationbook/format/Field", "isNameCharacter", "(I)Z"⟩ : MethodName) (head1 (Jvm.Cond.code (⟨"com/example/stationbook/stationbook/format/Field", "isNameCharacter", "(I)Z"⟩ : MethodName) prog_28_method_2_code 1 (some .boolean) :: ws) ({ frames := 0, cells := 0, slots := 0, locals := 0 } : Room)) (fun a U => a = #[(.int p0)] ∧ Z.Warmed39 U.vm ∧ U.heap = h0) (fun _ _ _ _ _ => True) (fun _ U o U' => ∃ v L, o = .returned v ∧ Q1 Z p0 h0 n0 v U'.heap L ∧ FrameEnd U o U' L ({ frames := 0, cells := 0, slots := 0, locals := 0 } : Room).cells ({ frames := 0, cells := 0, slots := 0, locals := 0 } : Room).slots) := by
  refine MetFree.of_bodySF (plainFor_of_name pn_1) hisR ?_
  intro p e s m args below meth c s₁ Bd hml0 hP hK
  obtain ⟨rfl, hZ, hh⟩ := hP
  have hx := Bd.exec
  have hby := Bd.bytes
  have hml : c.maxLocals = 1 := hml0
  have hown : s.vm.findClass "com/example/stationbook/stationbook/format/Field" = some m.cls := findClass_of_methodNamed Bd.named
  have hnm := (name_of_methodNamed Bd.named Bd.method).1
  have hlk : meth.locks = false := BodyLoose.notSynchronized Bd
  have X0 : Stand p l e ({ frames := 0, cells := 0, slots := 0, locals := 0 } : Room) s m #[(.int p0)] below meth c s₁ [] 0 0 := Stand.of_body Bd
  have e0 : s₁.heap = h0 := by rw [← hh, Bd.state]; rfl
  have N0 := Fr.nil n0
  show Run p e s below (Q1 Z p0 h0 n0) ({ frames := 0, cells := 0, slots := 0, locals := 0 } : Room).cells ({ frames := 0, cells := 0, slots := 0, locals := 0 } : Room).slots s₁ (entryFrame m #[(.int p0)] 1)
  rw [ef_1]
  show Run _ _ _ _ _ _ _ s₁ (mkF m 0 #[.val (.int p0)] [])
  refine go (T' := s₁) (f' := (mkF m 1 #[.val (.int p0)] [(.int p0)])) (by intro t k; exact XS.iloadN X0.here hx rfl (hb hby d1_0) rfl k) ?_
  show Run _ _ _ _ _ _ _ s₁ (mkF m 1 #[.val (.int p0)] [(.int p0)])
  refine go (T' := s₁) (f' := (mkF m 3 #[.val (.int p0)] [(.int (32 : Int32)), (.int p0)])) (by intro t k; exact XS.bipush X0.here hx rfl (hb hby d1_1) k) ?_
  show Run _ _ _ _ _ _ _ s₁ (mkF m 3 #[.val (.int p0)] [(.int (32 : Int32)), (.int p0)])
  obtain ⟨z1, hz1⟩ : ∃ z : Int32, z = (if (32 : Int32) < p0 then (if p0 < (127 : Int32) then (if p0 = (44 : Int32) then (0 : Int32) else (if p0 = (58 : Int32) then (0 : Int32) else (if p0 = (60 : Int32) then (0 : Int32) else (if p0 = (62 : Int32) then (0 : Int32) else (if p0 = (123 : Int32) then (0 : Int32) else (if p0 = (125 : Int32) then (0 : Int32) else (1 : Int32))))))) else (0 : Int32)) else (0 : Int32)) := ⟨_, rfl⟩
  have J3 : Run p e s below (Q1 Z p0 h0 n0) ({ frames := 0, cells := 0, slots := 0, locals := 0 } : Room).cells ({ frames := 0, cells := 0, slots := 0, locals := 0 } : Room).slots s₁ (mkF m 53 #[.val (.int p0)] [(.int z1)]) := by
    show Run _ _ _ _ _ _ _ s₁ (mkF m 53 #[.val (.int p0)] [(.int z1)])
    refine retZ X0 hx (t := .boolean) Bd.returns (by simp) (hb hby d1_53) hlk (by decide) (by decide) ?_
    show Q1 Z p0 h0 n0 _ s₁.heap _
    rw [e0]
    have hv' : (nar .boolean z1) = (own_nm p0) := by
      subst_vars
      unfold own_nm
      first | rfl | ((repeat' split) <;> first | rfl | contradiction) | simp [nar, *]
    have hv : (some (.int (nar .boolean z1)) : Option Value) = some (.int (own_nm p0)) := by rw [hv']
    exact ⟨hv, N0, rfl⟩
  show Run _ _ _ _ _ _ _ s₁ (mkF m 3 #[.val (.int p0)] [(.int (32 : Int32)), (.int p0)])
  by_cases hc3 : (32 : Int32) < p0
  · refine go (T' := s₁) (f' := (mkF m 6 #[.val (.int p0)] [])) (by intro t k; exact XS.icmpNo X0.here hx rfl (hb hby d1_3) rfl (tlt hc3).2.2.2 k) ?_
    show Run _ _ _ _ _ _ _ s₁ (mkF m 6 #[.val (.int p0)] [])
    refine go (T' := s₁) (f' := (mkF m 7 #[.val (.int p0)] [(.int p0)])) (by intro t k; exact XS.iloadN X0.here hx rfl (hb hby d1_6) rfl k) ?_
    show Run _ _ _ _ _ _ _ s₁ (mkF m 7 #[.val (.int p0)] [(.int p0)])
    refine go (T' := s₁) (f' := (mkF m 9 #[.val (.int p0)] [(.int (127 : Int32)), (.int p0)])) (by intro t k; exact XS.bipush X0.here hx rfl (hb hby d1_7) k) ?_
    show Run _ _ _ _ _ _ _ s₁ (mkF m 9 #[.val (.int p0)] [(.int (127 : Int32)), (.int p0)])
    by_cases hc9 : p0 < (127 : Int32)
    · refine go (T' := s₁) (f' := (mkF m 12 #[.val (.int p0)] [])) (by intro t k; exact XS.icmpNo X0.here hx rfl (hb hby d1_9) rfl (tlt hc9).2.1 k) ?_
      show Run _ _ _ _ _ _ _ s₁ (mkF m 12 #[.val (.int p0)] [])
      refine go (T' := s₁) (f' := (mkF m 13 #[.val (.int p0)] [(.int p0)])) (by intro t k; exact XS.iloadN X0.here hx rfl (hb hby d1_12) rfl k) ?_
      show Run _ _ _ _ _ _ _ s₁ (mkF m 13 #[.val (.int p0)] [(.int p0)])
      refine go (T' := s₁) (f' := (mkF m 15 #[.val (.int p0)] [(.int (44 : Int32)), (.int p0)])) (by intro t k; exact XS.bipush X0.here hx rfl (hb hby d1_13) k) ?_
      show Run _ _ _ _ _ _ _ s₁ (mkF m 15 #[.val (.int p0)] [(.int (44 : Int32)), (.int p0)])
      by_cases hc15 : p0 = (44 : Int32)
      · refine go (T' := s₁) (f' := (mkF m 52 #[.val (.int p0)] [])) (by intro t k; exact XS.icmpYes X0.here hx rfl (pc0 := 15) (pc' := 52) rfl (hb hby d1_15) rfl (teq hc15).1 (by decide) (by decide) k) ?_
        show Run _ _ _ _ _ _ _ s₁ (mkF m 52 #[.val (.int p0)] [])
        refine go (T' := s₁) (f' := (mkF m 53 #[.val (.int p0)] [(.int (0 : Int32))])) (by intro t k; exact XS.iconst X0.here hx rfl (hb hby d1_52) k) ?_
        have ez1 : z1 = (0 : Int32) := (((hz1).trans (if_pos hc3)).trans (if_pos hc9)).trans (if_pos hc15)
        subst ez1
        exact J3
      · refine go (T' := s₁) (f' := (mkF m 18 #[.val (.int p0)] [])) (by intro t k; exact XS.icmpNo X0.here hx rfl (hb hby d1_15) rfl (feq hc15).1 k) ?_
        show Run _ _ _ _ _ _ _ s₁ (mkF m 18 #[.val (.int p0)] [])
        refine go (T' := s₁) (f' := (mkF m 19 #[.val (.int p0)] [(.int p0)])) (by intro t k; exact XS.iloadN X0.here hx rfl (hb hby d1_18) rfl k) ?_
        show Run _ _ _ _ _ _ _ s₁ (mkF m 19 #[.val (.int p0)] [(.int p0)])
        refine go (T' := s₁) (f' := (mkF m 21 #[.val (.int p0)] [(.int (58 : Int32)), (.int p0)])) (by intro t k; exact XS.bipush X0.here hx rfl (hb hby d1_19) k) ?_
        show Run _ _ _ _ _ _ _ s₁ (mkF m 21 #[.val (.int p0)] [(.int (58 : Int32)), (.int p0)])
        by_cases hc21 : p0 = (58 : Int32)
        · refine go (T' := s₁) (f' := (mkF m 52 #[.val (.int p0)] [])) (by intro t k; exact XS.icmpYes X0.here hx rfl (pc0 := 21) (pc' := 52) rfl (hb hby d1_21) rfl (teq hc21).1 (by decide) (by decide) k) ?_
          show Run _ _ _ _ _ _ _ s₁ (mkF m 52 #[.val (.int p0)] [])
          refine go (T' := s₁) (f' := (mkF m 53 #[.val (.int p0)] [(.int (0 : Int32))])) (by intro t k; exact XS.iconst X0.here hx rfl (hb hby d1_52) k) ?_
          have ez1 : z1 = (0 : Int32) := ((((hz1).trans (if_pos hc3)).trans (if_pos hc9)).trans (if_neg hc15)).trans (if_pos hc21)
          subst ez1
          exact J3
        · refine go (T' := s₁) (f' := (mkF m 24 #[.val (.int p0)] [])) (by intro t k; exact XS.icmpNo X0.here hx rfl (hb hby d1_21) rfl (feq hc21).1 k) ?_
          show Run _ _ _ _ _ _ _ s₁ (mkF m 24 #[.val (.int p0)] [])
          refine go (T' := s₁) (f' := (mkF m 25 #[.val (.int p0)] [(.int p0)])) (by intro t k; exact XS.iloadN X0.here hx rfl (hb hby d1_24) rfl k) ?_
          show Run _ _ _ _ _ _ _ s₁ (mkF m 25 #[.val (.int p0)] [(.int p0)])
          refine go (T' := s₁) (f' := (mkF m 27 #[.val (.int p0)] [(.int (60 : Int32)), (.int p0)])) (by intro t k; exact XS.bipush X0.here hx rfl (hb hby d1_25) k) ?_
          show Run _ _ _ _ _ _ _ s₁ (mkF m 27 #[.val (.int p0)] [(.int (60 : Int32)), (.int p0)])
          by_cases hc27 : p0 = (60 : Int32)
          · refine go (T' := s₁) (f' := (mkF m 52 #[.val (.int p0)] [])) (by intro t k; exact XS.icmpYes X0.here hx rfl (pc0 := 27) (pc' := 52) rfl (hb hby d1_27) rfl (teq hc27).1 (by decide) (by decide) k) ?_
            show Run _ _ _ _ _ _ _ s₁ (mkF m 52 #[.val (.int p0)] [])
            refine go (T' := s₁) (f' := (mkF m 53 #[.val (.int p0)] [(.int (0 : Int32))])) (by intro t k; exact XS.iconst X0.here hx rfl (hb hby d1_52) k) ?_
            have ez1 : z1 = (0 : Int32) := (((((hz1).trans (if_pos hc3)).trans (if_pos hc9)).trans (if_neg hc15)).trans (if_neg hc21)).trans (if_pos hc27)
            subst ez1
            exact J3
          · refine go (T' := s₁) (f' := (mkF m 30 #[.val (.int p0)] [])) (by intro t k; exact XS.icmpNo X0.here hx rfl (hb hby d1_27) rfl (feq hc27).1 k) ?_
            show Run _ _ _ _ _ _ _ s₁ (mkF m 30 #[.val (.int p0)] [])
            refine go (T' := s₁) (f' := (mkF m 31 #[.val (.int p0)] [(.int p0)])) (by intro t k; exact XS.iloadN X0.here hx rfl (hb hby d1_30) rfl k) ?_
            show Run _ _ _ _ _ _ _ s₁ (mkF m 31 #[.val (.int p0)] [(.int p0)])
            refine go (T' := s₁) (f' := (mkF m 33 #[.val (.int p0)] [(.int (62 : Int32)), (.int p0)])) (by intro t k; exact XS.bipush X0.here hx rfl (hb hby d1_31) k) ?_
            show Run _ _ _ _ _ _ _ s₁ (mkF m 33 #[.val (.int p0)] [(.int (62 : Int32)), (.int p0)])
            by_cases hc33 : p0 = (62 : Int32)
            · refine go (T' := s₁) (f' := (mkF m 52 #[.val (.int p0)] [])) (by intro t k; exact XS.icmpYes X0.here hx rfl (pc0 := 33) (pc' := 52) rfl (hb hby d1_33) rfl (teq hc33).1 (by decide) (by decide) k) ?_
              show Run _ _ _ _ _ _ _ s₁ (mkF m 52 #[.val (.int p0)] [])
              refine go (T' := s₁) (f' := (mkF m 53 #[.val (.int p0)] [(.int (0 : Int32))])) (by intro t k; exact XS.iconst X0.here hx rfl (hb hby d1_52) k) ?_
              have ez1 : z1 = (0 : Int32) := ((((((hz1).trans (if_pos hc3)).trans (if_pos hc9)).trans (if_neg hc15)).trans (if_neg hc21)).trans (if_neg hc27)).trans (if_pos hc33)
              subst ez1
              exact J3
            · refine go (T' := s₁) (f' := (mkF m 36 #[.val (.int p0)] [])) (by intro t k; exact XS.icmpNo X0.here hx rfl (hb hby d1_33) rfl (feq hc33).1 k) ?_
              show Run _ _ _ _ _ _ _ s₁ (mkF m 36 #[.val (.int p0)] [])
              refine go (T' := s₁) (f' := (mkF m 37 #[.val (.int p0)] [(.int p0)])) (by intro t k; exact XS.iloadN X0.here hx rfl (hb hby d1_36) rfl k) ?_
              show Run _ _ _ _ _ _ _ s₁ (mkF m 37 #[.val (.int p0)] [(.int p0)])
              refine go (T' := s₁) (f' := (mkF m 39 #[.val (.int p0)] [(.int (123 : Int32)), (.int p0)])) (by intro t k; exact XS.bipush X0.here hx rfl (hb hby d1_37) k) ?_
              show Run _ _ _ _ _ _ _ s₁ (mkF m 39 #[.val (.int p0)] [(.int (123 : Int32)), (.int p0)])
              by_cases hc39 : p0 = (123 : Int32)
              · refine go (T' := s₁) (f' := (mkF m 52 #[.val (.int p0)] [])) (by intro t k; exact XS.icmpYes X0.here hx rfl (pc0 := 39) (pc' := 52) rfl (hb hby d1_39) rfl (teq hc39).1 (by decide) (by decide) k) ?_
                show Run _ _ _ _ _ _ _ s₁ (mkF m 52 #[.val (.int p0)] [])
                refine go (T' := s₁) (f' := (mkF m 53 #[.val (.int p0)] [(.int (0 : Int32))])) (by intro t k; exact XS.iconst X0.here hx rfl (hb hby d1_52) k) ?_
                have ez1 : z1 = (0 : Int32) := (((((((hz1).trans (if_pos hc3)).trans (if_pos hc9)).trans (if_neg hc15)).trans (if_neg hc21)).trans (if_neg hc27)).trans (if_neg hc33)).trans (if_pos hc39)
                subst ez1
                exact J3
              · refine go (T' := s₁) (f' := (mkF m 42 #[.val (.int p0)] [])) (by intro t k; exact XS.icmpNo X0.here hx rfl (hb hby d1_39) rfl (feq hc39).1 k) ?_
                show Run _ _ _ _ _ _ _ s₁ (mkF m 42 #[.val (.int p0)] [])
                refine go (T' := s₁) (f' := (mkF m 43 #[.val (.int p0)] [(.int p0)])) (by intro t k; exact XS.iloadN X0.here hx rfl (hb hby d1_42) rfl k) ?_
                show Run _ _ _ _ _ _ _ s₁ (mkF m 43 #[.val (.int p0)] [(.int p0)])
                refine go (T' := s₁) (f' := (mkF m 45 #[.val (.int p0)] [(.int (125 : Int32)), (.int p0)])) (by intro t k; exact XS.bipush X0.here hx rfl (hb hby d1_43) k) ?_
                show Run _ _ _ _ _ _ _ s₁ (mkF m 45 #[.val (.int p0)] [(.int (125 : Int32)), (.int p0)])
                by_cases hc45 : p0 = (125 : Int32)
                · refine go (T' := s₁) (f' := (mkF m 52 #[.val (.int p0)] [])) (by intro t k; exact XS.icmpYes X0.here hx rfl (pc0 := 45) (pc' := 52) rfl (hb hby d1_45) rfl (teq hc45).1 (by decide) (by decide) k) ?_
                  show Run _ _ _ _ _ _ _ s₁ (mkF m 52 #[.val (.int p0)] [])
                  refine go (T' := s₁) (f' := (mkF m 53 #[.val (.int p0)] [(.int (0 : Int32))])) (by intro t k; exact XS.iconst X0.here hx rfl (hb hby d1_52) k) ?_
                  have ez1 : z1 = (0 : Int32) := ((((((((hz1).trans (if_pos hc3)).trans (if_pos hc9)).trans (if_neg hc15)).trans (if_neg hc21)).trans (if_neg hc27)).trans (if_neg hc33)).trans (if_neg hc39)).trans (if_pos hc45)
                  subst ez1
                  exact J3
                · refine go (T' := s₁) (f' := (mkF m 48 #[.val (.int p0)] [])) (by intro t k; exact XS.icmpNo X0.here hx rfl (hb hby d1_45) rfl (feq hc45).1 k) ?_
                  show Run _ _ _ _ _ _ _ s₁ (mkF m 48 #[.val (.int p0)] [])
                  refine go (T' := s₁) (f' := (mkF m 49 #[.val (.int p0)] [(.int (1 : Int32))])) (by intro t k; exact XS.iconst X0.here hx rfl (hb hby d1_48) k) ?_
                  show Run _ _ _ _ _ _ _ s₁ (mkF m 49 #[.val (.int p0)] [(.int (1 : Int32))])
                  refine go (T' := s₁) (f' := (mkF m 53 #[.val (.int p0)] [(.int (1 : Int32))])) (by intro t k; exact XS.goto X0.here hx rfl (pc0 := 49) (pc' := 53) rfl (hb hby d1_49) (by decide) (by decide) k) ?_
                  have ez1 : z1 = (1 : Int32) := ((((((((hz1).trans (if_pos hc3)).trans (if_pos hc9)).trans (if_neg hc15)).trans (if_neg hc21)).trans (if_neg hc27)).trans (if_neg hc33)).trans (if_neg hc39)).trans (if_neg hc45)
                  subst ez1
                  exact J3
    · refine go (T' := s₁) (f' := (mkF m 52 #[.val (.int p0)] [])) (by intro t k; exact XS.icmpYes X0.here hx rfl (pc0 := 9) (pc' := 52) rfl (hb hby d1_9) rfl (flt hc9).2.1 (by decide) (by decide) k) ?_
      show Run _ _ _ _ _ _ _ s₁ (mkF m 52 #[.val (.int p0)] [])
      refine go (T' := s₁) (f' := (mkF m 53 #[.val (.int p0)] [(.int (0 : Int32))])) (by intro t k; exact XS.iconst X0.here hx rfl (hb hby d1_52) k) ?_
      have ez1 : z1 = (0 : Int32) := ((hz1).trans (if_pos hc3)).trans (if_neg hc9)
      subst ez1
      exact J3
  · refine go (T' := s₁) (f' := (mkF m 52 #[.val (.int p0)] [])) (by intro t k; exact XS.icmpYes X0.here hx rfl (pc0 := 3) (pc' := 52) rfl (hb hby d1_3) rfl (flt hc3).2.2.2 (by decide) (by decide) k) ?_
    show Run _ _ _ _ _ _ _ s₁ (mkF m 52 #[.val (.int p0)] [])
    refine go (T' := s₁) (f' := (mkF m 53 #[.val (.int p0)] [(.int (0 : Int32))])) (by intro t k; exact XS.iconst X0.here hx rfl (hb hby d1_52) k) ?_
    have ez1 : z1 = (0 : Int32) := (hz1).trans (if_neg hc3)
    subst ez1
    exact J3
def own_ref (p0 : Int32) : Int32 := (if p0 < (0 : Int32) then (0 : Int32) else (if p0 < (128 : Int32) then (if p0 < (64 : Int32) then (if (((((-6052855499961925632 : Int64)).toUInt64 >>> (p0 &&& 0x3f).toInt64.toUInt64).toInt64) &&& (1 : Int64)) = (0 : Int64) then (0 : Int32) else (1 : Int32)) else (if (((((6341068275337658367 : Int64)).toUInt64 >>> ((p0 - (64 : Int32)) &&& 0x3f).toInt64.toUInt64).toInt64) &&& (1 : Int64)) = (0 : Int64) then (0 : Int32) else (1 : Int32))) else (0 : Int32)))
theorem d2_0 : decode method_2_code 0 = .ok (.iload_n 0, 1) := by decide +kernel
theorem d2_1 : decode method_2_code 1 = .ok (.ifCond .lt 10, 3) := by decide +kernel
theorem d2_11 : decode method_2_code 11 = .ok (.iconst 0, 1) := by decide +kernel
theorem d2_12 : decode method_2_code 12 = .ok (.ireturn, 1) := by decide +kernel
theorem d2_4 : decode method_2_code 4 = .ok (.iload_n 0, 1) := by decide +kernel
theorem d2_5 : decode method_2_code 5 = .ok (.sipush 128, 3) := by decide +kernel
theorem d2_8 : decode method_2_code 8 = .ok (.if_icmp .lt 5, 3) := by decide +kernel
theorem d2_13 : decode method_2_code 13 = .ok (.iload_n 0, 1) := by decide +kernel
theorem d2_14 : decode method_2_code 14 = .ok (.bipush 64, 2) := by decide +kernel
theorem d2_16 : decode method_2_code 16 = .ok (.if_icmp .ge 11, 3) := by decide +kernel
theorem d2_19 : decode method_2_code 19 = .ok (.ldc2_w 9, 3) := by decide +kernel
theorem d2_22 : decode method_2_code 22 = .ok (.iload_n 0, 1) := by decide +kernel
theorem d2_23 : decode method_2_code 23 = .ok (.lushr, 1) := by decide +kernel
theorem d2_24 : decode method_2_code 24 = .ok (.goto 11, 3) := by decide +kernel
theorem d2_27 : decode method_2_code 27 = .ok (.ldc2_w 11, 3) := by decide +kernel
theorem d2_30 : decode method_2_code 30 = .ok (.iload_n 0, 1) := by decide +kernel
theorem d2_31 : decode method_2_code 31 = .ok (.bipush 64, 2) := by decide +kernel
theorem d2_33 : decode method_2_code 33 = .ok (.isub, 1) := by decide +kernel
theorem d2_34 : decode method_2_code 34 = .ok (.lushr, 1) := by decide +kernel
theorem d2_35 : decode method_2_code 35 = .ok (.lstore_n 1, 1) := by decide +kernel
theorem d2_36 : decode method_2_code 36 = .ok (.lload_n 1, 1) := by decide +kernel
theorem d2_37 : decode method_2_code 37 = .ok (.lconst 1, 1) := by decide +kernel
theorem d2_38 : decode method_2_code 38 = .ok (.land, 1) := by decide +kernel
theorem d2_39 : decode method_2_code 39 = .ok (.lconst 0, 1) := by decide +kernel
theorem d2_40 : decode method_2_code 40 = .ok (.lcmp, 1) := by decide +kernel
theorem d2_41 : decode method_2_code 41 = .ok (.ifCond .eq 7, 3) := by decide +kernel
theorem d2_48 : decode method_2_code 48 = .ok (.iconst 0, 1) := by decide +kernel
theorem d2_44 : decode method_2_code 44 = .ok (.iconst 1, 1) := by decide +kernel
theorem d2_45 : decode method_2_code 45 = .ok (.goto 4, 3) := by decide +kernel
theorem d2_49 : decode method_2_code 49 = .ok (.ireturn, 1) := by decide +kernel
theorem pn_2 : plainName "com/example/stationbook/stationbook/format/FieldIsNameCharacterPinLaw" = true := by first | (simp [plainName, overriddenIn]; done) | decide +kernel
theorem ef_2 (m : MethodId) (x0 : Int32) : entryFrame m #[(.int x0)] 3 = mkF m 0 #[.val (.int x0), .unset, .unset] [] := by first | (simp [entryFrame, mkF, argsToLocals, Value.category]; done) | rfl
def Q2 (Z : State) (p0 : Int32) (h0 : Heap) (n0 : Nat) (v : Option Value) (h : Heap) (L : List Loc) : Prop := v = some (.int (own_ref p0)) ∧ Fr n0 L ∧ h = h0
set_option maxRecDepth 65536 in
set_option maxHeartbeats 40000000 in
theorem rm2 (l : Launch) (Z : State) (a0 : Array Value) (hw : ∀ d ∈ tables_1, d.before a0 Z = true) (ws : List Jvm.Cond) (p0 : Int32) (h0 : Heap) (n0 : Nat) (Z0 : n0 ≤ h0.size) :
    MetFree l (⟨"com/example/stationbook/stationbook/format/FieldIsNameCharacterPinLaw", "reference", "(I)Z"⟩ : MethodName) (head1 (Jvm.Cond.code (⟨"com/example/stationbook/stationbook/format/FieldIsNameCharacterPinLaw", "reference", "(I)Z"⟩ : MethodName) method_2_code 3 (some .boolean) :: ws) ({ frames := 0, cells := 0, slots := 0, locals := 0 } : Room)) (fun a U => a = #[(.int p0)] ∧ Z.Warmed39 U.vm ∧ U.heap = h0) (fun _ _ _ _ _ => True) (fun _ U o U' => ∃ v L, o = .returned v ∧ Q2 Z p0 h0 n0 v U'.heap L ∧ FrameEnd U o U' L ({ frames := 0, cells := 0, slots := 0, locals := 0 } : Room).cells ({ frames := 0, cells := 0, slots := 0, locals := 0 } : Room).slots) := by
  refine MetFree.of_bodySF (plainFor_of_name pn_2) hisR ?_
  intro p e s m args below meth c s₁ Bd hml0 hP hK
  obtain ⟨rfl, hZ, hh⟩ := hP
  have hx := Bd.exec
  have hby := Bd.bytes
  have hml : c.maxLocals = 3 := hml0
  have hown : s.vm.findClass "com/example/stationbook/stationbook/format/FieldIsNameCharacterPinLaw" = some m.cls := findClass_of_methodNamed Bd.named
  have hnm := (name_of_methodNamed Bd.named Bd.method).1
  have hlk : meth.locks = false := BodyLoose.notSynchronized Bd
  have X0 : Stand p l e ({ frames := 0, cells := 0, slots := 0, locals := 0 } : Room) s m #[(.int p0)] below meth c s₁ [] 0 0 := Stand.of_body Bd
  have e0 : s₁.heap = h0 := by rw [← hh, Bd.state]; rfl
  have N0 := Fr.nil n0
  show Run p e s below (Q2 Z p0 h0 n0) ({ frames := 0, cells := 0, slots := 0, locals := 0 } : Room).cells ({ frames := 0, cells := 0, slots := 0, locals := 0 } : Room).slots s₁ (entryFrame m #[(.int p0)] 3)
  rw [ef_2]
  show Run _ _ _ _ _ _ _ s₁ (mkF m 0 #[.val (.int p0), .unset, .unset] [])
  refine go (T' := s₁) (f' := (mkF m 1 #[.val (.int p0), .unset, .unset] [(.int p0)])) (by intro t k; exact XS.iloadN X0.here hx rfl (hb hby d2_0) rfl k) ?_
  show Run _ _ _ _ _ _ _ s₁ (mkF m 1 #[.val (.int p0), .unset, .unset] [(.int p0)])
  by_cases hc1 : p0 < (0 : Int32)
  · refine go (T' := s₁) (f' := (mkF m 11 #[.val (.int p0), .unset, .unset] [])) (by intro t k; exact XS.ifYes X0.here hx rfl (pc0 := 1) (pc' := 11) rfl (hb hby d2_1) rfl ((if0 _ _).trans (tlt hc1).1) (by decide) (by decide) k) ?_
    show Run _ _ _ _ _ _ _ s₁ (mkF m 11 #[.val (.int p0), .unset, .unset] [])
    refine go (T' := s₁) (f' := (mkF m 12 #[.val (.int p0), .unset, .unset] [(.int (0 : Int32))])) (by intro t k; exact XS.iconst X0.here hx rfl (hb hby d2_11) k) ?_
    show Run _ _ _ _ _ _ _ s₁ (mkF m 12 #[.val (.int p0), .unset, .unset] [(.int (0 : Int32))])
    refine retZ X0 hx (t := .boolean) Bd.returns (by simp) (hb hby d2_12) hlk (by decide) (by decide) ?_
    show Q2 Z p0 h0 n0 _ s₁.heap _
    rw [e0]
    have hv' : (nar .boolean (0 : Int32)) = (own_ref p0) := by
      subst_vars
      unfold own_ref
      first | rfl | ((repeat' split) <;> first | rfl | contradiction) | simp [nar, *]
    have hv : (some (.int (nar .boolean (0 : Int32))) : Option Value) = some (.int (own_ref p0)) := by rw [hv']
    exact ⟨hv, N0, rfl⟩
  · refine go (T' := s₁) (f' := (mkF m 4 #[.val (.int p0), .unset, .unset] [])) (by intro t k; exact XS.ifNo X0.here hx rfl (hb hby d2_1) rfl ((if0 _ _).trans (flt hc1).1) k) ?_
    show Run _ _ _ _ _ _ _ s₁ (mkF m 4 #[.val (.int p0), .unset, .unset] [])
    refine go (T' := s₁) (f' := (mkF m 5 #[.val (.int p0), .unset, .unset] [(.int p0)])) (by intro t k; exact XS.iloadN X0.here hx rfl (hb hby d2_4) rfl k) ?_
    show Run _ _ _ _ _ _ _ s₁ (mkF m 5 #[.val (.int p0), .unset, .unset] [(.int p0)])
    refine go (T' := s₁) (f' := (mkF m 8 #[.val (.int p0), .unset, .unset] [(.int (128 : Int32)), (.int p0)])) (by intro t k; exact XS.sipush X0.here hx rfl (hb hby d2_5) k) ?_
    show Run _ _ _ _ _ _ _ s₁ (mkF m 8 #[.val (.int p0), .unset, .unset] [(.int (128 : Int32)), (.int p0)])
    by_cases hc8 : p0 < (128 : Int32)
    · refine go (T' := s₁) (f' := (mkF m 13 #[.val (.int p0), .unset, .unset] [])) (by intro t k; exact XS.icmpYes X0.here hx rfl (pc0 := 8) (pc' := 13) rfl (hb hby d2_8) rfl (tlt hc8).1 (by decide) (by decide) k) ?_
      show Run _ _ _ _ _ _ _ s₁ (mkF m 13 #[.val (.int p0), .unset, .unset] [])
      refine go (T' := s₁) (f' := (mkF m 14 #[.val (.int p0), .unset, .unset] [(.int p0)])) (by intro t k; exact XS.iloadN X0.here hx rfl (hb hby d2_13) rfl k) ?_
      show Run _ _ _ _ _ _ _ s₁ (mkF m 14 #[.val (.int p0), .unset, .unset] [(.int p0)])
      refine go (T' := s₁) (f' := (mkF m 16 #[.val (.int p0), .unset, .unset] [(.int (64 : Int32)), (.int p0)])) (by intro t k; exact XS.bipush X0.here hx rfl (hb hby d2_14) k) ?_
      show Run _ _ _ _ _ _ _ s₁ (mkF m 16 #[.val (.int p0), .unset, .unset] [(.int (64 : Int32)), (.int p0)])
      obtain ⟨z1, hz1⟩ : ∃ z : Int64, z = (if p0 < (64 : Int32) then ((((-6052855499961925632 : Int64)).toUInt64 >>> (p0 &&& 0x3f).toInt64.toUInt64).toInt64) else ((((6341068275337658367 : Int64)).toUInt64 >>> ((p0 - (64 : Int32)) &&& 0x3f).toInt64.toUInt64).toInt64)) := ⟨_, rfl⟩
      have J16 : Run p e s below (Q2 Z p0 h0 n0) ({ frames := 0, cells := 0, slots := 0, locals := 0 } : Room).cells ({ frames := 0, cells := 0, slots := 0, locals := 0 } : Room).slots s₁ (mkF m 35 #[.val (.int p0), .unset, .unset] [(.long z1)]) := by
        show Run _ _ _ _ _ _ _ s₁ (mkF m 35 #[.val (.int p0), .unset, .unset] [(.long z1)])
        refine go (T' := s₁) (f' := (mkF m 36 #[.val (.int p0), .val (.long z1), .second] [])) (by intro t k; exact XS.lstoreN X0.here hx rfl (hb hby d2_35) rfl (l' := #[.val (.int p0), .val (.long z1), .second]) rfl k) ?_
        show Run _ _ _ _ _ _ _ s₁ (mkF m 36 #[.val (.int p0), .val (.long z1), .second] [])
        refine go (T' := s₁) (f' := (mkF m 37 #[.val (.int p0), .val (.long z1), .second] [(.long z1)])) (by intro t k; exact XS.lloadN X0.here hx rfl (hb hby d2_36) rfl k) ?_
        show Run _ _ _ _ _ _ _ s₁ (mkF m 37 #[.val (.int p0), .val (.long z1), .second] [(.long z1)])
        refine go (T' := s₁) (f' := (mkF m 38 #[.val (.int p0), .val (.long z1), .second] [(.long (1 : Int64)), (.long z1)])) (by intro t k; exact XS.lconst X0.here hx rfl (hb hby d2_37) k) ?_
        show Run _ _ _ _ _ _ _ s₁ (mkF m 38 #[.val (.int p0), .val (.long z1), .second] [(.long (1 : Int64)), (.long z1)])
        refine go (T' := s₁) (f' := (mkF m 39 #[.val (.int p0), .val (.long z1), .second] [(.long (z1 &&& (1 : Int64)))])) (by intro t k; exact XS.land X0.here hx rfl (hb hby d2_38) rfl k) ?_
        show Run _ _ _ _ _ _ _ s₁ (mkF m 39 #[.val (.int p0), .val (.long z1), .second] [(.long (z1 &&& (1 : Int64)))])
        refine go (T' := s₁) (f' := (mkF m 40 #[.val (.int p0), .val (.long z1), .second] [(.long (0 : Int64)), (.long (z1 &&& (1 : Int64)))])) (by intro t k; exact XS.lconst X0.here hx rfl (hb hby d2_39) k) ?_
        show Run _ _ _ _ _ _ _ s₁ (mkF m 40 #[.val (.int p0), .val (.long z1), .second] [(.long (0 : Int64)), (.long (z1 &&& (1 : Int64)))])
        refine go (T' := s₁) (f' := (mkF m 41 #[.val (.int p0), .val (.long z1), .second] [(.int (lcmpW (z1 &&& (1 : Int64)) (0 : Int64)))])) (by intro t k; exact XS.lcmp X0.here hx rfl (hb hby d2_40) rfl k) ?_
        show Run _ _ _ _ _ _ _ s₁ (mkF m 41 #[.val (.int p0), .val (.long z1), .second] [(.int (lcmpW (z1 &&& (1 : Int64)) (0 : Int64)))])
        obtain ⟨z2, hz2⟩ : ∃ z : Int32, z = (if (z1 &&& (1 : Int64)) = (0 : Int64) then (0 : Int32) else (1 : Int32)) := ⟨_, rfl⟩
        have J41 : Run p e s below (Q2 Z p0 h0 n0) ({ frames := 0, cells := 0, slots := 0, locals := 0 } : Room).cells ({ frames := 0, cells := 0, slots := 0, locals := 0 } : Room).slots s₁ (mkF m 49 #[.val (.int p0), .val (.long z1), .second] [(.int z2)]) := by
          show Run _ _ _ _ _ _ _ s₁ (mkF m 49 #[.val (.int p0), .val (.long z1), .second] [(.int z2)])
          refine retZ X0 hx (t := .boolean) Bd.returns (by simp) (hb hby d2_49) hlk (by decide) (by decide) ?_
          show Q2 Z p0 h0 n0 _ s₁.heap _
          rw [e0]
          have hv' : (nar .boolean z2) = (own_ref p0) := by
            subst_vars
            unfold own_ref
            first | rfl | ((repeat' split) <;> first | rfl | contradiction) | simp [nar, *]
          have hv : (some (.int (nar .boolean z2)) : Option Value) = some (.int (own_ref p0)) := by rw [hv']
          exact ⟨hv, N0, rfl⟩
        show Run _ _ _ _ _ _ _ s₁ (mkF m 41 #[.val (.int p0), .val (.long z1), .second] [(.int (lcmpW (z1 &&& (1 : Int64)) (0 : Int64)))])
        by_cases hc41 : (z1 &&& (1 : Int64)) = (0 : Int64)
        · refine go (T' := s₁) (f' := (mkF m 48 #[.val (.int p0), .val (.long z1), .second] [])) (by intro t k; exact XS.ifYes X0.here hx rfl (pc0 := 41) (pc' := 48) rfl (hb hby d2_41) rfl ((if0 _ _).trans (teq ((lw_eq _ _).mpr hc41)).1) (by decide) (by decide) k) ?_
          show Run _ _ _ _ _ _ _ s₁ (mkF m 48 #[.val (.int p0), .val (.long z1), .second] [])
          refine go (T' := s₁) (f' := (mkF m 49 #[.val (.int p0), .val (.long z1), .second] [(.int (0 : Int32))])) (by intro t k; exact XS.iconst X0.here hx rfl (hb hby d2_48) k) ?_
          have ez2 : z2 = (0 : Int32) := (hz2).trans (if_pos hc41)
          subst ez2
          exact J41
        · refine go (T' := s₁) (f' := (mkF m 44 #[.val (.int p0), .val (.long z1), .second] [])) (by intro t k; exact XS.ifNo X0.here hx rfl (hb hby d2_41) rfl ((if0 _ _).trans (feq (fun q => hc41 ((lw_eq _ _).mp q))).1) k) ?_
          show Run _ _ _ _ _ _ _ s₁ (mkF m 44 #[.val (.int p0), .val (.long z1), .second] [])
          refine go (T' := s₁) (f' := (mkF m 45 #[.val (.int p0), .val (.long z1), .second] [(.int (1 : Int32))])) (by intro t k; exact XS.iconst X0.here hx rfl (hb hby d2_44) k) ?_
          show Run _ _ _ _ _ _ _ s₁ (mkF m 45 #[.val (.int p0), .val (.long z1), .second] [(.int (1 : Int32))])
          refine go (T' := s₁) (f' := (mkF m 49 #[.val (.int p0), .val (.long z1), .second] [(.int (1 : Int32))])) (by intro t k; exact XS.goto X0.here hx rfl (pc0 := 45) (pc' := 49) rfl (hb hby d2_45) (by decide) (by decide) k) ?_
          have ez2 : z2 = (1 : Int32) := (hz2).trans (if_neg hc41)
          subst ez2
          exact J41
      show Run _ _ _ _ _ _ _ s₁ (mkF m 16 #[.val (.int p0), .unset, .unset] [(.int (64 : Int32)), (.int p0)])
      by_cases hc16 : p0 < (64 : Int32)
      · refine go (T' := s₁) (f' := (mkF m 19 #[.val (.int p0), .unset, .unset] [])) (by intro t k; exact XS.icmpNo X0.here hx rfl (hb hby d2_16) rfl (tlt hc16).2.1 k) ?_
        show Run _ _ _ _ _ _ _ s₁ (mkF m 19 #[.val (.int p0), .unset, .unset] [])
        refine go (T' := s₁) (f' := (mkF m 22 #[.val (.int p0), .unset, .unset] [(.long (-6052855499961925632 : Int64))])) (by intro t k; exact X0.ldc2Long hx hown (mvT hZ (hw _ (List.mem_of_getElem? (i := 8) rfl))) (g := (mkF m 19 #[.val (.int p0), .unset, .unset] [])) rfl (hb hby d2_19) _ k) ?_
        show Run _ _ _ _ _ _ _ s₁ (mkF m 22 #[.val (.int p0), .unset, .unset] [(.long (-6052855499961925632 : Int64))])
        refine go (T' := s₁) (f' := (mkF m 23 #[.val (.int p0), .unset, .unset] [(.int p0), (.long (-6052855499961925632 : Int64))])) (by intro t k; exact XS.iloadN X0.here hx rfl (hb hby d2_22) rfl k) ?_
        show Run _ _ _ _ _ _ _ s₁ (mkF m 23 #[.val (.int p0), .unset, .unset] [(.int p0), (.long (-6052855499961925632 : Int64))])
        refine go (T' := s₁) (f' := (mkF m 24 #[.val (.int p0), .unset, .unset] [(.long ((((-6052855499961925632 : Int64)).toUInt64 >>> (p0 &&& 0x3f).toInt64.toUInt64).toInt64))])) (by intro t k; exact XS.lushr X0.here hx rfl (hb hby d2_23) rfl k) ?_
        show Run _ _ _ _ _ _ _ s₁ (mkF m 24 #[.val (.int p0), .unset, .unset] [(.long ((((-6052855499961925632 : Int64)).toUInt64 >>> (p0 &&& 0x3f).toInt64.toUInt64).toInt64))])
        refine go (T' := s₁) (f' := (mkF m 35 #[.val (.int p0), .unset, .unset] [(.long ((((-6052855499961925632 : Int64)).toUInt64 >>> (p0 &&& 0x3f).toInt64.toUInt64).toInt64))])) (by intro t k; exact XS.goto X0.here hx rfl (pc0 := 24) (pc' := 35) rfl (hb hby d2_24) (by decide) (by decide) k) ?_
        have ez1 : z1 = ((((-6052855499961925632 : Int64)).toUInt64 >>> (p0 &&& 0x3f).toInt64.toUInt64).toInt64) := (hz1).trans (if_pos hc16)
        subst ez1
        exact J16
      · refine go (T' := s₁) (f' := (mkF m 27 #[.val (.int p0), .unset, .unset] [])) (by intro t k; exact XS.icmpYes X0.here hx rfl (pc0 := 16) (pc' := 27) rfl (hb hby d2_16) rfl (flt hc16).2.1 (by decide) (by decide) k) ?_
        show Run _ _ _ _ _ _ _ s₁ (mkF m 27 #[.val (.int p0), .unset, .unset] [])
        refine go (T' := s₁) (f' := (mkF m 30 #[.val (.int p0), .unset, .unset] [(.long (6341068275337658367 : Int64))])) (by intro t k; exact X0.ldc2Long hx hown (mvT hZ (hw _ (List.mem_of_getElem? (i := 9) rfl))) (g := (mkF m 27 #[.val (.int p0), .unset, .unset] [])) rfl (hb hby d2_27) _ k) ?_
        show Run _ _ _ _ _ _ _ s₁ (mkF m 30 #[.val (.int p0), .unset, .unset] [(.long (6341068275337658367 : Int64))])
        refine go (T' := s₁) (f' := (mkF m 31 #[.val (.int p0), .unset, .unset] [(.int p0), (.long (6341068275337658367 : Int64))])) (by intro t k; exact XS.iloadN X0.here hx rfl (hb hby d2_30) rfl k) ?_
        show Run _ _ _ _ _ _ _ s₁ (mkF m 31 #[.val (.int p0), .unset, .unset] [(.int p0), (.long (6341068275337658367 : Int64))])
        refine go (T' := s₁) (f' := (mkF m 33 #[.val (.int p0), .unset, .unset] [(.int (64 : Int32)), (.int p0), (.long (6341068275337658367 : Int64))])) (by intro t k; exact XS.bipush X0.here hx rfl (hb hby d2_31) k) ?_
        show Run _ _ _ _ _ _ _ s₁ (mkF m 33 #[.val (.int p0), .unset, .unset] [(.int (64 : Int32)), (.int p0), (.long (6341068275337658367 : Int64))])
        refine go (T' := s₁) (f' := (mkF m 34 #[.val (.int p0), .unset, .unset] [(.int (p0 - (64 : Int32))), (.long (6341068275337658367 : Int64))])) (by intro t k; exact XS.isub X0.here hx rfl (hb hby d2_33) rfl k) ?_
        show Run _ _ _ _ _ _ _ s₁ (mkF m 34 #[.val (.int p0), .unset, .unset] [(.int (p0 - (64 : Int32))), (.long (6341068275337658367 : Int64))])
        refine go (T' := s₁) (f' := (mkF m 35 #[.val (.int p0), .unset, .unset] [(.long ((((6341068275337658367 : Int64)).toUInt64 >>> ((p0 - (64 : Int32)) &&& 0x3f).toInt64.toUInt64).toInt64))])) (by intro t k; exact XS.lushr X0.here hx rfl (hb hby d2_34) rfl k) ?_
        have ez1 : z1 = ((((6341068275337658367 : Int64)).toUInt64 >>> ((p0 - (64 : Int32)) &&& 0x3f).toInt64.toUInt64).toInt64) := (hz1).trans (if_neg hc16)
        subst ez1
        exact J16
    · refine go (T' := s₁) (f' := (mkF m 11 #[.val (.int p0), .unset, .unset] [])) (by intro t k; exact XS.icmpNo X0.here hx rfl (hb hby d2_8) rfl (flt hc8).1 k) ?_
      show Run _ _ _ _ _ _ _ s₁ (mkF m 11 #[.val (.int p0), .unset, .unset] [])
      refine go (T' := s₁) (f' := (mkF m 12 #[.val (.int p0), .unset, .unset] [(.int (0 : Int32))])) (by intro t k; exact XS.iconst X0.here hx rfl (hb hby d2_11) k) ?_
      show Run _ _ _ _ _ _ _ s₁ (mkF m 12 #[.val (.int p0), .unset, .unset] [(.int (0 : Int32))])
      refine retZ X0 hx (t := .boolean) Bd.returns (by simp) (hb hby d2_12) hlk (by decide) (by decide) ?_
      show Q2 Z p0 h0 n0 _ s₁.heap _
      rw [e0]
      have hv' : (nar .boolean (0 : Int32)) = (own_ref p0) := by
        subst_vars
        unfold own_ref
        first | rfl | ((repeat' split) <;> first | rfl | contradiction) | simp [nar, *]
      have hv : (some (.int (nar .boolean (0 : Int32))) : Option Value) = some (.int (own_ref p0)) := by rw [hv']
      exact ⟨hv, N0, rfl⟩
theorem own_fin : ∀ n : Fin 128, own_nm (Int32.ofInt (n.1 : Int)) = own_ref (Int32.ofInt (n.1 : Int)) := by decide +kernel
theorem own_law (p : Int32) : own_nm p = own_ref p := by
  by_cases h0 : p < 0
  · have h1 : ¬ (32 : Int32) < p := by
      rw [Int32.lt_iff_toInt_lt] at *; have : (0 : Int32).toInt = 0 := rfl; have : (32 : Int32).toInt = 32 := rfl; omega
    simp only [own_nm, own_ref, if_pos h0, if_neg h1]
  · by_cases h2 : p < 128
    · have e : p = Int32.ofInt ((p.toInt.toNat : Nat) : Int) := by
        rw [Int32.lt_iff_toInt_lt] at h0
        have : (0 : Int32).toInt = 0 := rfl
        rw [Int.toNat_of_nonneg (by omega)]; exact (Int32.ofInt_toInt _).symm
      rw [Int32.lt_iff_toInt_lt] at h2
      have q : (128 : Int32).toInt = 128 := rfl
      have h3 : p.toInt.toNat < 128 := by omega
      have := own_fin ⟨p.toInt.toNat, h3⟩
      rw [e]; exact this
    · have h1 : ¬ p < (127 : Int32) := by
        rw [Int32.lt_iff_toInt_lt] at *; have : (128 : Int32).toInt = 128 := rfl; have : (127 : Int32).toInt = 127 := rfl; omega
      simp only [own_nm, own_ref, if_neg h0, if_neg h1, if_neg h2, ite_self]
theorem pd_28I29Z : parseMethodDescriptor "(I)Z" = some ⟨[.int], some .boolean⟩ := by decide +kernel
theorem ef_0 (m : MethodId) (x0 : Int32) : entryFrame m #[(.int x0)] maxLocals = mkF m 0 #[.val (.int x0)] [] := by first | (simp [entryFrame, mkF, argsToLocals, Value.category, maxLocals]; done) | rfl
def Q0 (Z : State) (p0 : Int32) (h0 : Heap) (n0 : Nat) (v : Option Value) (h : Heap) (L : List Loc) : Prop := v = some (.int (1 : Int32)) ∧ Fr n0 L
set_option maxRecDepth 65536 in
set_option maxHeartbeats 40000000 in
theorem rm0 (l : Launch) (Z : State) (a0 : Array Value) (hw : ∀ d ∈ tables_1, d.before a0 Z = true) (ws : List Jvm.Cond) (p0 : Int32) (h0 : Heap) (n0 : Nat) (Z0 : n0 ≤ h0.size) :
    MetFree l x (head1 (Jvm.Cond.code x code maxLocals ret :: ws) room_1) (fun a U => a = #[(.int p0)] ∧ Z.Warmed39 U.vm ∧ U.heap = h0) (fun _ _ _ _ _ => True) (fun _ U o U' => ∃ v L, o = .returned v ∧ Q0 Z p0 h0 n0 v U'.heap L ∧ FrameEnd U o U' L room_1.cells room_1.slots) := by
  refine MetFree.of_bodySF (plainFor_of_name pn_2) hisR ?_
  intro p e s m args below meth c s₁ Bd hml0 hP hK
  obtain ⟨rfl, hZ, hh⟩ := hP
  have hx := Bd.exec
  have hby := Bd.bytes
  have hml : c.maxLocals = 1 := hml0
  have hown : s.vm.findClass "com/example/stationbook/stationbook/format/FieldIsNameCharacterPinLaw" = some m.cls := findClass_of_methodNamed Bd.named
  have hnm := (name_of_methodNamed Bd.named Bd.method).1
  have hlk : meth.locks = false := BodyLoose.notSynchronized Bd
  have X0 : Stand p l e room_1 s m #[(.int p0)] below meth c s₁ [] 0 0 := Stand.of_body Bd
  have e0 : s₁.heap = h0 := by rw [← hh, Bd.state]; rfl
  have N0 := Fr.nil n0
  show Run p e s below (Q0 Z p0 h0 n0) room_1.cells room_1.slots s₁ (entryFrame m #[(.int p0)] maxLocals)
  rw [ef_0]
  show Run _ _ _ _ _ _ _ s₁ (mkF m 0 #[.val (.int p0)] [])
  refine go (T' := s₁) (f' := (mkF m 1 #[.val (.int p0)] [(.int p0)])) (by intro t k; exact XS.iloadN X0.here hx rfl (hb hby at_0) rfl k) ?_
  show Run _ _ _ _ _ _ _ s₁ (mkF m 1 #[.val (.int p0)] [(.int p0)])
  obtain ⟨_, _, ⟨T1, Lz1, kz1, nz1⟩, -, X1, ⟨Lc1, hQ1, lz1, yz1, zz1⟩, st1⟩ := Jvm.LawKit.callS X0 hx (y := (⟨"com/example/stationbook/stationbook/format/Field", "isNameCharacter", "(I)Z"⟩ : MethodName)) hown (mvT hZ (hw _ (List.mem_of_getElem? (i := 0) rfl))) (mvT hZ (hw _ (List.mem_of_getElem? (i := 1) rfl))) (mvT hZ (hw _ (List.mem_of_getElem? (i := 2) rfl))) (mvT hZ (hw _ (List.mem_of_getElem? (i := 3) rfl))) (by decide) (backOf (W := 0) (rm1 l Z a0 hw [] p0  h0 n0 Z0 ) hZ (hw _ (List.mem_of_getElem? (i := 3) rfl)) (hw _ (List.mem_of_getElem? (i := 2) rfl)) (by decide) (by decide)) (g := (mkF m 1 #[.val (.int p0)] [(.int p0)])) rfl (by rw [hml]; rfl) (argsL := [(.int p0)]) (rest := []) (lenOf pd_28I29Z rfl) rfl (by show 2 * 0 + _ ≤ _; exact Nat.le_of_eq rfl) (hb hby at_1) (fun _ _ => ⟨rfl, e0, (by decide : 0 + 0 ≤ _), (by decide : 0 + 0 ≤ _)⟩)
  dsimp only [Pt.U, Pt.locs, Pt.cells, Pt.slots] at X1 lz1 yz1 zz1 st1 hQ1
  subst lz1 yz1 zz1
  obtain ⟨rfl, N1q, e1⟩ := hQ1
  have N1 := Fr.app N0 N1q
  refine go st1 ?_
  show Run _ _ _ _ _ _ _ T1 (mkF m 4 #[.val (.int p0)] [(.int (own_nm p0))])
  refine go (T' := T1) (f' := (mkF m 5 #[.val (.int p0)] [(.int p0), (.int (own_nm p0))])) (by intro t k; exact XS.iloadN X1.here hx rfl (hb hby at_4) rfl k) ?_
  show Run _ _ _ _ _ _ _ T1 (mkF m 5 #[.val (.int p0)] [(.int p0), (.int (own_nm p0))])
  obtain ⟨_, _, ⟨T2, Lz2, kz2, nz2⟩, -, X2, ⟨Lc2, hQ2, lz2, yz2, zz2⟩, st2⟩ := Jvm.LawKit.callS X1 hx (y := (⟨"com/example/stationbook/stationbook/format/FieldIsNameCharacterPinLaw", "reference", "(I)Z"⟩ : MethodName)) hown (mvT hZ (hw _ (List.mem_of_getElem? (i := 4) rfl))) (mvT hZ (hw _ (List.mem_of_getElem? (i := 5) rfl))) (mvT hZ (hw _ (List.mem_of_getElem? (i := 6) rfl))) (mvT hZ (hw _ (List.mem_of_getElem? (i := 7) rfl))) (by decide) (backOf (W := 1) (rm2 l Z a0 hw [] p0  h0 n0 Z0 ) hZ (hw _ (List.mem_of_getElem? (i := 7) rfl)) (hw _ (List.mem_of_getElem? (i := 6) rfl)) (by decide) (by decide)) (g := (mkF m 5 #[.val (.int p0)] [(.int p0), (.int (own_nm p0))])) rfl (by rw [hml]; rfl) (argsL := [(.int p0)]) (rest := [(.int (own_nm p0))]) (lenOf pd_28I29Z rfl) rfl (by show 2 * 0 + _ ≤ _; exact Nat.le_of_eq rfl) (hb hby at_5) (fun _ _ => ⟨rfl, e1, (by decide : 0 + 0 ≤ _), (by decide : 0 + 0 ≤ _)⟩)
  dsimp only [Pt.U, Pt.locs, Pt.cells, Pt.slots] at X2 lz2 yz2 zz2 st2 hQ2
  subst lz2 yz2 zz2
  obtain ⟨rfl, N2q, e2⟩ := hQ2
  have N2 := Fr.app N1 N2q
  refine go st2 ?_
  show Run _ _ _ _ _ _ _ T2 (mkF m 8 #[.val (.int p0)] [(.int (own_ref p0)), (.int (own_nm p0))])
  obtain ⟨z3, hz3⟩ : ∃ z : Int32, z = (if (own_nm p0) = (own_ref p0) then (1 : Int32) else (0 : Int32)) := ⟨_, rfl⟩
  have J8 : Run p e s below (Q0 Z p0 h0 n0) room_1.cells room_1.slots T2 (mkF m 16 #[.val (.int p0)] [(.int z3)]) := by
    show Run _ _ _ _ _ _ _ T2 (mkF m 16 #[.val (.int p0)] [(.int z3)])
    refine retZ X2 hx (t := .boolean) Bd.returns (by simp) (hb hby at_16) hlk (by decide) (by decide) ?_
    show Q0 Z p0 h0 n0 _ T2.heap _
    rw [e2]
    have hv' : (nar .boolean z3) = (1 : Int32) := by
      subst_vars
      refine (congrArg (nar .boolean) (if_pos ?_)).trans rfl
      exact own_law _
    have hv : (some (.int (nar .boolean z3)) : Option Value) = some (.int (1 : Int32)) := by rw [hv']
    exact ⟨hv, N2⟩
  show Run _ _ _ _ _ _ _ T2 (mkF m 8 #[.val (.int p0)] [(.int (own_ref p0)), (.int (own_nm p0))])
  by_cases hc8 : (own_nm p0) = (own_ref p0)
  · refine go (T' := T2) (f' := (mkF m 11 #[.val (.int p0)] [])) (by intro t k; exact XS.icmpNo X2.here hx rfl (hb hby at_8) rfl (teq hc8).2 k) ?_
    show Run _ _ _ _ _ _ _ T2 (mkF m 11 #[.val (.int p0)] [])
    refine go (T' := T2) (f' := (mkF m 12 #[.val (.int p0)] [(.int (1 : Int32))])) (by intro t k; exact XS.iconst X2.here hx rfl (hb hby at_11) k) ?_
    show Run _ _ _ _ _ _ _ T2 (mkF m 12 #[.val (.int p0)] [(.int (1 : Int32))])
    refine go (T' := T2) (f' := (mkF m 16 #[.val (.int p0)] [(.int (1 : Int32))])) (by intro t k; exact XS.goto X2.here hx rfl (pc0 := 12) (pc' := 16) rfl (hb hby at_12) (by decide) (by decide) k) ?_
    have ez3 : z3 = (1 : Int32) := (hz3).trans (if_pos hc8)
    subst ez3
    exact J8
  · refine go (T' := T2) (f' := (mkF m 15 #[.val (.int p0)] [])) (by intro t k; exact XS.icmpYes X2.here hx rfl (pc0 := 8) (pc' := 15) rfl (hb hby at_8) rfl (feq hc8).2 (by decide) (by decide) k) ?_
    show Run _ _ _ _ _ _ _ T2 (mkF m 15 #[.val (.int p0)] [])
    refine go (T' := T2) (f' := (mkF m 16 #[.val (.int p0)] [(.int (0 : Int32))])) (by intro t k; exact XS.iconst X2.here hx rfl (hb hby at_15) k) ?_
    have ez3 : z3 = (0 : Int32) := (hz3).trans (if_neg hc8)
    subst ez3
    exact J8
set_option maxRecDepth 65536 in
set_option maxHeartbeats 40000000 in
theorem comes_1 {Post : Tables → Env → Array Value → State → Outcome → State → Prop} (hpost : ∀ tb e args s v u, (limb_1_1.after args s (.returned v) u = true ∧ limb_1_2.after args s (.returned v) u = true ∧ True) → FrameEnd s (.returned v) u (Jvm.fieldLocs frame_1_writes args s ++ Jvm.arrayLocs frame_1_arrays args s ++ Jvm.staticLocs frame_1_statics s) 0 0 → Post tb e args s (.returned v) u) :
    ArmFor flags0 classFile x code maxLocals ret World_1 tables_1 room_1 Calls_1 rest_1 Pre_1 Post := by
  intro l hfl _ _ p e ha hc hk s m args below hf hA hF happ hP
  obtain ⟨hcalls, hrest, hpre⟩ := hP
  obtain ⟨-, -, -, hnamed, -, -, -, hat⟩ := (Spec.applies_iff hf).mp happ
  obtain ⟨hg, hn⟩ := and_e (Cond.before_iff.mp (show (Jvm.Cond.and given_1 narrow_1).before args s = true from hpre))
  obtain ⟨g1, g2⟩ := and_e hg
  obtain ⟨w0, rfl⟩ : ∃ w0 : Value, args = #[w0] := by
    have hs : args.size = 1 := by simpa [Cond.value, given_1] using g1
    obtain ⟨L⟩ := args
    match L, hs with
    | [w0], _ => exact ⟨w0, rfl⟩
  have hw := fun d (hd : d ∈ tables_1) => atoms_spec (ws := Jvm.Cond.code x code maxLocals ret :: tables_1) hat d (List.mem_cons_of_mem _ hd)
  have hfit : Fit s := fun {y c} hc i hi => by
    obtain ⟨ha, rfl⟩ := Array.getElem?_eq_some_iff.mp hc
    have q := List.all_eq_true.mp ((Array.all_eq_true_iff_forall_mem.mp hF) _ (Array.getElem_mem ha)) i (List.mem_range.mpr hi)
    simpa [Array.getElem?_eq_getElem hi] using q
  obtain ⟨i0, ei0⟩ := is_v g2
  obtain rfl : w0 = (.int i0) := Option.some.inj ei0
  obtain ⟨n, o, h1, h2, h3, _, L, rfl, ⟨rfl, N⟩, hq⟩ := rm0 l s _ hw tables_1 i0 s.heap s.heap.size (Nat.le_refl _) p e ha hc hk s m _ below hf ((Spec.applies_iff_loose hf).mp happ).1 ⟨rfl, State.Warmed39.refl s, rfl⟩ trivial
  refine ⟨n, _, h1, h2, h3, hpost _ _ _ _ _ _ ⟨Cond.after_iff.mpr rfl, Cond.after_iff.mpr (eq_i res_at (Term.int_eval (1)) rfl), trivial⟩ ⟨hq.1, hq.2.1, (hq.2.2.sift fun y hy => Or.inr (N y hy)).mono (by decide) (by decide)⟩⟩
theorem main_1_1 : Claimed_1_1 := comes_1 fun _ _ _ _ _ _ h hF => ⟨h.1, hF⟩
theorem main_1_2 : Claimed_1_2 := comes_1 fun _ _ _ _ _ _ h hF => ⟨h.2.1, hF⟩
end Jvm.Pilot.@@N@@
namespace Jvm.Pilot.@@N@@
open Jvm Jvm.ClassFile Sem Op Lib Jvm.Free Jvm.Stand Jvm.Pilot.@@N@@.Jvm.D
/-! MADE BY PROGRAM (witnessworld.py) out of the Statement's table words and the real class files: 10 classes; the members and pool entries that the words name. The judged class is class 1, her method 2. -/
namespace start1
open Jvm.ClassFile
def u (s : String) : CpInfo := .utf8 (stringToUtf16 s)
/-- a pool by its gaps: so many unusable entries, then the entry; so many at the end -/
def gap : Nat → List CpInfo → List CpInfo
  | 0, r => r
  | n + 1, r => .unusable :: gap n r
def poolList (es : List (Nat × CpInfo)) (last : Nat) : List CpInfo := es.foldr (fun e r => gap e.1 (e.2 :: r)) (gap last [])
def pool (es : List (Nat × CpInfo)) (last : Nat) : Array CpInfo := ⟨poolList es last⟩
def fileOf (pool : Array CpInfo) (this : Nat) (attrs : Array Attribute := #[]) (ms : Array MethodInfo := #[]) (fl : Nat := 33) (sup : Nat := 0) (ifs : Array Nat := #[]) (fds : Array FieldInfo := #[]) : ClassFile where
  minorVersion := 0
  majorVersion := 65
  constantPool := pool
  accessFlags := fl
  thisClass := this
  superClass := sup
  interfaces := ifs
  fields := fds
  methods := ms
  attributes := attrs
def plain (name : String) (sup : Option ClassId) : Class where
  name := name
  kind := .ordinary
  loader := none
  accessFlags := 33
  super := sup
  interfaces := #[]
  cf := none
  fields := #[]
  methods := #[]
  instanceTypes := #[]
  staticTypes := #[]
  resolved := #[]
  callSites := []
  init := .initialized
  statics := none
  mirror := none

def pool0 : Array CpInfo := pool [(5, u "<init>"), (0, u "()V"), (1, .class_ 10), (1, u "java/lang/Object")] 113

def k0m0 : Method := { name := "<init>", desc := "()V", sig := { parameters := [], returnType := none }, accessFlags := 1, code := none }
/-- java/lang/Object -/
def k0 : Class := { plain "java/lang/Object" none with
  accessFlags := 33
  interfaces := #[]
  cf := some (fileOf pool0 8 #[] #[{ accessFlags := 1, nameIndex := 5, descriptorIndex := 6, attributes := #[] }] 33 0 #[] #[])
  fields := #[]
  methods := #[k0m0]
  instanceTypes := #[]
  staticTypes := #[]
  resolved := Array.replicate 124 none
  statics := none }

def pool1 : Array CpInfo := pool [(2, .class_ 4), (1, u "java/lang/Object"), (0, u "<init>"), (0, u "()V"), (0, .class_ 8), (0, u "com/example/stationbook/stationbook/format/FieldIsNameCharacterPinLaw"), (0, .long 12393888573747625984), (1, .long 6341068275337658367), (1, .methodref 14 15), (0, .class_ 16), (0, .nameAndType 17 18), (0, u "com/example/stationbook/stationbook/format/Field"), (0, u "isNameCharacter"), (0, u "(I)Z"), (0, .methodref 7 20), (0, .nameAndType 21 18), (0, u "reference"), (0, u "LOW"), (0, u "J"), (1, u "HIGH"), (3, u "law")] 2

def k1m0 : Method := { name := "<init>", desc := "()V", sig := { parameters := [], returnType := none }, accessFlags := 1, code := none }
def k1c1 : Code := { maxStack := 4, maxLocals := 3, code := method_2_code, exceptionTable := #[], attributes := #[] }
def k1m1 : Method := { name := "reference", desc := "(I)Z", sig := { parameters := [.int], returnType := some .boolean }, accessFlags := 10, code := some k1c1 }
def k1c2 : Code := { maxStack := 2, maxLocals := 1, code := code, exceptionTable := #[], attributes := #[] }
def k1m2 : Method := { name := "law", desc := "(I)Z", sig := { parameters := [.int], returnType := some .boolean }, accessFlags := 9, code := some k1c2 }
/-- com/example/stationbook/stationbook/format/FieldIsNameCharacterPinLaw -/
def k1 : Class := { plain "com/example/stationbook/stationbook/format/FieldIsNameCharacterPinLaw" (some 0) with
  accessFlags := 49
  interfaces := #[]
  cf := some (fileOf pool1 7 #[] #[{ accessFlags := 1, nameIndex := 5, descriptorIndex := 6, attributes := #[] }, { accessFlags := 10, nameIndex := 21, descriptorIndex := 18, attributes := #[] }, { accessFlags := 9, nameIndex := 29, descriptorIndex := 18, attributes := #[] }] 49 2 #[] #[{ accessFlags := 26, nameIndex := 22, descriptorIndex := 23, attributes := #[] }, { accessFlags := 26, nameIndex := 25, descriptorIndex := 23, attributes := #[] }])
  fields := #[{ name := "LOW", type := .long, accessFlags := 26, slot := 0, constantValue := 0 }, { name := "HIGH", type := .long, accessFlags := 26, slot := 1, constantValue := 0 }]
  methods := #[k1m0, k1m1, k1m2]
  instanceTypes := #[]
  staticTypes := #[.long, .long]
  resolved := Array.replicate 32 none
  statics := none }

def pool2 : Array CpInfo := pool [(2, .class_ 4), (1, u "java/lang/Object"), (0, u "<init>"), (0, u "()V"), (0, .class_ 8), (0, u "java/lang/Record")] 13

def k2m0 : Method := { name := "<init>", desc := "()V", sig := { parameters := [], returnType := none }, accessFlags := 4, code := none }
/-- java/lang/Record -/
def k2 : Class := { plain "java/lang/Record" (some 0) with
  accessFlags := 1057
  interfaces := #[]
  cf := some (fileOf pool2 7 #[] #[{ accessFlags := 4, nameIndex := 5, descriptorIndex := 6, attributes := #[] }] 1057 2 #[] #[])
  fields := #[]
  methods := #[k2m0]
  instanceTypes := #[]
  staticTypes := #[]
  resolved := Array.replicate 22 none
  statics := none }

def pool3 : Array CpInfo := pool [(2, .class_ 4), (1, u "java/lang/Record"), (3, u "name"), (9, .class_ 20), (1, u "com/example/stationbook/stationbook/format/Field"), (5, u "value"), (2, u "Ljava/lang/String;"), (2, u "type"), (25, u "isNameCharacter"), (0, u "(I)Z")] 63

def k3c0 : Code := { maxStack := 2, maxLocals := 1, code := prog_28_method_2_code, exceptionTable := #[], attributes := #[] }
def k3m0 : Method := { name := "isNameCharacter", desc := "(I)Z", sig := { parameters := [.int], returnType := some .boolean }, accessFlags := 8, code := some k3c0 }
/-- com/example/stationbook/stationbook/format/Field -/
def k3 : Class := { plain "com/example/stationbook/stationbook/format/Field" (some 2) with
  accessFlags := 49
  interfaces := #[]
  cf := some (fileOf pool3 18 #[] #[{ accessFlags := 8, nameIndex := 58, descriptorIndex := 59, attributes := #[] }] 49 2 #[] #[{ accessFlags := 18, nameIndex := 8, descriptorIndex := 29, attributes := #[] }, { accessFlags := 18, nameIndex := 32, descriptorIndex := 29, attributes := #[] }, { accessFlags := 18, nameIndex := 26, descriptorIndex := 29, attributes := #[] }])
  fields := #[{ name := "name", type := (.object "java/lang/String"), accessFlags := 18, slot := 0, constantValue := 0 }, { name := "type", type := (.object "java/lang/String"), accessFlags := 18, slot := 1, constantValue := 0 }, { name := "value", type := (.object "java/lang/String"), accessFlags := 18, slot := 2, constantValue := 0 }]
  methods := #[k3m0]
  instanceTypes := #[(.object "java/lang/String"), (.object "java/lang/String"), (.object "java/lang/String")]
  staticTypes := #[]
  resolved := Array.replicate 123 none
  statics := none }

def pool4 : Array CpInfo := pool [(1, u "java/lang/Cloneable"), (0, .class_ 1), (0, u "java/lang/Object"), (0, .class_ 3)] 3

/-- java/lang/Cloneable -/
def k4 : Class := { plain "java/lang/Cloneable" (some 0) with
  accessFlags := 1537
  interfaces := #[]
  cf := some (fileOf pool4 2 #[] #[] 1537 4 #[] #[])
  fields := #[]
  methods := #[]
  instanceTypes := #[]
  staticTypes := #[]
  resolved := Array.replicate 8 none
  statics := none }

def pool5 : Array CpInfo := pool [(1, u "java/io/Serializable"), (0, .class_ 1), (0, u "java/lang/Object"), (0, .class_ 3)] 3

/-- java/io/Serializable -/
def k5 : Class := { plain "java/io/Serializable" (some 0) with
  accessFlags := 1537
  interfaces := #[]
  cf := some (fileOf pool5 2 #[] #[] 1537 4 #[] #[])
  fields := #[]
  methods := #[]
  instanceTypes := #[]
  staticTypes := #[]
  resolved := Array.replicate 8 none
  statics := none }

/-- the primitive byte -/
def k6 : Class := { plain "byte" none with kind := .primitive 'B', accessFlags := 0x411 }
/-- [B -/
def k7 : Class := { plain "[B" (some 0) with kind := .array 6 .byte, interfaces := #[4, 5], accessFlags := 1041 }

/-- the primitive int -/
def k8 : Class := { plain "int" none with kind := .primitive 'I', accessFlags := 0x411 }
/-- [I -/
def k9 : Class := { plain "[I" (some 0) with kind := .array 8 .int, interfaces := #[4, 5], accessFlags := 1041 }

def heap : Heap := #[]
def classes : Array Class := #[k0, k1, k2, k3, k4, k5, k6, k7, k8, k9]
def interned : List (Array UInt16 × Addr) := []
def slotsUsed : Nat := 0
def theMethod : MethodId := ⟨1, 2⟩
def args0 : Array Value := #[.int 65]
def aboutOver (below : List Frame) : State where
  vm := { classes := classes, interned := interned.toArray }
  heap := heap
  slotsUsed := slotsUsed
  threads := #[{ frames := .invoking theMethod args0 :: below }]
def below0 : List Frame := [.native { method := ⟨0, 0⟩, args := #[] }]
def about1 : State := aboutOver below0
def p0 : Program := .bare "" "" ""
def e0 : Env := launch0.env 0 0 0
theorem w_frames : about1.frames = Frame.invoking theMethod args0 :: below0 := rfl
set_option maxRecDepth 65536 in
theorem w_args : argsFit about1.vm theMethod args0 = true := by decide +kernel
set_option maxRecDepth 65536 in
theorem w_heap : heapFits about1 = true := by decide +kernel
set_option maxRecDepth 65536 in
theorem w_runnable : about1.curStatus? = some .runnable := by decide +kernel
set_option maxRecDepth 65536 in
theorem w_alone : about1.alone = true := by decide +kernel
set_option maxRecDepth 65536 in
theorem w_named : about1.methodNamed? x = some theMethod := by decide +kernel
set_option maxRecDepth 65536 in
theorem w_hears : about1.hears theMethod below0 = true := by decide +kernel
set_option maxRecDepth 65536 in
theorem w_ripe : about1.ripe theMethod args0 below0 = true := by decide +kernel
theorem w_running : about1.status = .running := rfl
set_option maxRecDepth 65536 in
theorem w_room : about1.hasRoom e0.platform room_1 = true :=
  launch0.hasRoom_least _ room_1 (by decide +kernel) (by decide +kernel) (by decide +kernel) (by decide +kernel) (by decide +kernel) (by decide +kernel)
theorem allAtoms_all (ts : List Jvm.Cond) (a : Array Jvm.Value) (st : Jvm.State) : (allAtoms ts).before a st = ts.all (fun c => c.before a st) := by
  induction ts with
  | nil => rfl
  | cons c t ih =>
    show (Jvm.Cond.and c (allAtoms t)).before a st = _
    rw [Jvm.Cond.before_and, ih, List.all_cons]
def words1 : List Jvm.Cond := Jvm.Cond.code x code maxLocals ret :: tables_1
/-- a 'code' word, met by the world's own term for the bytes: nothing is compared byte by byte -/
theorem code_word {y : MethodName} {bytes : ByteArray} {mx : Nat} {rt : Option FieldType} {a : Array Value} {s : State} {m : MethodId} {meth : Method} {c : Code} (h1 : s.methodNamed? y = some m) (h2 : s.vm.method? m = some meth) (h3 : meth.code = some c) (h4 : c.code = bytes)
    (h5 : (c.maxLocals == mx && c.exceptionTable.isEmpty && decide (c.maxStack ≤ mostOperands) && decide (meth.sig.returnType = rt) && !meth.locks && decide (parseMethodDescriptor y.desc = some meth.sig)) = true) : (Jvm.Cond.code y bytes mx rt).before a s = true := by
  simp only [Bool.and_eq_true, beq_iff_eq, Bool.not_eq_true', decide_eq_true_eq] at h5
  obtain ⟨⟨⟨⟨⟨g1, g2⟩, g3⟩, g4⟩, g5⟩, g6⟩ := h5
  simp [Cond.before, Cond.holds, Cond.value, h1, h2, h3, h4, g1, g2, g3, g4, g5, g6]
def isCode : Jvm.Cond → Bool
  | .code _ _ _ _ => true
  | _ => false
theorem all_split {L : List Jvm.Cond} {P : Jvm.Cond → Bool} (h1 : L.all (fun c => isCode c || P c) = true) (h2 : ∀ c ∈ L.filter isCode, P c = true) : L.all P = true := by
  refine List.all_eq_true.mpr fun c hc => ?_
  have h := List.all_eq_true.mp h1 c hc
  rcases Bool.eq_false_or_eq_true (isCode c) with hi | hi
  · exact h2 c (List.mem_filter.mpr ⟨hc, hi⟩)
  · simpa [hi] using h
set_option maxRecDepth 65536 in
theorem w_c0 : (Jvm.Cond.code x code maxLocals ret).before args0 about1 = true := code_word (m := ⟨1, 2⟩) (meth := k1m2) (c := k1c2) (by decide +kernel) rfl rfl rfl (by decide +kernel)
set_option maxRecDepth 65536 in
theorem w_c1 : (Jvm.Cond.code ({ cls := "com/example/stationbook/stationbook/format/Field", name := "isNameCharacter", desc := "(I)Z" } : Jvm.MethodName) prog_28_method_2_code (1 : Nat) (Option.some Jvm.ClassFile.FieldType.boolean)).before args0 about1 = true := code_word (m := ⟨3, 0⟩) (meth := k3m0) (c := k3c0) (by decide +kernel) rfl rfl rfl (by decide +kernel)
set_option maxRecDepth 65536 in
theorem w_c2 : (Jvm.Cond.code ({ cls := "com/example/stationbook/stationbook/format/FieldIsNameCharacterPinLaw", name := "reference", desc := "(I)Z" } : Jvm.MethodName) method_2_code (3 : Nat) (Option.some Jvm.ClassFile.FieldType.boolean)).before args0 about1 = true := code_word (m := ⟨1, 1⟩) (meth := k1m1) (c := k1c1) (by decide +kernel) rfl rfl rfl (by decide +kernel)
def codes1 : List Jvm.Cond := [Jvm.Cond.code x code maxLocals ret, Jvm.Cond.code ({ cls := "com/example/stationbook/stationbook/format/Field", name := "isNameCharacter", desc := "(I)Z" } : Jvm.MethodName) prog_28_method_2_code (1 : Nat) (Option.some Jvm.ClassFile.FieldType.boolean), Jvm.Cond.code ({ cls := "com/example/stationbook/stationbook/format/FieldIsNameCharacterPinLaw", name := "reference", desc := "(I)Z" } : Jvm.MethodName) method_2_code (3 : Nat) (Option.some Jvm.ClassFile.FieldType.boolean)]
set_option maxRecDepth 65536 in
theorem codes_eq : words1.filter isCode = codes1 := rfl
theorem w_codes : ∀ c ∈ words1.filter isCode, c.before args0 about1 = true := by
  rw [codes_eq]
  intro c hc
  simp only [codes1, List.mem_cons, List.not_mem_nil, or_false] at hc
  rcases hc with rfl | rfl | rfl
  · exact w_c0
  · exact w_c1
  · exact w_c2
set_option maxRecDepth 65536 in
theorem w_t1 : words1.all (fun c => isCode c || c.before args0 about1) = true := by decide +kernel
theorem w_tables : (allAtoms (Jvm.Cond.code x code maxLocals ret :: tables_1)).before args0 about1 = true := by
  rw [allAtoms_all]
  show words1.all (fun c => c.before args0 about1) = true
  refine all_split ?_ w_codes
  rw [w_t1]
set_option maxRecDepth 65536 in
theorem w_case : (Jvm.Cond.and given_1 narrow_1).before args0 about1 = true := by decide +kernel
theorem w_applies : (headSpec (Jvm.Cond.code x code maxLocals ret :: tables_1) room_1).applies x e0.platform about1 = true :=
  (Spec.applies_iff w_frames).mpr ⟨w_running, w_runnable, w_alone, w_named, w_hears, w_ripe, w_room, w_tables⟩
theorem atStart : AtStart classFile x code maxLocals ret World_1 tables_1 room_1 Calls_1 rest_1 Pre_1 launch0 p0 e0 about1 theMethod args0 below0 :=
  ⟨lists_1, trivial, launch0.admits_env _ _ _, launch0.least_env, fairChoices_fair.cas, fairChoices_fair.clock, w_frames, w_args, w_heap, w_applies, trivial, trivial, w_case⟩
end start1
theorem witness_1 : WitnessClaimed_1 := ⟨start1.p0, start1.e0, start1.about1, start1.theMethod, start1.args0, start1.below0, start1.atStart⟩
end Jvm.Pilot.@@N@@
