import JvmDerived
import JvmDerived.Pilot.@@N@@Statement
import JvmDerived.Pilot.@@N@@Code
set_option linter.unusedVariables false
set_option linter.unusedSimpArgs false
namespace Jvm.Own
open Sem ClassFile Op Lib Jvm.Stand Jvm.Free Jvm.LawKit Jvm.RoadKit
/-- from the frame f over T the run ends in a return that Q speaks of -/
def Run (p : Program) (e : Env) (s : State) (below : List Frame) (Q : Option Value → Heap → List Loc → Prop) (cm sm : Nat) (T : State) (f : JFrame) : Prop :=
  ∃ s₂ o, Steps p.tables e below (T.setTop f) s₂ ∧ s₂.status = .running ∧ Ended s₂ below o ∧ ∃ v L, o = .returned v ∧ Q v s₂.heap L ∧ FrameEnd s o s₂ L cm sm
section Own
variable {p : Program} {l : Launch} {e : Env} {R : Room} {s : State} {m : MethodId} {args : Array Value} {below : List Frame} {meth : Method} {c : Code} {T : State} {locs : List Loc} {cells slots : Nat} {Q : Option Value → Heap → List Loc → Prop} {cm sm : Nat}
theorem go {T' : State} {f f' : JFrame} (st : ∀ target, Steps p.tables e below (T'.setTop f') target → Steps p.tables e below (T.setTop f) target) (k : Run p e s below Q cm sm T' f') : Run p e s below Q cm sm T f := by
  obtain ⟨s₂, o, h, r⟩ := k
  exact ⟨s₂, o, st _ h, r⟩
theorem retZ (X : Stand p l e R s m args below meth c T locs cells slots) (hx : p.tables.exec = Jvm.exec) {pc : Nat} {Ls : Array Slot} {z : Int32} {t : FieldType} {rest : List Value} (hret : meth.sig.returnType = some t) (ht : t = .boolean ∨ t = .byte ∨ t = .char ∨ t = .short)
    (hd : decode c.code pc = .ok (.ireturn, 1)) (hlk : meth.locks = false) (hc : cells ≤ cm) (hs : slots ≤ sm) (hq : Q (some (.int (nar t z))) T.heap locs) : Run p e s below Q cm sm T (mkF m pc Ls (.int z :: rest)) := by
  obtain ⟨fs, hr, hrun, hended, hW, hsame⟩ := X.leave (v := some (.int (nar t z))) (fun h => by rw [hret] at h; cases h) hlk
  exact ⟨_, _, retN X hx hret ht hd hr, hrun, hended, _, _, rfl, hq, ⟨_, rfl⟩, hW, hsame.mono hc hs⟩
theorem retW (X : Stand p l e R s m args below meth c T locs cells slots) (hx : p.tables.exec = Jvm.exec) {pc : Nat} {Ls : Array Slot} {w : Value} {t : FieldType} {i : Instr} {rest : List Value} (hret : meth.sig.returnType = some t) (hn : narrow t w = w)
    (hi : (i = .ireturn ∧ (t = .int ∨ t = .boolean ∨ t = .byte ∨ t = .char ∨ t = .short) ∧ ∃ z, w = .int z) ∨ (i = .lreturn ∧ t = .long ∧ ∃ z, w = .long z) ∨ (i = .dreturn ∧ t = .double ∧ ∃ z, w = .double z) ∨ (i = .freturn ∧ t = .float ∧ ∃ z, w = .float z) ∨ (i = .areturn ∧ t.isReference = true ∧ w.isRef = true))
    (hd : decode c.code pc = .ok (i, 1)) (hlk : meth.locks = false) (hc : cells ≤ cm) (hs : slots ≤ sm) (hq : Q (some w) T.heap locs) : Run p e s below Q cm sm T (mkF m pc Ls (w :: rest)) := by
  obtain ⟨fs, hr, hrun, hended, hW, hsame⟩ := X.leave (v := some w) (fun h => by rw [hret] at h; cases h) hlk
  exact ⟨_, _, retOut X hx hret hn hi hd hr, hrun, hended, _, _, rfl, hq, ⟨_, rfl⟩, hW, hsame.mono hc hs⟩
theorem retV (X : Stand p l e R s m args below meth c T locs cells slots) (hx : p.tables.exec = Jvm.exec) {pc : Nat} {Ls : Array Slot} (hret : meth.sig.returnType = none)
    (hd : decode c.code pc = .ok (.return_, 1)) (hlk : meth.locks = false) (hc : cells ≤ cm) (hs : slots ≤ sm) (hq : Q none T.heap locs) : Run p e s below Q cm sm T (mkF m pc Ls []) := by
  obtain ⟨fs, hr, hrun, hended, hW, hsame⟩ := X.leave (v := none) (fun _ => rfl) hlk
  exact ⟨_, _, X.returnOut hx hret hd hr, hrun, hended, _, _, rfl, hq, ⟨_, rfl⟩, hW, hsame.mono hc hs⟩
end Own
section Heap
variable {Z : State} {h h' h0 : Heap} {a b : Addr} {ty : FieldType} {vs : List Value} {ws ws' : List Addr} {v : Value} {k : ClassId} {z j : Int32}
/-- an array and all that it holds -/
def Ary (Z : State) (h : Heap) (a : Addr) (ty : FieldType) (vs : List Value) : Prop := ∃ c : Cell, Arr Z h a c ty ∧ c.slots.toList = vs ∧ vs.length < 2147483648 ∧ ∀ v ∈ vs, fits ty v = true
theorem Ary.lt (A : Ary Z h a ty vs) : a < h.size := by obtain ⟨c, A, -⟩ := A; exact A.lt
theorem Ary.ext (A : Ary Z h a ty vs) (E : Ext h h') : Ary Z h' a ty vs := by obtain ⟨c, A, r⟩ := A; exact ⟨c, A.ext E, r⟩
theorem Ary.keep (A : Ary Z h a ty vs) (K : Keep h h' ws) (q : a ∉ ws) : Ary Z h' a ty vs := by obtain ⟨c, A, r⟩ := A; exact ⟨c, ⟨K.2.1 a c A.1 q, A.2⟩, r⟩
theorem Ary.set (A : Ary Z h a ty vs) {i : Nat} (W : Wr h h' a i v) (hv : fits ty v = true) : Ary Z h' a ty (vs.set i v) := by
  obtain ⟨c, A, e, l, f⟩ := A
  refine ⟨_, A.same W, by simp [Cell.setSlot, e], by simpa using l, fun w hw => ?_⟩
  rcases List.mem_or_eq_of_mem_set hw with q | rfl
  · exact f w q
  · exact hv
theorem Ary.ld (A : Ary Z h a ty vs) (hj : ¬ j < 0) (hv : vs[j.toNatClampNeg]? = some v) : ∃ c : Cell, Arr Z h a c ty ∧ ¬ (j < 0 ∨ c.slots.size ≤ j.toNatClampNeg) ∧ c.slots[j.toNatClampNeg]? = some v := by
  obtain ⟨c, A, e, l, f⟩ := A
  have q : c.slots[j.toNatClampNeg]? = some v := by rw [← Array.getElem?_toList, e]; exact hv
  exact ⟨c, A, fun r => r.elim hj fun y => absurd (Array.getElem?_eq_some_iff.mp q).1 (Nat.not_lt.mpr y), q⟩
theorem Ary.st (A : Ary Z h a ty vs) (hj : ¬ j < 0) (hl : j.toNatClampNeg < vs.length) : ∃ c : Cell, Arr Z h a c ty ∧ ¬ (j < 0 ∨ c.slots.size ≤ j.toNatClampNeg) := by
  obtain ⟨c, A, e, l, f⟩ := A
  refine ⟨c, A, fun r => r.elim hj fun y => ?_⟩
  rw [← e, Array.length_toList] at hl
  omega
theorem Ary.len (A : Ary Z h a ty vs) : ∃ c : Cell, Arr Z h a c ty ∧ c.slots.size.toInt32 = vs.length.toInt32 := by
  obtain ⟨c, A, e, l, f⟩ := A
  exact ⟨c, A, by rw [← e, Array.length_toList]⟩
theorem Ary.new (A : Arr Z h a (newA k ty z) ty) : Ary Z h a ty (List.replicate z.toNatClampNeg (defaultValue ty)) := by
  refine ⟨_, A, by simp [newA], ?_, fun v hv => ?_⟩
  · rw [List.length_replicate]
    have := Int32.toInt_lt z
    simp only [Int32.toNatClampNeg]
    omega
  · rw [List.eq_of_mem_replicate hv]
    cases ty <;> rfl
theorem Ary.fit (A : Ary Z h a ty vs) : ∃ c : Cell, Arr Z h a c ty ∧ FitC Z c ∧ c.slots.toList = vs ∧ c.slots.size = vs.length ∧ (Arr Z h' b (cloneOf c) ty → Ary Z h' b ty vs) := by
  obtain ⟨c, A, e, l, f⟩ := A
  refine ⟨c, A, fitC_of A fun i hi v hv => ?_, e, by rw [← e, Array.length_toList], fun B => ⟨_, B, e, l, f⟩⟩
  refine f v ?_
  rw [← e]
  exact List.mem_of_getElem? (by rw [Array.getElem?_toList]; exact hv)
theorem ldI {p : Program} {l : Launch} {e : Env} {R : Room} {s : State} {m : MethodId} {args : Array Value} {below : List Frame} {meth : Method} {c : Code} {T : State} {locs : List Loc} {cells slots : Nat} (X : Stand p l e R s m args below meth c T locs cells slots) (hx : p.tables.exec = Jvm.exec) (hZ : Z.Warmed39 s.vm) (eT : T.heap = h) (A : Ary Z h a .int vs) (hj : ¬ j < 0) (hv : vs[j.toNatClampNeg]? = some v) {g : JFrame} (hg : g.method = m) {rest : List Value} (hs : g.stack = .int j :: .ref a :: rest) (hd : decode c.code g.pc = .ok (.iaload, 1)) (target : State)
    (hr : Steps p.tables e below (T.setTop { g with pc := g.pc + 1, stack := v :: rest }) target) : Steps p.tables e below (T.setTop g) target := by
  obtain ⟨cl, Ar, hin, hat⟩ := A.ld hj hv
  exact X.iaload hx (by rw [eT]; exact Ar.1) (State.isArrayOf_alike hZ.alike Ar.2.1) Ar.2.2 hin hat hg hs hd target hr
theorem ldJ {p : Program} {l : Launch} {e : Env} {R : Room} {s : State} {m : MethodId} {args : Array Value} {below : List Frame} {meth : Method} {c : Code} {T : State} {locs : List Loc} {cells slots : Nat} (X : Stand p l e R s m args below meth c T locs cells slots) (hx : p.tables.exec = Jvm.exec) (hZ : Z.Warmed39 s.vm) (eT : T.heap = h) (A : Ary Z h a .long vs) (hj : ¬ j < 0) (hv : vs[j.toNatClampNeg]? = some v) {g : JFrame} (hg : g.method = m) {rest : List Value} (hs : g.stack = .int j :: .ref a :: rest) (hd : decode c.code g.pc = .ok (.laload, 1)) (target : State)
    (hr : Steps p.tables e below (T.setTop { g with pc := g.pc + 1, stack := v :: rest }) target) : Steps p.tables e below (T.setTop g) target := by
  obtain ⟨cl, Ar, hin, hat⟩ := A.ld hj hv
  exact X.laload hx (by rw [eT]; exact Ar.1) (State.isArrayOf_alike hZ.alike Ar.2.1) Ar.2.2 hin hat hg hs hd target hr
theorem ldC {p : Program} {l : Launch} {e : Env} {R : Room} {s : State} {m : MethodId} {args : Array Value} {below : List Frame} {meth : Method} {c : Code} {T : State} {locs : List Loc} {cells slots : Nat} (X : Stand p l e R s m args below meth c T locs cells slots) (hx : p.tables.exec = Jvm.exec) (hZ : Z.Warmed39 s.vm) (eT : T.heap = h) (A : Ary Z h a .char vs) (hj : ¬ j < 0) (hv : vs[j.toNatClampNeg]? = some v) {g : JFrame} (hg : g.method = m) {rest : List Value} (hs : g.stack = .int j :: .ref a :: rest) (hd : decode c.code g.pc = .ok (.caload, 1)) (target : State)
    (hr : Steps p.tables e below (T.setTop { g with pc := g.pc + 1, stack := v :: rest }) target) : Steps p.tables e below (T.setTop g) target := by
  obtain ⟨cl, Ar, hin, hat⟩ := A.ld hj hv
  exact X.caload hx (by rw [eT]; exact Ar.1) (State.isArrayOf_alike hZ.alike Ar.2.1) Ar.2.2 hin hat hg hs hd target hr
theorem ldB {p : Program} {l : Launch} {e : Env} {R : Room} {s : State} {m : MethodId} {args : Array Value} {below : List Frame} {meth : Method} {c : Code} {T : State} {locs : List Loc} {cells slots : Nat} (X : Stand p l e R s m args below meth c T locs cells slots) (hx : p.tables.exec = Jvm.exec) (hZ : Z.Warmed39 s.vm) (eT : T.heap = h) (A : Ary Z h a .byte vs) (hj : ¬ j < 0) (hv : vs[j.toNatClampNeg]? = some v) {g : JFrame} (hg : g.method = m) {rest : List Value} (hs : g.stack = .int j :: .ref a :: rest) (hd : decode c.code g.pc = .ok (.baload, 1)) (target : State)
    (hr : Steps p.tables e below (T.setTop { g with pc := g.pc + 1, stack := v :: rest }) target) : Steps p.tables e below (T.setTop g) target := by
  obtain ⟨cl, Ar, hin, hat⟩ := A.ld hj hv
  exact X.baloadBytes hx (by rw [eT]; exact Ar.1) (State.isArrayOf_alike hZ.alike Ar.2.1) Ar.2.2 hin hat hg hs hd target hr
theorem ldZ {p : Program} {l : Launch} {e : Env} {R : Room} {s : State} {m : MethodId} {args : Array Value} {below : List Frame} {meth : Method} {c : Code} {T : State} {locs : List Loc} {cells slots : Nat} (X : Stand p l e R s m args below meth c T locs cells slots) (hx : p.tables.exec = Jvm.exec) (hZ : Z.Warmed39 s.vm) (eT : T.heap = h) (A : Ary Z h a .boolean vs) (hj : ¬ j < 0) (hv : vs[j.toNatClampNeg]? = some v) {g : JFrame} (hg : g.method = m) {rest : List Value} (hs : g.stack = .int j :: .ref a :: rest) (hd : decode c.code g.pc = .ok (.baload, 1)) (target : State)
    (hr : Steps p.tables e below (T.setTop { g with pc := g.pc + 1, stack := v :: rest }) target) : Steps p.tables e below (T.setTop g) target := by
  obtain ⟨cl, Ar, hin, hat⟩ := A.ld hj hv
  exact X.baloadBooleans hx (by rw [eT]; exact Ar.1) (State.isArrayOf_alike hZ.alike Ar.2.1) Ar.2.2 hin hat hg hs hd target hr
theorem ldR {p : Program} {l : Launch} {e : Env} {R : Room} {s : State} {m : MethodId} {args : Array Value} {below : List Frame} {meth : Method} {c : Code} {T : State} {locs : List Loc} {cells slots : Nat} (X : Stand p l e R s m args below meth c T locs cells slots) (hx : p.tables.exec = Jvm.exec) (hZ : Z.Warmed39 s.vm) (eT : T.heap = h) (A : Ary Z h a ty vs) (ht : ty.isReference = true) (hj : ¬ j < 0) (hv : vs[j.toNatClampNeg]? = some v) {g : JFrame} (hg : g.method = m) {rest : List Value} (hs : g.stack = .int j :: .ref a :: rest) (hd : decode c.code g.pc = .ok (.aaload, 1)) (target : State)
    (hr : Steps p.tables e below (T.setTop { g with pc := g.pc + 1, stack := v :: rest }) target) : Steps p.tables e below (T.setTop g) target := by
  obtain ⟨cl, Ar, hin, hat⟩ := A.ld hj hv
  exact X.aaload hx (by rw [eT]; exact Ar.1) (State.isArrayOf_alike hZ.alike Ar.2.1) ht Ar.2.2 hin hat hg hs hd target hr
theorem alen {p : Program} {l : Launch} {e : Env} {R : Room} {s : State} {m : MethodId} {args : Array Value} {below : List Frame} {meth : Method} {c : Code} {T : State} {locs : List Loc} {cells slots : Nat} (X : Stand p l e R s m args below meth c T locs cells slots) (hx : p.tables.exec = Jvm.exec) (hZ : Z.Warmed39 s.vm) (eT : T.heap = h) (A : Ary Z h a ty vs) (hn : vs.length.toInt32 = z) {g : JFrame} (hg : g.method = m) {rest : List Value} (hs : g.stack = .ref a :: rest) (hd : decode c.code g.pc = .ok (.arraylength, 1)) (target : State)
    (hr : Steps p.tables e below (T.setTop { g with pc := g.pc + 1, stack := .int z :: rest }) target) : Steps p.tables e below (T.setTop g) target := by
  obtain ⟨cl, Ar, ln⟩ := A.len
  exact X.arraylength hx (by rw [eT]; exact Ar.1) (State.isArrayOf_alike hZ.alike Ar.2.1) hg hs hd target (by rw [ln.trans hn]; exact hr)
theorem getI {xs : List Int32} {i : Nat} (q : i < xs.length) : (xs.map Value.int)[i]? = some (.int (xs.getD i 0)) := by
  simp [List.getElem?_map, List.getD_eq_getElem?_getD, List.getElem?_eq_getElem q]
theorem setI {xs : List Int32} {i : Nat} {x : Int32} : (xs.map Value.int).set i (.int x) = (xs.set i x).map Value.int := List.map_set.symm
/-- an array made over the class C -/
def OvA (Z : State) (h : Heap) (a : Addr) (C : String) : Prop := ∃ c : Cell, h[a]? = some c ∧ Ovr Z c.cls C
theorem OvA.keep {C : String} (O : OvA Z h a C) (K : Keep h h' ws) : OvA Z h' a C := by
  obtain ⟨c, e, o⟩ := O
  obtain ⟨c', q, r1, -, -⟩ := K.2.2 a c e
  exact ⟨c', q, r1 ▸ o⟩
theorem stA {C : String} {y : Addr} (O : OvA Z h a C) (A : Ary Z h a ty vs) (I : Ins Z h y C true) : Sto Z h a (.ref y) := by
  obtain ⟨c, A, -⟩ := A
  obtain ⟨c', e, o⟩ := O
  cases A.1.symm.trans e
  exact Sto.of A o I
theorem eqi_v {args : Array Value} {first s : State} {o : Option Outcome} {idx : List Nat} {t : Term} {k : Int32} (q : (Cond.eq t (.int k)).value args first o s idx = some true) : t.eval args first o idx s = some (.int k) := by
  simp only [Cond.value, Term.eval] at q
  cases ht : t.eval args first o idx s with
  | none => simp [ht] at q
  | some x => cases x <;> simp [ht] at q ⊢; exact q
theorem nin1 {x y : Addr} (q : x ≠ y) : x ∉ [y] := ninS q nin0
end Heap
end Jvm.Own
namespace Jvm.Pilot.@@N@@
open Jvm Jvm.ClassFile Sem Op Lib Jvm.Free Jvm.Stand Jvm.LawKit Jvm.RoadKit Jvm.Own Bundle Jvm.Pilot.@@N@@.Jvm.D
def own_gs (c : Int) (M : Nat) (r : Int) : Prop := ∃ j : Nat, r = ((M ^ (j + 1) : Nat) : Int) ∧ c ≤ r * (M : Int) ∧ (j = 0 ∨ r < c)
def own_gi (c : Int) (M : Nat) (q : Int) : Prop := ∃ j : Nat, q = ((M ^ (j + 1) : Nat) : Int) ∧ (j = 0 ∨ q < c)
theorem own_small {c : Int} {M : Nat} {r : Int} (hM : 2 ≤ M) (h : own_gs c M r) (hc : c ≤ (M : Int) * M) : r = M := by
  obtain ⟨j, e, a, b⟩ := h
  rcases Nat.eq_zero_or_pos j with rfl | hj
  · simpa using e
  · rcases b with b | b
    · omega
    · have h1 : M ^ 2 ≤ M ^ (j + 1) := Nat.pow_le_pow_right (by omega) (by omega)
      have h2 : ((M ^ 2 : Nat) : Int) = (M : Int) * M := by rw [Nat.pow_two]; simp
      have h3 : ((M ^ 2 : Nat) : Int) ≤ ((M ^ (j + 1) : Nat) : Int) := by exact_mod_cast h1
      omega
theorem own_big {c up : Int} {M : Nat} {r s : Int} (hM : 2 ≤ M) (h : own_gs c M r) (g : own_gs up M s) (hc : (M : Int) * M < c) (hu : (up - 1) * M < c) (hu' : c ≤ up * M) : r = M * s ∧ r < c ∧ c ≤ r * M := by
  obtain ⟨j, e, a, b⟩ := h
  obtain ⟨i, e', a', b'⟩ := g
  have hj : j ≠ 0 := by
    rintro rfl
    rw [e] at a
    simp at a
    omega
  have b := b.resolve_left hj
  have key : j = i + 1 := by
    have h1 : j ≤ i + 1 := by
      refine Nat.le_of_not_lt fun q => ?_
      have h1 : M ^ (i + 3) ≤ M ^ (j + 1) := Nat.pow_le_pow_right (by omega) (by omega)
      have h1' : ((M ^ (i + 3) : Nat) : Int) ≤ ((M ^ (j + 1) : Nat) : Int) := by exact_mod_cast h1
      have h2 : ((M ^ (i + 3) : Nat) : Int) = s * M * M := by rw [e', Nat.pow_succ, Nat.pow_succ]; simp
      have h3 : up * M ≤ s * M * M := Int.mul_le_mul_of_nonneg_right a' (by omega)
      omega
    have h2 : i + 1 ≤ j := by
      rcases b' with rfl | b'
      · omega
      · refine Nat.le_of_not_lt fun q => ?_
        have h1 : M ^ (j + 2) ≤ M ^ (i + 2) := Nat.pow_le_pow_right (by omega) (by omega)
        have h1' : ((M ^ (j + 2) : Nat) : Int) ≤ ((M ^ (i + 2) : Nat) : Int) := by exact_mod_cast h1
        have h2 : ((M ^ (i + 2) : Nat) : Int) = s * M := by rw [e', Nat.pow_succ]; simp
        have h3 : ((M ^ (j + 2) : Nat) : Int) = r * M := by rw [e, Nat.pow_succ]; simp
        have h4 : s * M ≤ (up - 1) * M := Int.mul_le_mul_of_nonneg_right (by omega) (by omega)
        omega
    omega
  refine ⟨?_, b, a⟩
  rw [e, e', key, Nat.pow_succ]; simp [Int.mul_comm]
theorem own_max_ge (x : Int32) : 2 ≤ (if (2 : Int32) < x then x else 2).toInt := by
  split
  · rename_i h; rw [Int32.lt_iff_toInt_lt] at h; have : (2 : Int32).toInt = 2 := rfl; omega
  · decide
theorem own_mulL (a b : Int32) : (a.toInt64 * b.toInt64).toInt = a.toInt * b.toInt := by
  rw [Int64.toInt_mul, Int32.toInt_toInt64, Int32.toInt_toInt64]
  have h1 := a.le_toInt; have h2 := a.toInt_lt; have h3 := b.le_toInt; have h4 := b.toInt_lt
  have k1 : (a.toInt * b.toInt).natAbs ≤ 2 ^ 31 * 2 ^ 31 := by rw [Int.natAbs_mul]; exact Nat.mul_le_mul (by omega) (by omega)
  exact Int.bmod_eq_of_le (by omega) (by omega)
theorem own_mulQ (q : Int64) (b : Int32) (hq : 0 ≤ q.toInt) (hq' : q.toInt < 2 ^ 31) : (q * b.toInt64).toInt = q.toInt * b.toInt := by
  rw [Int64.toInt_mul, Int32.toInt_toInt64]
  have h3 := b.le_toInt; have h4 := b.toInt_lt
  have k1 : (q.toInt * b.toInt).natAbs ≤ 2 ^ 31 * 2 ^ 31 := by rw [Int.natAbs_mul]; exact Nat.mul_le_mul (by omega) (by omega)
  exact Int.bmod_eq_of_le (by omega) (by omega)
theorem own_bound {p0 p1 : Int32} {q : Int64} (h2 : 2 ≤ p1.toInt) (hI : own_gi p0.toInt p1.toInt.toNat q.toInt) : 2 ≤ q.toInt ∧ q.toInt < 2 ^ 31 := by
  obtain ⟨j, e, r⟩ := hI
  have h4 := p1.toInt_lt
  have h5 := p0.toInt_lt
  have k : p1.toInt.toNat ^ 1 ≤ p1.toInt.toNat ^ (j + 1) := Nat.pow_le_pow_right (by omega) (by omega)
  rw [Nat.pow_one] at k
  have k' : ((p1.toInt.toNat : Nat) : Int) ≤ ((p1.toInt.toNat ^ (j + 1) : Nat) : Int) := by exact_mod_cast k
  refine ⟨by omega, ?_⟩
  rcases r with rfl | r
  · rw [Nat.zero_add, Nat.pow_one] at e; omega
  · omega
theorem own_init {p0 p1 : Int32} (h2 : 2 ≤ p1.toInt) : own_gi p0.toInt p1.toInt.toNat p1.toInt64.toInt := ⟨0, by rw [Int32.toInt_toInt64, Nat.zero_add, Nat.pow_one]; omega, Or.inl rfl⟩
theorem own_back {p0 p1 : Int32} {q : Int64} (h2 : 2 ≤ p1.toInt) (hI : own_gi p0.toInt p1.toInt.toNat q.toInt) (hc : q * p1.toInt64 < p0.toInt64) :
    own_gi p0.toInt p1.toInt.toNat (q * p1.toInt64).toInt ∧ (p0.toInt - (q * p1.toInt64).toInt).toNat < (p0.toInt - q.toInt).toNat := by
  obtain ⟨b1, b2⟩ := own_bound h2 hI
  obtain ⟨j, e, r⟩ := hI
  rw [Int64.lt_iff_toInt_lt, own_mulQ q p1 (by omega) b2, Int32.toInt_toInt64] at hc
  rw [own_mulQ q p1 (by omega) b2]
  have e1 : q.toInt * p1.toInt = ((p1.toInt.toNat ^ (j + 1 + 1) : Nat) : Int) := by
    rw [Nat.pow_succ, Int.natCast_mul, ← e, Int.toNat_of_nonneg (by omega)]
  have g : q.toInt * 2 ≤ q.toInt * p1.toInt := Int.mul_le_mul_of_nonneg_left h2 (by omega)
  exact ⟨⟨j + 1, e1, Or.inr hc⟩, by omega⟩
theorem own_exit {p0 p1 : Int32} {q : Int64} (h2 : 2 ≤ p1.toInt) (hI : own_gi p0.toInt p1.toInt.toNat q.toInt) (hc : ¬ q * p1.toInt64 < p0.toInt64) : own_gs p0.toInt p1.toInt.toNat q.toInt32.toInt := by
  obtain ⟨b1, b2⟩ := own_bound h2 hI
  obtain ⟨j, e, r⟩ := hI
  rw [Int64.lt_iff_toInt_lt, own_mulQ q p1 (by omega) b2, Int32.toInt_toInt64] at hc
  have e3 : q.toInt32.toInt = q.toInt := by rw [Int64.toInt_toInt32]; exact Int.bmod_eq_of_le (by omega) (by omega)
  rw [e3]
  exact ⟨j, e, by rw [Int.toNat_of_nonneg (by omega)]; omega, r⟩
/-- the two ways of the law -/
theorem own_way1 {p0 M r : Int32} (h2 : 2 ≤ M.toInt) (h : own_gs p0.toInt M.toInt.toNat r.toInt) (hc : ¬ M.toInt64 * M.toInt64 < p0.toInt64) : r = M := by
  rw [Int64.lt_iff_toInt_lt, own_mulL, Int32.toInt_toInt64] at hc
  have e := own_small (by omega) h (by rw [Int.toNat_of_nonneg (by omega)]; omega)
  rw [Int.toNat_of_nonneg (by omega)] at e
  rw [← Int32.ofInt_toInt r, e, Int32.ofInt_toInt]
theorem own_way2 {p0 M r s : Int32} {z : Int32} (h2 : 2 ≤ M.toInt) (h : own_gs p0.toInt M.toInt.toNat r.toInt) (hz : z = if p0 % M = 0 then 0 else 1) (g : own_gs (p0 / M + z).toInt M.toInt.toNat s.toInt) (hc : M.toInt64 * M.toInt64 < p0.toInt64) :
    r.toInt64 = M.toInt64 * s.toInt64 ∧ r.toInt64 < p0.toInt64 ∧ ¬ r.toInt64 * M.toInt64 < p0.toInt64 := by
  rw [Int64.lt_iff_toInt_lt, own_mulL, Int32.toInt_toInt64] at hc
  have hm := M.toInt_lt
  have hp := p0.toInt_lt
  have hp0 : 4 < p0.toInt := by
    have : (2 : Int) * 2 ≤ M.toInt * M.toInt := Int.mul_le_mul h2 h2 (by omega) (by omega)
    omega
  have hM1 : M ≠ -1 := by rintro rfl; exact absurd h2 (by decide)
  have ed : (p0 / M).toInt = p0.toInt / M.toInt := by rw [Int32.toInt_div_of_ne_right _ _ hM1]; exact Int.tdiv_eq_ediv_of_nonneg (by omega)
  have er : (p0 % M).toInt = p0.toInt % M.toInt := by rw [Int32.toInt_mod]; exact Int.tmod_eq_emod_of_nonneg (by omega)
  have hd := Int.mul_ediv_add_emod p0.toInt M.toInt
  have hr0 := Int.emod_nonneg p0.toInt (show M.toInt ≠ 0 by omega)
  have hr1 := Int.emod_lt_of_pos p0.toInt (show 0 < M.toInt by omega)
  have hq1 : p0.toInt / M.toInt ≤ p0.toInt / 2 := by
    rw [Int.le_ediv_iff_mul_le (by decide)]
    have q0 : 0 ≤ p0.toInt / M.toInt := Int.ediv_nonneg (by omega) (by omega)
    have : p0.toInt / M.toInt * 2 ≤ p0.toInt / M.toInt * M.toInt := Int.mul_le_mul_of_nonneg_left h2 q0
    rw [Int.mul_comm] at hd
    omega
  have q0 : 0 ≤ p0.toInt / M.toInt := Int.ediv_nonneg (by omega) (by omega)
  have hz' : (p0.toInt % M.toInt = 0 ∧ z.toInt = 0) ∨ (0 < p0.toInt % M.toInt ∧ z.toInt = 1) := by
    by_cases k : p0 % M = 0
    · rw [if_pos k] at hz
      exact Or.inl ⟨by rw [← er, k]; rfl, by rw [hz]; rfl⟩
    · rw [if_neg k] at hz
      refine Or.inr ⟨?_, by rw [hz]; rfl⟩
      have : p0.toInt % M.toInt ≠ 0 := fun q => k (by rw [← Int32.ofInt_toInt (p0 % M), er, q]; rfl)
      omega
  have es : (p0 / M + z).toInt = p0.toInt / M.toInt + z.toInt := by
    rw [Int32.toInt_add, ed]; exact Int.bmod_eq_of_le (by omega) (by omega)
  rw [es] at g
  have n : ((M.toInt.toNat : Nat) : Int) = M.toInt := Int.toNat_of_nonneg (by omega)
  have := own_big (by omega) h g (by rw [n]; exact hc) (by
      rw [n, Int.mul_comm M.toInt] at *
      have : (p0.toInt / M.toInt + z.toInt - 1) * M.toInt = p0.toInt / M.toInt * M.toInt + (z.toInt - 1) * M.toInt := by rw [← Int.add_mul]; congr 1; omega
      rw [this]
      rcases hz' with ⟨a, b⟩ | ⟨a, b⟩ <;> rw [b] <;> omega) (by
      rw [n, Int.mul_comm M.toInt] at *
      rw [Int.add_mul]
      rcases hz' with ⟨a, b⟩ | ⟨a, b⟩ <;> rw [b] <;> omega)
  rw [n] at this
  obtain ⟨t1, t2, t3⟩ := this
  refine ⟨?_, ?_, ?_⟩
  · rw [← Int64.ofInt_toInt r.toInt64, ← Int64.ofInt_toInt (M.toInt64 * s.toInt64), own_mulL, Int32.toInt_toInt64, t1]
  · rw [Int64.lt_iff_toInt_lt, Int32.toInt_toInt64, Int32.toInt_toInt64]; exact t2
  · rw [Int64.lt_iff_toInt_lt, own_mulL, Int32.toInt_toInt64]; omega
def own_max (p0 : Int32) (p1 : Int32) : Int32 := (if p0 < p1 then p1 else p0)
theorem d1_0 : decode jdk_29_method_65_code 0 = .ok (.iload_n 0, 1) := by decide +kernel
theorem d1_1 : decode jdk_29_method_65_code 1 = .ok (.iload_n 1, 1) := by decide +kernel
theorem d1_2 : decode jdk_29_method_65_code 2 = .ok (.if_icmp .lt 7, 3) := by decide +kernel
theorem d1_9 : decode jdk_29_method_65_code 9 = .ok (.iload_n 1, 1) := by decide +kernel
theorem d1_5 : decode jdk_29_method_65_code 5 = .ok (.iload_n 0, 1) := by decide +kernel
theorem d1_6 : decode jdk_29_method_65_code 6 = .ok (.goto 4, 3) := by decide +kernel
theorem d1_10 : decode jdk_29_method_65_code 10 = .ok (.ireturn, 1) := by decide +kernel
theorem ef_1 (m : MethodId) (x0 : Int32) (x1 : Int32) : entryFrame m #[(.int x0), (.int x1)] 2 = mkF m 0 #[.val (.int x0), .val (.int x1)] [] := by first | (simp [entryFrame, mkF, argsToLocals, Value.category]; done) | rfl
def Q1 (Z : State) (p0 : Int32) (p1 : Int32) (h0 : Heap) (n0 : Nat) (v : Option Value) (h : Heap) (L : List Loc) : Prop := v = some (.int (own_max p0 p1)) ∧ Fr n0 L ∧ h = h0
set_option maxRecDepth 65536 in
set_option maxHeartbeats 40000000 in
theorem rm1 (l : Launch) (Z : State) (a0 : Array Value) (hw : ∀ d ∈ tables_1, d.before a0 Z = true) (ws : List Jvm.Cond) (p0 : Int32) (p1 : Int32) (h0 : Heap) (n0 : Nat) (Z0 : n0 ≤ h0.size) :
    MetFree l (⟨"java/lang/Math", "max", "(II)I"⟩ : MethodName) (head1 (Jvm.Cond.code (⟨"java/lang/Math", "max", "(II)I"⟩ : MethodName) jdk_29_method_65_code 2 (some .int) :: ws) ({ frames := 0, cells := 0, slots := 0, locals := 0 } : Room)) (fun a U => a = #[(.int p0), (.int p1)] ∧ Z.Warmed39 U.vm ∧ U.heap = h0) (fun _ _ _ _ _ => True) (fun _ U o U' => ∃ v L, o = .returned v ∧ Q1 Z p0 p1 h0 n0 v U'.heap L ∧ FrameEnd U o U' L ({ frames := 0, cells := 0, slots := 0, locals := 0 } : Room).cells ({ frames := 0, cells := 0, slots := 0, locals := 0 } : Room).slots) := by
  refine MetFree.of_bodySF (Jvm.Free.JP.mathPlain rfl (by decide +kernel)) hisR ?_
  intro p e s m args below meth c s₁ Bd hml0 hP hK
  obtain ⟨rfl, hZ, hh⟩ := hP
  have hx := Bd.exec
  have hby := Bd.bytes
  have hml : c.maxLocals = 2 := hml0
  have hown : s.vm.findClass "java/lang/Math" = some m.cls := findClass_of_methodNamed Bd.named
  have hnm := (name_of_methodNamed Bd.named Bd.method).1
  have hlk : meth.locks = false := BodyLoose.notSynchronized Bd
  have X0 : Stand p l e ({ frames := 0, cells := 0, slots := 0, locals := 0 } : Room) s m #[(.int p0), (.int p1)] below meth c s₁ [] 0 0 := Stand.of_body Bd
  have e0 : s₁.heap = h0 := by rw [← hh, Bd.state]; rfl
  have N0 := Fr.nil n0
  show Run p e s below (Q1 Z p0 p1 h0 n0) ({ frames := 0, cells := 0, slots := 0, locals := 0 } : Room).cells ({ frames := 0, cells := 0, slots := 0, locals := 0 } : Room).slots s₁ (entryFrame m #[(.int p0), (.int p1)] 2)
  rw [ef_1]
  show Run _ _ _ _ _ _ _ s₁ (mkF m 0 #[.val (.int p0), .val (.int p1)] [])
  refine go (T' := s₁) (f' := (mkF m 1 #[.val (.int p0), .val (.int p1)] [(.int p0)])) (by intro t k; exact XS.iloadN X0.here hx rfl (hb hby d1_0) rfl k) ?_
  show Run _ _ _ _ _ _ _ s₁ (mkF m 1 #[.val (.int p0), .val (.int p1)] [(.int p0)])
  refine go (T' := s₁) (f' := (mkF m 2 #[.val (.int p0), .val (.int p1)] [(.int p1), (.int p0)])) (by intro t k; exact XS.iloadN X0.here hx rfl (hb hby d1_1) rfl k) ?_
  show Run _ _ _ _ _ _ _ s₁ (mkF m 2 #[.val (.int p0), .val (.int p1)] [(.int p1), (.int p0)])
  obtain ⟨z1, hz1⟩ : ∃ z : Int32, z = (if p0 < p1 then p1 else p0) := ⟨_, rfl⟩
  have J2 : Run p e s below (Q1 Z p0 p1 h0 n0) ({ frames := 0, cells := 0, slots := 0, locals := 0 } : Room).cells ({ frames := 0, cells := 0, slots := 0, locals := 0 } : Room).slots s₁ (mkF m 10 #[.val (.int p0), .val (.int p1)] [(.int z1)]) := by
    show Run _ _ _ _ _ _ _ s₁ (mkF m 10 #[.val (.int p0), .val (.int p1)] [(.int z1)])
    refine retW X0 hx (t := .int) Bd.returns rfl (Or.inl ⟨rfl, Or.inl rfl, _, rfl⟩) (hb hby d1_10) hlk (by decide) (by decide) ?_
    show Q1 Z p0 p1 h0 n0 _ s₁.heap _
    rw [e0]
    have hv' : z1 = (own_max p0 p1) := by
      subst_vars
      unfold own_max
      first | rfl | ((repeat' split) <;> first | rfl | contradiction) | simp [nar, *]
    have hv : (some (.int z1) : Option Value) = some (.int (own_max p0 p1)) := by rw [hv']
    exact ⟨hv, N0, rfl⟩
  show Run _ _ _ _ _ _ _ s₁ (mkF m 2 #[.val (.int p0), .val (.int p1)] [(.int p1), (.int p0)])
  by_cases hc2 : p0 < p1
  · refine go (T' := s₁) (f' := (mkF m 9 #[.val (.int p0), .val (.int p1)] [])) (by intro t k; exact XS.icmpYes X0.here hx rfl (pc0 := 2) (pc' := 9) rfl (hb hby d1_2) rfl (tlt hc2).1 (by decide) (by decide) k) ?_
    show Run _ _ _ _ _ _ _ s₁ (mkF m 9 #[.val (.int p0), .val (.int p1)] [])
    refine go (T' := s₁) (f' := (mkF m 10 #[.val (.int p0), .val (.int p1)] [(.int p1)])) (by intro t k; exact XS.iloadN X0.here hx rfl (hb hby d1_9) rfl k) ?_
    have ez1 : z1 = p1 := (hz1).trans (if_pos hc2)
    subst ez1
    exact J2
  · refine go (T' := s₁) (f' := (mkF m 5 #[.val (.int p0), .val (.int p1)] [])) (by intro t k; exact XS.icmpNo X0.here hx rfl (hb hby d1_2) rfl (flt hc2).1 k) ?_
    show Run _ _ _ _ _ _ _ s₁ (mkF m 5 #[.val (.int p0), .val (.int p1)] [])
    refine go (T' := s₁) (f' := (mkF m 6 #[.val (.int p0), .val (.int p1)] [(.int p0)])) (by intro t k; exact XS.iloadN X0.here hx rfl (hb hby d1_5) rfl k) ?_
    show Run _ _ _ _ _ _ _ s₁ (mkF m 6 #[.val (.int p0), .val (.int p1)] [(.int p0)])
    refine go (T' := s₁) (f' := (mkF m 10 #[.val (.int p0), .val (.int p1)] [(.int p0)])) (by intro t k; exact XS.goto X0.here hx rfl (pc0 := 6) (pc' := 10) rfl (hb hby d1_6) (by decide) (by decide) k) ?_
    have ez1 : z1 = p0 := (hz1).trans (if_neg hc2)
    subst ez1
    exact J2
theorem d2_0 : decode prog_17_method_8_code 0 = .ok (.iload_n 1, 1) := by decide +kernel
theorem d2_1 : decode prog_17_method_8_code 1 = .ok (.i2l, 1) := by decide +kernel
theorem d2_2 : decode prog_17_method_8_code 2 = .ok (.lstore_n 2, 1) := by decide +kernel
theorem d2_3 : decode prog_17_method_8_code 3 = .ok (.lload_n 2, 1) := by decide +kernel
theorem d2_4 : decode prog_17_method_8_code 4 = .ok (.iload_n 1, 1) := by decide +kernel
theorem d2_5 : decode prog_17_method_8_code 5 = .ok (.i2l, 1) := by decide +kernel
theorem d2_6 : decode prog_17_method_8_code 6 = .ok (.lmul, 1) := by decide +kernel
theorem d2_7 : decode prog_17_method_8_code 7 = .ok (.iload_n 0, 1) := by decide +kernel
theorem d2_8 : decode prog_17_method_8_code 8 = .ok (.i2l, 1) := by decide +kernel
theorem d2_9 : decode prog_17_method_8_code 9 = .ok (.lcmp, 1) := by decide +kernel
theorem d2_10 : decode prog_17_method_8_code 10 = .ok (.ifCond .ge 11, 3) := by decide +kernel
theorem d2_13 : decode prog_17_method_8_code 13 = .ok (.lload_n 2, 1) := by decide +kernel
theorem d2_14 : decode prog_17_method_8_code 14 = .ok (.iload_n 1, 1) := by decide +kernel
theorem d2_15 : decode prog_17_method_8_code 15 = .ok (.i2l, 1) := by decide +kernel
theorem d2_16 : decode prog_17_method_8_code 16 = .ok (.lmul, 1) := by decide +kernel
theorem d2_17 : decode prog_17_method_8_code 17 = .ok (.lstore_n 2, 1) := by decide +kernel
theorem d2_18 : decode prog_17_method_8_code 18 = .ok (.goto (-15), 3) := by decide +kernel
theorem d2_21 : decode prog_17_method_8_code 21 = .ok (.lload_n 2, 1) := by decide +kernel
theorem d2_22 : decode prog_17_method_8_code 22 = .ok (.l2i, 1) := by decide +kernel
theorem d2_23 : decode prog_17_method_8_code 23 = .ok (.ireturn, 1) := by decide +kernel
theorem pn_2 : plainName "com/example/backchain/backchain/io/SqlWriter" = true := by first | (simp [plainName, overriddenIn]; done) | decide +kernel
theorem ef_2 (m : MethodId) (x0 : Int32) (x1 : Int32) : entryFrame m #[(.int x0), (.int x1)] 4 = mkF m 0 #[.val (.int x0), .val (.int x1), .unset, .unset] [] := by first | (simp [entryFrame, mkF, argsToLocals, Value.category]; done) | rfl
def Q2 (Z : State) (p0 : Int32) (p1 : Int32) (h0 : Heap) (n0 : Nat) (v : Option Value) (h : Heap) (L : List Loc) : Prop := ∃ r : Int32, v = some (.int r) ∧ own_gs p0.toInt p1.toInt.toNat (r).toInt ∧ Fr n0 L ∧ h = h0
set_option maxRecDepth 65536 in
set_option maxHeartbeats 40000000 in
theorem rm2 (l : Launch) (Z : State) (a0 : Array Value) (hw : ∀ d ∈ tables_1, d.before a0 Z = true) (ws : List Jvm.Cond) (p0 : Int32) (p1 : Int32) (h0 : Heap) (n0 : Nat) (Z0 : n0 ≤ h0.size) (h2 : 2 ≤ p1.toInt) :
    MetFree l (⟨"com/example/backchain/backchain/io/SqlWriter", "groupSize", "(II)I"⟩ : MethodName) (head1 (Jvm.Cond.code (⟨"com/example/backchain/backchain/io/SqlWriter", "groupSize", "(II)I"⟩ : MethodName) prog_17_method_8_code 4 (some .int) :: ws) ({ frames := 0, cells := 0, slots := 0, locals := 0 } : Room)) (fun a U => a = #[(.int p0), (.int p1)] ∧ Z.Warmed39 U.vm ∧ U.heap = h0) (fun _ _ _ _ _ => True) (fun _ U o U' => ∃ v L, o = .returned v ∧ Q2 Z p0 p1 h0 n0 v U'.heap L ∧ FrameEnd U o U' L ({ frames := 0, cells := 0, slots := 0, locals := 0 } : Room).cells ({ frames := 0, cells := 0, slots := 0, locals := 0 } : Room).slots) := by
  refine MetFree.of_bodySF (plainFor_of_name pn_2) hisR ?_
  intro p e s m args below meth c s₁ Bd hml0 hP hK
  obtain ⟨rfl, hZ, hh⟩ := hP
  have hx := Bd.exec
  have hby := Bd.bytes
  have hml : c.maxLocals = 4 := hml0
  have hown : s.vm.findClass "com/example/backchain/backchain/io/SqlWriter" = some m.cls := findClass_of_methodNamed Bd.named
  have hnm := (name_of_methodNamed Bd.named Bd.method).1
  have hlk : meth.locks = false := BodyLoose.notSynchronized Bd
  have X0 : Stand p l e ({ frames := 0, cells := 0, slots := 0, locals := 0 } : Room) s m #[(.int p0), (.int p1)] below meth c s₁ [] 0 0 := Stand.of_body Bd
  have e0 : s₁.heap = h0 := by rw [← hh, Bd.state]; rfl
  have N0 := Fr.nil n0
  show Run p e s below (Q2 Z p0 p1 h0 n0) ({ frames := 0, cells := 0, slots := 0, locals := 0 } : Room).cells ({ frames := 0, cells := 0, slots := 0, locals := 0 } : Room).slots s₁ (entryFrame m #[(.int p0), (.int p1)] 4)
  rw [ef_2]
  show Run _ _ _ _ _ _ _ s₁ (mkF m 0 #[.val (.int p0), .val (.int p1), .unset, .unset] [])
  refine go (T' := s₁) (f' := (mkF m 1 #[.val (.int p0), .val (.int p1), .unset, .unset] [(.int p1)])) (by intro t k; exact XS.iloadN X0.here hx rfl (hb hby d2_0) rfl k) ?_
  show Run _ _ _ _ _ _ _ s₁ (mkF m 1 #[.val (.int p0), .val (.int p1), .unset, .unset] [(.int p1)])
  refine go (T' := s₁) (f' := (mkF m 2 #[.val (.int p0), .val (.int p1), .unset, .unset] [(.long ((p1).toInt64))])) (by intro t k; exact XS.i2l X0.here hx rfl (hb hby d2_1) rfl k) ?_
  show Run _ _ _ _ _ _ _ s₁ (mkF m 2 #[.val (.int p0), .val (.int p1), .unset, .unset] [(.long ((p1).toInt64))])
  refine go (T' := s₁) (f' := (mkF m 3 #[.val (.int p0), .val (.int p1), .val (.long ((p1).toInt64)), .second] [])) (by intro t k; exact XS.lstoreN X0.here hx rfl (hb hby d2_2) rfl (l' := #[.val (.int p0), .val (.int p1), .val (.long ((p1).toInt64)), .second]) rfl k) ?_
  have LOOP3 : ∀ (k : Nat) (q2 : Int64), own_gi p0.toInt p1.toInt.toNat q2.toInt → (p0.toInt - q2.toInt).toNat < k → Run p e s below (Q2 Z p0 p1 h0 n0) ({ frames := 0, cells := 0, slots := 0, locals := 0 } : Room).cells ({ frames := 0, cells := 0, slots := 0, locals := 0 } : Room).slots s₁ (mkF m 3 #[.val (.int p0), .val (.int p1), .val (.long q2), .second] []) := by
    intro k
    induction k with
    | zero => intro q2 _ hk; exact absurd hk (Nat.not_lt_zero _)
    | succ k ih =>
      intro q2 hI hk
      show Run _ _ _ _ _ _ _ s₁ (mkF m 3 #[.val (.int p0), .val (.int p1), .val (.long q2), .second] [])
      refine go (T' := s₁) (f' := (mkF m 4 #[.val (.int p0), .val (.int p1), .val (.long q2), .second] [(.long q2)])) (by intro t k; exact XS.lloadN X0.here hx rfl (hb hby d2_3) rfl k) ?_
      show Run _ _ _ _ _ _ _ s₁ (mkF m 4 #[.val (.int p0), .val (.int p1), .val (.long q2), .second] [(.long q2)])
      refine go (T' := s₁) (f' := (mkF m 5 #[.val (.int p0), .val (.int p1), .val (.long q2), .second] [(.int p1), (.long q2)])) (by intro t k; exact XS.iloadN X0.here hx rfl (hb hby d2_4) rfl k) ?_
      show Run _ _ _ _ _ _ _ s₁ (mkF m 5 #[.val (.int p0), .val (.int p1), .val (.long q2), .second] [(.int p1), (.long q2)])
      refine go (T' := s₁) (f' := (mkF m 6 #[.val (.int p0), .val (.int p1), .val (.long q2), .second] [(.long ((p1).toInt64)), (.long q2)])) (by intro t k; exact XS.i2l X0.here hx rfl (hb hby d2_5) rfl k) ?_
      show Run _ _ _ _ _ _ _ s₁ (mkF m 6 #[.val (.int p0), .val (.int p1), .val (.long q2), .second] [(.long ((p1).toInt64)), (.long q2)])
      refine go (T' := s₁) (f' := (mkF m 7 #[.val (.int p0), .val (.int p1), .val (.long q2), .second] [(.long (q2 * ((p1).toInt64)))])) (by intro t k; exact XS.lmul X0.here hx rfl (hb hby d2_6) rfl k) ?_
      show Run _ _ _ _ _ _ _ s₁ (mkF m 7 #[.val (.int p0), .val (.int p1), .val (.long q2), .second] [(.long (q2 * ((p1).toInt64)))])
      refine go (T' := s₁) (f' := (mkF m 8 #[.val (.int p0), .val (.int p1), .val (.long q2), .second] [(.int p0), (.long (q2 * ((p1).toInt64)))])) (by intro t k; exact XS.iloadN X0.here hx rfl (hb hby d2_7) rfl k) ?_
      show Run _ _ _ _ _ _ _ s₁ (mkF m 8 #[.val (.int p0), .val (.int p1), .val (.long q2), .second] [(.int p0), (.long (q2 * ((p1).toInt64)))])
      refine go (T' := s₁) (f' := (mkF m 9 #[.val (.int p0), .val (.int p1), .val (.long q2), .second] [(.long ((p0).toInt64)), (.long (q2 * ((p1).toInt64)))])) (by intro t k; exact XS.i2l X0.here hx rfl (hb hby d2_8) rfl k) ?_
      show Run _ _ _ _ _ _ _ s₁ (mkF m 9 #[.val (.int p0), .val (.int p1), .val (.long q2), .second] [(.long ((p0).toInt64)), (.long (q2 * ((p1).toInt64)))])
      refine go (T' := s₁) (f' := (mkF m 10 #[.val (.int p0), .val (.int p1), .val (.long q2), .second] [(.int (lcmpW (q2 * ((p1).toInt64)) ((p0).toInt64)))])) (by intro t k; exact XS.lcmp X0.here hx rfl (hb hby d2_9) rfl k) ?_
      show Run _ _ _ _ _ _ _ s₁ (mkF m 10 #[.val (.int p0), .val (.int p1), .val (.long q2), .second] [(.int (lcmpW (q2 * ((p1).toInt64)) ((p0).toInt64)))])
      by_cases hc10 : (q2 * ((p1).toInt64)) < ((p0).toInt64)
      · refine go (T' := s₁) (f' := (mkF m 13 #[.val (.int p0), .val (.int p1), .val (.long q2), .second] [])) (by intro t k; exact XS.ifNo X0.here hx rfl (hb hby d2_10) rfl ((if0 _ _).trans (tlt ((lw_lt _ _).mpr hc10)).2.1) k) ?_
        show Run _ _ _ _ _ _ _ s₁ (mkF m 13 #[.val (.int p0), .val (.int p1), .val (.long q2), .second] [])
        refine go (T' := s₁) (f' := (mkF m 14 #[.val (.int p0), .val (.int p1), .val (.long q2), .second] [(.long q2)])) (by intro t k; exact XS.lloadN X0.here hx rfl (hb hby d2_13) rfl k) ?_
        show Run _ _ _ _ _ _ _ s₁ (mkF m 14 #[.val (.int p0), .val (.int p1), .val (.long q2), .second] [(.long q2)])
        refine go (T' := s₁) (f' := (mkF m 15 #[.val (.int p0), .val (.int p1), .val (.long q2), .second] [(.int p1), (.long q2)])) (by intro t k; exact XS.iloadN X0.here hx rfl (hb hby d2_14) rfl k) ?_
        show Run _ _ _ _ _ _ _ s₁ (mkF m 15 #[.val (.int p0), .val (.int p1), .val (.long q2), .second] [(.int p1), (.long q2)])
        refine go (T' := s₁) (f' := (mkF m 16 #[.val (.int p0), .val (.int p1), .val (.long q2), .second] [(.long ((p1).toInt64)), (.long q2)])) (by intro t k; exact XS.i2l X0.here hx rfl (hb hby d2_15) rfl k) ?_
        show Run _ _ _ _ _ _ _ s₁ (mkF m 16 #[.val (.int p0), .val (.int p1), .val (.long q2), .second] [(.long ((p1).toInt64)), (.long q2)])
        refine go (T' := s₁) (f' := (mkF m 17 #[.val (.int p0), .val (.int p1), .val (.long q2), .second] [(.long (q2 * ((p1).toInt64)))])) (by intro t k; exact XS.lmul X0.here hx rfl (hb hby d2_16) rfl k) ?_
        show Run _ _ _ _ _ _ _ s₁ (mkF m 17 #[.val (.int p0), .val (.int p1), .val (.long q2), .second] [(.long (q2 * ((p1).toInt64)))])
        refine go (T' := s₁) (f' := (mkF m 18 #[.val (.int p0), .val (.int p1), .val (.long (q2 * ((p1).toInt64))), .second] [])) (by intro t k; exact XS.lstoreN X0.here hx rfl (hb hby d2_17) rfl (l' := #[.val (.int p0), .val (.int p1), .val (.long (q2 * ((p1).toInt64))), .second]) rfl k) ?_
        show Run _ _ _ _ _ _ _ s₁ (mkF m 18 #[.val (.int p0), .val (.int p1), .val (.long (q2 * ((p1).toInt64))), .second] [])
        refine go (T' := s₁) (f' := (mkF m 3 #[.val (.int p0), .val (.int p1), .val (.long (q2 * ((p1).toInt64))), .second] [])) (by intro t k; exact XS.goto X0.here hx rfl (pc0 := 18) (pc' := 3) rfl (hb hby d2_18) (by decide) (by decide) k) ?_
        show Run _ _ _ _ _ _ _ s₁ (mkF m 3 #[.val (.int p0), .val (.int p1), .val (.long (q2 * ((p1).toInt64))), .second] [])
        exact ih (q2 * ((p1).toInt64)) ((own_back h2 hI hc10).1) (Nat.lt_of_lt_of_le (own_back h2 hI hc10).2 (Nat.le_of_lt_succ hk))
      · refine go (T' := s₁) (f' := (mkF m 21 #[.val (.int p0), .val (.int p1), .val (.long q2), .second] [])) (by intro t k; exact XS.ifYes X0.here hx rfl (pc0 := 10) (pc' := 21) rfl (hb hby d2_10) rfl ((if0 _ _).trans (flt (fun q => hc10 ((lw_lt _ _).mp q))).2.1) (by decide) (by decide) k) ?_
        show Run _ _ _ _ _ _ _ s₁ (mkF m 21 #[.val (.int p0), .val (.int p1), .val (.long q2), .second] [])
        refine go (T' := s₁) (f' := (mkF m 22 #[.val (.int p0), .val (.int p1), .val (.long q2), .second] [(.long q2)])) (by intro t k; exact XS.lloadN X0.here hx rfl (hb hby d2_21) rfl k) ?_
        show Run _ _ _ _ _ _ _ s₁ (mkF m 22 #[.val (.int p0), .val (.int p1), .val (.long q2), .second] [(.long q2)])
        refine go (T' := s₁) (f' := (mkF m 23 #[.val (.int p0), .val (.int p1), .val (.long q2), .second] [(.int ((q2).toInt32))])) (by intro t k; exact XS.l2i X0.here hx rfl (hb hby d2_22) rfl k) ?_
        show Run _ _ _ _ _ _ _ s₁ (mkF m 23 #[.val (.int p0), .val (.int p1), .val (.long q2), .second] [(.int ((q2).toInt32))])
        refine retW X0 hx (t := .int) Bd.returns rfl (Or.inl ⟨rfl, Or.inl rfl, _, rfl⟩) (hb hby d2_23) hlk (by decide) (by decide) ?_
        show Q2 Z p0 p1 h0 n0 _ s₁.heap _
        rw [e0]
        have hv : own_gs p0.toInt p1.toInt.toNat (((q2).toInt32)).toInt := by
          exact own_exit h2 hI hc10
        exact ⟨_, rfl, hv, N0, rfl⟩
  exact LOOP3 _ ((p1).toInt64) (own_init h2) (Nat.lt_succ_self _)
theorem own_m2 (x : Int32) : 2 ≤ (own_max 2 x).toInt := by
  unfold own_max
  exact own_max_ge x
theorem own_nz {z : Int32} (h : 2 ≤ z.toInt) : z ≠ 0 := fun e => by
  rw [e] at h
  exact absurd h (by decide)
theorem pd_28II29I : parseMethodDescriptor "(II)I" = some ⟨[.int, .int], some .int⟩ := by decide +kernel
theorem pn_0 : plainName "com/example/backchain/backchain/io/SqlWriterGroupSizePinLaw" = true := by first | (simp [plainName, overriddenIn]; done) | decide +kernel
theorem ef_0 (m : MethodId) (x0 : Int32) (x1 : Int32) : entryFrame m #[(.int x0), (.int x1)] maxLocals = mkF m 0 #[.val (.int x0), .val (.int x1), .unset, .unset, .unset, .unset, .unset, .unset] [] := by first | (simp [entryFrame, mkF, argsToLocals, Value.category, maxLocals]; done) | rfl
def Q0 (Z : State) (p0 : Int32) (p1 : Int32) (h0 : Heap) (n0 : Nat) (v : Option Value) (h : Heap) (L : List Loc) : Prop := v = some (.int (1 : Int32)) ∧ Fr n0 L
set_option maxRecDepth 65536 in
set_option maxHeartbeats 40000000 in
theorem rm0 (l : Launch) (Z : State) (a0 : Array Value) (hw : ∀ d ∈ tables_1, d.before a0 Z = true) (ws : List Jvm.Cond) (p0 : Int32) (p1 : Int32) (h0 : Heap) (n0 : Nat) (Z0 : n0 ≤ h0.size) :
    MetFree l x (head1 (Jvm.Cond.code x code maxLocals ret :: ws) room_1) (fun a U => a = #[(.int p0), (.int p1)] ∧ Z.Warmed39 U.vm ∧ U.heap = h0) (fun _ _ _ _ _ => True) (fun _ U o U' => ∃ v L, o = .returned v ∧ Q0 Z p0 p1 h0 n0 v U'.heap L ∧ FrameEnd U o U' L room_1.cells room_1.slots) := by
  refine MetFree.of_bodySF (plainFor_of_name pn_0) hisR ?_
  intro p e s m args below meth c s₁ Bd hml0 hP hK
  obtain ⟨rfl, hZ, hh⟩ := hP
  have hx := Bd.exec
  have hby := Bd.bytes
  have hml : c.maxLocals = 8 := hml0
  have hown : s.vm.findClass "com/example/backchain/backchain/io/SqlWriterGroupSizePinLaw" = some m.cls := findClass_of_methodNamed Bd.named
  have hnm := (name_of_methodNamed Bd.named Bd.method).1
  have hlk : meth.locks = false := BodyLoose.notSynchronized Bd
  have X0 : Stand p l e room_1 s m #[(.int p0), (.int p1)] below meth c s₁ [] 0 0 := Stand.of_body Bd
  have e0 : s₁.heap = h0 := by rw [← hh, Bd.state]; rfl
  have N0 := Fr.nil n0
  show Run p e s below (Q0 Z p0 p1 h0 n0) room_1.cells room_1.slots s₁ (entryFrame m #[(.int p0), (.int p1)] maxLocals)
  rw [ef_0]
  show Run _ _ _ _ _ _ _ s₁ (mkF m 0 #[.val (.int p0), .val (.int p1), .unset, .unset, .unset, .unset, .unset, .unset] [])
  refine go (T' := s₁) (f' := (mkF m 1 #[.val (.int p0), .val (.int p1), .unset, .unset, .unset, .unset, .unset, .unset] [(.int (2 : Int32))])) (by intro t k; exact XS.iconst X0.here hx rfl (hb hby at_0) k) ?_
  show Run _ _ _ _ _ _ _ s₁ (mkF m 1 #[.val (.int p0), .val (.int p1), .unset, .unset, .unset, .unset, .unset, .unset] [(.int (2 : Int32))])
  refine go (T' := s₁) (f' := (mkF m 2 #[.val (.int p0), .val (.int p1), .unset, .unset, .unset, .unset, .unset, .unset] [(.int p1), (.int (2 : Int32))])) (by intro t k; exact XS.iloadN X0.here hx rfl (hb hby at_1) rfl k) ?_
  show Run _ _ _ _ _ _ _ s₁ (mkF m 2 #[.val (.int p0), .val (.int p1), .unset, .unset, .unset, .unset, .unset, .unset] [(.int p1), (.int (2 : Int32))])
  refine go (T' := s₁) (f' := (mkF m 4 #[.val (.int p0), .val (.int p1), .unset, .unset, .unset, .unset, .unset, .unset] [(.int (2147483647 : Int32)), (.int p1), (.int (2 : Int32))])) (by intro t k; exact X0.ldcInt hx hown (mvT hZ (hw _ (List.mem_of_getElem? (i := 0) rfl))) (g := (mkF m 2 #[.val (.int p0), .val (.int p1), .unset, .unset, .unset, .unset, .unset, .unset] [(.int p1), (.int (2 : Int32))])) rfl (hb hby at_2) _ k) ?_
  show Run _ _ _ _ _ _ _ s₁ (mkF m 4 #[.val (.int p0), .val (.int p1), .unset, .unset, .unset, .unset, .unset, .unset] [(.int (2147483647 : Int32)), (.int p1), (.int (2 : Int32))])
  refine go (T' := s₁) (f' := (mkF m 5 #[.val (.int p0), .val (.int p1), .unset, .unset, .unset, .unset, .unset, .unset] [(.int (p1 &&& (2147483647 : Int32))), (.int (2 : Int32))])) (by intro t k; exact XS.iand X0.here hx rfl (hb hby at_4) rfl k) ?_
  show Run _ _ _ _ _ _ _ s₁ (mkF m 5 #[.val (.int p0), .val (.int p1), .unset, .unset, .unset, .unset, .unset, .unset] [(.int (p1 &&& (2147483647 : Int32))), (.int (2 : Int32))])
  obtain ⟨_, _, ⟨T1, Lz1, kz1, nz1⟩, -, X1, ⟨Lc1, hQ1, lz1, yz1, zz1⟩, st1⟩ := Jvm.LawKit.callS X0 hx (y := (⟨"java/lang/Math", "max", "(II)I"⟩ : MethodName)) hown (mvT hZ (hw _ (List.mem_of_getElem? (i := 1) rfl))) (mvT hZ (hw _ (List.mem_of_getElem? (i := 2) rfl))) (mvT hZ (hw _ (List.mem_of_getElem? (i := 3) rfl))) (mvT hZ (hw _ (List.mem_of_getElem? (i := 4) rfl))) (by decide) (backOf (W := 0) (rm1 l Z a0 hw [] (2 : Int32) (p1 &&& (2147483647 : Int32))  h0 n0 Z0 ) hZ (hw _ (List.mem_of_getElem? (i := 4) rfl)) (hw _ (List.mem_of_getElem? (i := 3) rfl)) (by decide) (by decide)) (g := (mkF m 5 #[.val (.int p0), .val (.int p1), .unset, .unset, .unset, .unset, .unset, .unset] [(.int (p1 &&& (2147483647 : Int32))), (.int (2 : Int32))])) rfl (by rw [hml]; rfl) (argsL := [(.int (2 : Int32)), (.int (p1 &&& (2147483647 : Int32)))]) (rest := []) (lenOf pd_28II29I rfl) rfl (by show 2 * 0 + _ ≤ _; exact Nat.le_of_eq rfl) (hb hby at_5) (fun _ _ => ⟨rfl, e0, (by decide : 0 + 0 ≤ _), (by decide : 0 + 0 ≤ _)⟩)
  dsimp only [Pt.U, Pt.locs, Pt.cells, Pt.slots] at X1 lz1 yz1 zz1 st1 hQ1
  subst lz1 yz1 zz1
  obtain ⟨rfl, N1q, e1⟩ := hQ1
  have N1 := Fr.app N0 N1q
  refine go st1 ?_
  show Run _ _ _ _ _ _ _ T1 (mkF m 8 #[.val (.int p0), .val (.int p1), .unset, .unset, .unset, .unset, .unset, .unset] [(.int (own_max (2 : Int32) (p1 &&& (2147483647 : Int32))))])
  refine go (T' := T1) (f' := (mkF m 9 #[.val (.int p0), .val (.int p1), .val (.int (own_max (2 : Int32) (p1 &&& (2147483647 : Int32)))), .unset, .unset, .unset, .unset, .unset] [])) (by intro t k; exact XS.istoreN X1.here hx rfl (hb hby at_8) rfl (l' := #[.val (.int p0), .val (.int p1), .val (.int (own_max (2 : Int32) (p1 &&& (2147483647 : Int32)))), .unset, .unset, .unset, .unset, .unset]) rfl k) ?_
  show Run _ _ _ _ _ _ _ T1 (mkF m 9 #[.val (.int p0), .val (.int p1), .val (.int (own_max (2 : Int32) (p1 &&& (2147483647 : Int32)))), .unset, .unset, .unset, .unset, .unset] [])
  refine go (T' := T1) (f' := (mkF m 10 #[.val (.int p0), .val (.int p1), .val (.int (own_max (2 : Int32) (p1 &&& (2147483647 : Int32)))), .unset, .unset, .unset, .unset, .unset] [(.int p0)])) (by intro t k; exact XS.iloadN X1.here hx rfl (hb hby at_9) rfl k) ?_
  show Run _ _ _ _ _ _ _ T1 (mkF m 10 #[.val (.int p0), .val (.int p1), .val (.int (own_max (2 : Int32) (p1 &&& (2147483647 : Int32)))), .unset, .unset, .unset, .unset, .unset] [(.int p0)])
  refine go (T' := T1) (f' := (mkF m 11 #[.val (.int p0), .val (.int p1), .val (.int (own_max (2 : Int32) (p1 &&& (2147483647 : Int32)))), .unset, .unset, .unset, .unset, .unset] [(.int (own_max (2 : Int32) (p1 &&& (2147483647 : Int32)))), (.int p0)])) (by intro t k; exact XS.iloadN X1.here hx rfl (hb hby at_10) rfl k) ?_
  show Run _ _ _ _ _ _ _ T1 (mkF m 11 #[.val (.int p0), .val (.int p1), .val (.int (own_max (2 : Int32) (p1 &&& (2147483647 : Int32)))), .unset, .unset, .unset, .unset, .unset] [(.int (own_max (2 : Int32) (p1 &&& (2147483647 : Int32)))), (.int p0)])
  obtain ⟨_, _, ⟨T2, Lz2, kz2, nz2⟩, -, X2, ⟨Lc2, hQ2, lz2, yz2, zz2⟩, st2⟩ := Jvm.LawKit.callS X1 hx (y := (⟨"com/example/backchain/backchain/io/SqlWriter", "groupSize", "(II)I"⟩ : MethodName)) hown (mvT hZ (hw _ (List.mem_of_getElem? (i := 5) rfl))) (mvT hZ (hw _ (List.mem_of_getElem? (i := 6) rfl))) (mvT hZ (hw _ (List.mem_of_getElem? (i := 7) rfl))) (mvT hZ (hw _ (List.mem_of_getElem? (i := 8) rfl))) (by decide) (backOf (W := 0) (rm2 l Z a0 hw [] p0 (own_max (2 : Int32) (p1 &&& (2147483647 : Int32)))  h0 n0 Z0 (own_m2 _)) hZ (hw _ (List.mem_of_getElem? (i := 8) rfl)) (hw _ (List.mem_of_getElem? (i := 7) rfl)) (by decide) (by decide)) (g := (mkF m 11 #[.val (.int p0), .val (.int p1), .val (.int (own_max (2 : Int32) (p1 &&& (2147483647 : Int32)))), .unset, .unset, .unset, .unset, .unset] [(.int (own_max (2 : Int32) (p1 &&& (2147483647 : Int32)))), (.int p0)])) rfl (by rw [hml]; rfl) (argsL := [(.int p0), (.int (own_max (2 : Int32) (p1 &&& (2147483647 : Int32))))]) (rest := []) (lenOf pd_28II29I rfl) rfl (by show 2 * 0 + _ ≤ _; exact Nat.le_of_eq rfl) (hb hby at_11) (fun _ _ => ⟨rfl, e1, (by decide : 0 + 0 ≤ _), (by decide : 0 + 0 ≤ _)⟩)
  dsimp only [Pt.U, Pt.locs, Pt.cells, Pt.slots] at X2 lz2 yz2 zz2 st2 hQ2
  subst lz2 yz2 zz2
  obtain ⟨r2, rfl, hR2, N2q, e2⟩ := hQ2
  have N2 := Fr.app N1 N2q
  refine go st2 ?_
  show Run _ _ _ _ _ _ _ T2 (mkF m 14 #[.val (.int p0), .val (.int p1), .val (.int (own_max (2 : Int32) (p1 &&& (2147483647 : Int32)))), .unset, .unset, .unset, .unset, .unset] [(.int r2)])
  refine go (T' := T2) (f' := (mkF m 15 #[.val (.int p0), .val (.int p1), .val (.int (own_max (2 : Int32) (p1 &&& (2147483647 : Int32)))), .val (.int r2), .unset, .unset, .unset, .unset] [])) (by intro t k; exact XS.istoreN X2.here hx rfl (hb hby at_14) rfl (l' := #[.val (.int p0), .val (.int p1), .val (.int (own_max (2 : Int32) (p1 &&& (2147483647 : Int32)))), .val (.int r2), .unset, .unset, .unset, .unset]) rfl k) ?_
  show Run _ _ _ _ _ _ _ T2 (mkF m 15 #[.val (.int p0), .val (.int p1), .val (.int (own_max (2 : Int32) (p1 &&& (2147483647 : Int32)))), .val (.int r2), .unset, .unset, .unset, .unset] [])
  refine go (T' := T2) (f' := (mkF m 16 #[.val (.int p0), .val (.int p1), .val (.int (own_max (2 : Int32) (p1 &&& (2147483647 : Int32)))), .val (.int r2), .unset, .unset, .unset, .unset] [(.int (own_max (2 : Int32) (p1 &&& (2147483647 : Int32))))])) (by intro t k; exact XS.iloadN X2.here hx rfl (hb hby at_15) rfl k) ?_
  show Run _ _ _ _ _ _ _ T2 (mkF m 16 #[.val (.int p0), .val (.int p1), .val (.int (own_max (2 : Int32) (p1 &&& (2147483647 : Int32)))), .val (.int r2), .unset, .unset, .unset, .unset] [(.int (own_max (2 : Int32) (p1 &&& (2147483647 : Int32))))])
  refine go (T' := T2) (f' := (mkF m 17 #[.val (.int p0), .val (.int p1), .val (.int (own_max (2 : Int32) (p1 &&& (2147483647 : Int32)))), .val (.int r2), .unset, .unset, .unset, .unset] [(.long (((own_max (2 : Int32) (p1 &&& (2147483647 : Int32)))).toInt64))])) (by intro t k; exact XS.i2l X2.here hx rfl (hb hby at_16) rfl k) ?_
  show Run _ _ _ _ _ _ _ T2 (mkF m 17 #[.val (.int p0), .val (.int p1), .val (.int (own_max (2 : Int32) (p1 &&& (2147483647 : Int32)))), .val (.int r2), .unset, .unset, .unset, .unset] [(.long (((own_max (2 : Int32) (p1 &&& (2147483647 : Int32)))).toInt64))])
  refine go (T' := T2) (f' := (mkF m 18 #[.val (.int p0), .val (.int p1), .val (.int (own_max (2 : Int32) (p1 &&& (2147483647 : Int32)))), .val (.int r2), .unset, .unset, .unset, .unset] [(.int (own_max (2 : Int32) (p1 &&& (2147483647 : Int32)))), (.long (((own_max (2 : Int32) (p1 &&& (2147483647 : Int32)))).toInt64))])) (by intro t k; exact XS.iloadN X2.here hx rfl (hb hby at_17) rfl k) ?_
  show Run _ _ _ _ _ _ _ T2 (mkF m 18 #[.val (.int p0), .val (.int p1), .val (.int (own_max (2 : Int32) (p1 &&& (2147483647 : Int32)))), .val (.int r2), .unset, .unset, .unset, .unset] [(.int (own_max (2 : Int32) (p1 &&& (2147483647 : Int32)))), (.long (((own_max (2 : Int32) (p1 &&& (2147483647 : Int32)))).toInt64))])
  refine go (T' := T2) (f' := (mkF m 19 #[.val (.int p0), .val (.int p1), .val (.int (own_max (2 : Int32) (p1 &&& (2147483647 : Int32)))), .val (.int r2), .unset, .unset, .unset, .unset] [(.long (((own_max (2 : Int32) (p1 &&& (2147483647 : Int32)))).toInt64)), (.long (((own_max (2 : Int32) (p1 &&& (2147483647 : Int32)))).toInt64))])) (by intro t k; exact XS.i2l X2.here hx rfl (hb hby at_18) rfl k) ?_
  show Run _ _ _ _ _ _ _ T2 (mkF m 19 #[.val (.int p0), .val (.int p1), .val (.int (own_max (2 : Int32) (p1 &&& (2147483647 : Int32)))), .val (.int r2), .unset, .unset, .unset, .unset] [(.long (((own_max (2 : Int32) (p1 &&& (2147483647 : Int32)))).toInt64)), (.long (((own_max (2 : Int32) (p1 &&& (2147483647 : Int32)))).toInt64))])
  refine go (T' := T2) (f' := (mkF m 20 #[.val (.int p0), .val (.int p1), .val (.int (own_max (2 : Int32) (p1 &&& (2147483647 : Int32)))), .val (.int r2), .unset, .unset, .unset, .unset] [(.long ((((own_max (2 : Int32) (p1 &&& (2147483647 : Int32)))).toInt64) * (((own_max (2 : Int32) (p1 &&& (2147483647 : Int32)))).toInt64)))])) (by intro t k; exact XS.lmul X2.here hx rfl (hb hby at_19) rfl k) ?_
  show Run _ _ _ _ _ _ _ T2 (mkF m 20 #[.val (.int p0), .val (.int p1), .val (.int (own_max (2 : Int32) (p1 &&& (2147483647 : Int32)))), .val (.int r2), .unset, .unset, .unset, .unset] [(.long ((((own_max (2 : Int32) (p1 &&& (2147483647 : Int32)))).toInt64) * (((own_max (2 : Int32) (p1 &&& (2147483647 : Int32)))).toInt64)))])
  refine go (T' := T2) (f' := (mkF m 22 #[.val (.int p0), .val (.int p1), .val (.int (own_max (2 : Int32) (p1 &&& (2147483647 : Int32)))), .val (.int r2), .val (.long ((((own_max (2 : Int32) (p1 &&& (2147483647 : Int32)))).toInt64) * (((own_max (2 : Int32) (p1 &&& (2147483647 : Int32)))).toInt64))), .second, .unset, .unset] [])) (by intro t k; exact XS.lstore X2.here hx rfl (hb hby at_20) rfl (l' := #[.val (.int p0), .val (.int p1), .val (.int (own_max (2 : Int32) (p1 &&& (2147483647 : Int32)))), .val (.int r2), .val (.long ((((own_max (2 : Int32) (p1 &&& (2147483647 : Int32)))).toInt64) * (((own_max (2 : Int32) (p1 &&& (2147483647 : Int32)))).toInt64))), .second, .unset, .unset]) rfl k) ?_
  show Run _ _ _ _ _ _ _ T2 (mkF m 22 #[.val (.int p0), .val (.int p1), .val (.int (own_max (2 : Int32) (p1 &&& (2147483647 : Int32)))), .val (.int r2), .val (.long ((((own_max (2 : Int32) (p1 &&& (2147483647 : Int32)))).toInt64) * (((own_max (2 : Int32) (p1 &&& (2147483647 : Int32)))).toInt64))), .second, .unset, .unset] [])
  refine go (T' := T2) (f' := (mkF m 23 #[.val (.int p0), .val (.int p1), .val (.int (own_max (2 : Int32) (p1 &&& (2147483647 : Int32)))), .val (.int r2), .val (.long ((((own_max (2 : Int32) (p1 &&& (2147483647 : Int32)))).toInt64) * (((own_max (2 : Int32) (p1 &&& (2147483647 : Int32)))).toInt64))), .second, .unset, .unset] [(.int p0)])) (by intro t k; exact XS.iloadN X2.here hx rfl (hb hby at_22) rfl k) ?_
  show Run _ _ _ _ _ _ _ T2 (mkF m 23 #[.val (.int p0), .val (.int p1), .val (.int (own_max (2 : Int32) (p1 &&& (2147483647 : Int32)))), .val (.int r2), .val (.long ((((own_max (2 : Int32) (p1 &&& (2147483647 : Int32)))).toInt64) * (((own_max (2 : Int32) (p1 &&& (2147483647 : Int32)))).toInt64))), .second, .unset, .unset] [(.int p0)])
  refine go (T' := T2) (f' := (mkF m 24 #[.val (.int p0), .val (.int p1), .val (.int (own_max (2 : Int32) (p1 &&& (2147483647 : Int32)))), .val (.int r2), .val (.long ((((own_max (2 : Int32) (p1 &&& (2147483647 : Int32)))).toInt64) * (((own_max (2 : Int32) (p1 &&& (2147483647 : Int32)))).toInt64))), .second, .unset, .unset] [(.long ((p0).toInt64))])) (by intro t k; exact XS.i2l X2.here hx rfl (hb hby at_23) rfl k) ?_
  show Run _ _ _ _ _ _ _ T2 (mkF m 24 #[.val (.int p0), .val (.int p1), .val (.int (own_max (2 : Int32) (p1 &&& (2147483647 : Int32)))), .val (.int r2), .val (.long ((((own_max (2 : Int32) (p1 &&& (2147483647 : Int32)))).toInt64) * (((own_max (2 : Int32) (p1 &&& (2147483647 : Int32)))).toInt64))), .second, .unset, .unset] [(.long ((p0).toInt64))])
  refine go (T' := T2) (f' := (mkF m 26 #[.val (.int p0), .val (.int p1), .val (.int (own_max (2 : Int32) (p1 &&& (2147483647 : Int32)))), .val (.int r2), .val (.long ((((own_max (2 : Int32) (p1 &&& (2147483647 : Int32)))).toInt64) * (((own_max (2 : Int32) (p1 &&& (2147483647 : Int32)))).toInt64))), .second, .unset, .unset] [(.long ((((own_max (2 : Int32) (p1 &&& (2147483647 : Int32)))).toInt64) * (((own_max (2 : Int32) (p1 &&& (2147483647 : Int32)))).toInt64))), (.long ((p0).toInt64))])) (by intro t k; exact XS.lload X2.here hx rfl (hb hby at_24) rfl k) ?_
  show Run _ _ _ _ _ _ _ T2 (mkF m 26 #[.val (.int p0), .val (.int p1), .val (.int (own_max (2 : Int32) (p1 &&& (2147483647 : Int32)))), .val (.int r2), .val (.long ((((own_max (2 : Int32) (p1 &&& (2147483647 : Int32)))).toInt64) * (((own_max (2 : Int32) (p1 &&& (2147483647 : Int32)))).toInt64))), .second, .unset, .unset] [(.long ((((own_max (2 : Int32) (p1 &&& (2147483647 : Int32)))).toInt64) * (((own_max (2 : Int32) (p1 &&& (2147483647 : Int32)))).toInt64))), (.long ((p0).toInt64))])
  refine go (T' := T2) (f' := (mkF m 27 #[.val (.int p0), .val (.int p1), .val (.int (own_max (2 : Int32) (p1 &&& (2147483647 : Int32)))), .val (.int r2), .val (.long ((((own_max (2 : Int32) (p1 &&& (2147483647 : Int32)))).toInt64) * (((own_max (2 : Int32) (p1 &&& (2147483647 : Int32)))).toInt64))), .second, .unset, .unset] [(.int (lcmpW ((p0).toInt64) ((((own_max (2 : Int32) (p1 &&& (2147483647 : Int32)))).toInt64) * (((own_max (2 : Int32) (p1 &&& (2147483647 : Int32)))).toInt64))))])) (by intro t k; exact XS.lcmp X2.here hx rfl (hb hby at_26) rfl k) ?_
  show Run _ _ _ _ _ _ _ T2 (mkF m 27 #[.val (.int p0), .val (.int p1), .val (.int (own_max (2 : Int32) (p1 &&& (2147483647 : Int32)))), .val (.int r2), .val (.long ((((own_max (2 : Int32) (p1 &&& (2147483647 : Int32)))).toInt64) * (((own_max (2 : Int32) (p1 &&& (2147483647 : Int32)))).toInt64))), .second, .unset, .unset] [(.int (lcmpW ((p0).toInt64) ((((own_max (2 : Int32) (p1 &&& (2147483647 : Int32)))).toInt64) * (((own_max (2 : Int32) (p1 &&& (2147483647 : Int32)))).toInt64))))])
  by_cases hc27 : ((((own_max (2 : Int32) (p1 &&& (2147483647 : Int32)))).toInt64) * (((own_max (2 : Int32) (p1 &&& (2147483647 : Int32)))).toInt64)) < ((p0).toInt64)
  · refine go (T' := T2) (f' := (mkF m 41 #[.val (.int p0), .val (.int p1), .val (.int (own_max (2 : Int32) (p1 &&& (2147483647 : Int32)))), .val (.int r2), .val (.long ((((own_max (2 : Int32) (p1 &&& (2147483647 : Int32)))).toInt64) * (((own_max (2 : Int32) (p1 &&& (2147483647 : Int32)))).toInt64))), .second, .unset, .unset] [])) (by intro t k; exact XS.ifYes X2.here hx rfl (pc0 := 27) (pc' := 41) rfl (hb hby at_27) rfl ((if0 _ _).trans (tlt ((lw_gt _ _).mpr hc27)).2.2.1) (by decide) (by decide) k) ?_
    show Run _ _ _ _ _ _ _ T2 (mkF m 41 #[.val (.int p0), .val (.int p1), .val (.int (own_max (2 : Int32) (p1 &&& (2147483647 : Int32)))), .val (.int r2), .val (.long ((((own_max (2 : Int32) (p1 &&& (2147483647 : Int32)))).toInt64) * (((own_max (2 : Int32) (p1 &&& (2147483647 : Int32)))).toInt64))), .second, .unset, .unset] [])
    refine go (T' := T2) (f' := (mkF m 42 #[.val (.int p0), .val (.int p1), .val (.int (own_max (2 : Int32) (p1 &&& (2147483647 : Int32)))), .val (.int r2), .val (.long ((((own_max (2 : Int32) (p1 &&& (2147483647 : Int32)))).toInt64) * (((own_max (2 : Int32) (p1 &&& (2147483647 : Int32)))).toInt64))), .second, .unset, .unset] [(.int p0)])) (by intro t k; exact XS.iloadN X2.here hx rfl (hb hby at_41) rfl k) ?_
    show Run _ _ _ _ _ _ _ T2 (mkF m 42 #[.val (.int p0), .val (.int p1), .val (.int (own_max (2 : Int32) (p1 &&& (2147483647 : Int32)))), .val (.int r2), .val (.long ((((own_max (2 : Int32) (p1 &&& (2147483647 : Int32)))).toInt64) * (((own_max (2 : Int32) (p1 &&& (2147483647 : Int32)))).toInt64))), .second, .unset, .unset] [(.int p0)])
    refine go (T' := T2) (f' := (mkF m 43 #[.val (.int p0), .val (.int p1), .val (.int (own_max (2 : Int32) (p1 &&& (2147483647 : Int32)))), .val (.int r2), .val (.long ((((own_max (2 : Int32) (p1 &&& (2147483647 : Int32)))).toInt64) * (((own_max (2 : Int32) (p1 &&& (2147483647 : Int32)))).toInt64))), .second, .unset, .unset] [(.int (own_max (2 : Int32) (p1 &&& (2147483647 : Int32)))), (.int p0)])) (by intro t k; exact XS.iloadN X2.here hx rfl (hb hby at_42) rfl k) ?_
    show Run _ _ _ _ _ _ _ T2 (mkF m 43 #[.val (.int p0), .val (.int p1), .val (.int (own_max (2 : Int32) (p1 &&& (2147483647 : Int32)))), .val (.int r2), .val (.long ((((own_max (2 : Int32) (p1 &&& (2147483647 : Int32)))).toInt64) * (((own_max (2 : Int32) (p1 &&& (2147483647 : Int32)))).toInt64))), .second, .unset, .unset] [(.int (own_max (2 : Int32) (p1 &&& (2147483647 : Int32)))), (.int p0)])
    refine go (T' := T2) (f' := (mkF m 44 #[.val (.int p0), .val (.int p1), .val (.int (own_max (2 : Int32) (p1 &&& (2147483647 : Int32)))), .val (.int r2), .val (.long ((((own_max (2 : Int32) (p1 &&& (2147483647 : Int32)))).toInt64) * (((own_max (2 : Int32) (p1 &&& (2147483647 : Int32)))).toInt64))), .second, .unset, .unset] [(.int (p0 / (own_max (2 : Int32) (p1 &&& (2147483647 : Int32)))))])) (by intro t k; exact XS.idiv X2.here hx rfl (hb hby at_43) rfl (own_nz (own_m2 _)) k) ?_
    show Run _ _ _ _ _ _ _ T2 (mkF m 44 #[.val (.int p0), .val (.int p1), .val (.int (own_max (2 : Int32) (p1 &&& (2147483647 : Int32)))), .val (.int r2), .val (.long ((((own_max (2 : Int32) (p1 &&& (2147483647 : Int32)))).toInt64) * (((own_max (2 : Int32) (p1 &&& (2147483647 : Int32)))).toInt64))), .second, .unset, .unset] [(.int (p0 / (own_max (2 : Int32) (p1 &&& (2147483647 : Int32)))))])
    refine go (T' := T2) (f' := (mkF m 45 #[.val (.int p0), .val (.int p1), .val (.int (own_max (2 : Int32) (p1 &&& (2147483647 : Int32)))), .val (.int r2), .val (.long ((((own_max (2 : Int32) (p1 &&& (2147483647 : Int32)))).toInt64) * (((own_max (2 : Int32) (p1 &&& (2147483647 : Int32)))).toInt64))), .second, .unset, .unset] [(.int p0), (.int (p0 / (own_max (2 : Int32) (p1 &&& (2147483647 : Int32)))))])) (by intro t k; exact XS.iloadN X2.here hx rfl (hb hby at_44) rfl k) ?_
    show Run _ _ _ _ _ _ _ T2 (mkF m 45 #[.val (.int p0), .val (.int p1), .val (.int (own_max (2 : Int32) (p1 &&& (2147483647 : Int32)))), .val (.int r2), .val (.long ((((own_max (2 : Int32) (p1 &&& (2147483647 : Int32)))).toInt64) * (((own_max (2 : Int32) (p1 &&& (2147483647 : Int32)))).toInt64))), .second, .unset, .unset] [(.int p0), (.int (p0 / (own_max (2 : Int32) (p1 &&& (2147483647 : Int32)))))])
    refine go (T' := T2) (f' := (mkF m 46 #[.val (.int p0), .val (.int p1), .val (.int (own_max (2 : Int32) (p1 &&& (2147483647 : Int32)))), .val (.int r2), .val (.long ((((own_max (2 : Int32) (p1 &&& (2147483647 : Int32)))).toInt64) * (((own_max (2 : Int32) (p1 &&& (2147483647 : Int32)))).toInt64))), .second, .unset, .unset] [(.int (own_max (2 : Int32) (p1 &&& (2147483647 : Int32)))), (.int p0), (.int (p0 / (own_max (2 : Int32) (p1 &&& (2147483647 : Int32)))))])) (by intro t k; exact XS.iloadN X2.here hx rfl (hb hby at_45) rfl k) ?_
    show Run _ _ _ _ _ _ _ T2 (mkF m 46 #[.val (.int p0), .val (.int p1), .val (.int (own_max (2 : Int32) (p1 &&& (2147483647 : Int32)))), .val (.int r2), .val (.long ((((own_max (2 : Int32) (p1 &&& (2147483647 : Int32)))).toInt64) * (((own_max (2 : Int32) (p1 &&& (2147483647 : Int32)))).toInt64))), .second, .unset, .unset] [(.int (own_max (2 : Int32) (p1 &&& (2147483647 : Int32)))), (.int p0), (.int (p0 / (own_max (2 : Int32) (p1 &&& (2147483647 : Int32)))))])
    refine go (T' := T2) (f' := (mkF m 47 #[.val (.int p0), .val (.int p1), .val (.int (own_max (2 : Int32) (p1 &&& (2147483647 : Int32)))), .val (.int r2), .val (.long ((((own_max (2 : Int32) (p1 &&& (2147483647 : Int32)))).toInt64) * (((own_max (2 : Int32) (p1 &&& (2147483647 : Int32)))).toInt64))), .second, .unset, .unset] [(.int (p0 % (own_max (2 : Int32) (p1 &&& (2147483647 : Int32))))), (.int (p0 / (own_max (2 : Int32) (p1 &&& (2147483647 : Int32)))))])) (by intro t k; exact iremM X2 hx rfl (hb hby at_46) rfl (own_nz (own_m2 _)) k) ?_
    show Run _ _ _ _ _ _ _ T2 (mkF m 47 #[.val (.int p0), .val (.int p1), .val (.int (own_max (2 : Int32) (p1 &&& (2147483647 : Int32)))), .val (.int r2), .val (.long ((((own_max (2 : Int32) (p1 &&& (2147483647 : Int32)))).toInt64) * (((own_max (2 : Int32) (p1 &&& (2147483647 : Int32)))).toInt64))), .second, .unset, .unset] [(.int (p0 % (own_max (2 : Int32) (p1 &&& (2147483647 : Int32))))), (.int (p0 / (own_max (2 : Int32) (p1 &&& (2147483647 : Int32)))))])
    obtain ⟨z3, hz3⟩ : ∃ z : Int32, z = (if (p0 % (own_max (2 : Int32) (p1 &&& (2147483647 : Int32)))) = (0 : Int32) then (0 : Int32) else (1 : Int32)) := ⟨_, rfl⟩
    have J47 : Run p e s below (Q0 Z p0 p1 h0 n0) room_1.cells room_1.slots T2 (mkF m 55 #[.val (.int p0), .val (.int p1), .val (.int (own_max (2 : Int32) (p1 &&& (2147483647 : Int32)))), .val (.int r2), .val (.long ((((own_max (2 : Int32) (p1 &&& (2147483647 : Int32)))).toInt64) * (((own_max (2 : Int32) (p1 &&& (2147483647 : Int32)))).toInt64))), .second, .unset, .unset] [(.int z3), (.int (p0 / (own_max (2 : Int32) (p1 &&& (2147483647 : Int32)))))]) := by
      show Run _ _ _ _ _ _ _ T2 (mkF m 55 #[.val (.int p0), .val (.int p1), .val (.int (own_max (2 : Int32) (p1 &&& (2147483647 : Int32)))), .val (.int r2), .val (.long ((((own_max (2 : Int32) (p1 &&& (2147483647 : Int32)))).toInt64) * (((own_max (2 : Int32) (p1 &&& (2147483647 : Int32)))).toInt64))), .second, .unset, .unset] [(.int z3), (.int (p0 / (own_max (2 : Int32) (p1 &&& (2147483647 : Int32)))))])
      refine go (T' := T2) (f' := (mkF m 56 #[.val (.int p0), .val (.int p1), .val (.int (own_max (2 : Int32) (p1 &&& (2147483647 : Int32)))), .val (.int r2), .val (.long ((((own_max (2 : Int32) (p1 &&& (2147483647 : Int32)))).toInt64) * (((own_max (2 : Int32) (p1 &&& (2147483647 : Int32)))).toInt64))), .second, .unset, .unset] [(.int ((p0 / (own_max (2 : Int32) (p1 &&& (2147483647 : Int32)))) + z3))])) (by intro t k; exact XS.iadd X2.here hx rfl (hb hby at_55) rfl k) ?_
      show Run _ _ _ _ _ _ _ T2 (mkF m 56 #[.val (.int p0), .val (.int p1), .val (.int (own_max (2 : Int32) (p1 &&& (2147483647 : Int32)))), .val (.int r2), .val (.long ((((own_max (2 : Int32) (p1 &&& (2147483647 : Int32)))).toInt64) * (((own_max (2 : Int32) (p1 &&& (2147483647 : Int32)))).toInt64))), .second, .unset, .unset] [(.int ((p0 / (own_max (2 : Int32) (p1 &&& (2147483647 : Int32)))) + z3))])
      refine go (T' := T2) (f' := (mkF m 58 #[.val (.int p0), .val (.int p1), .val (.int (own_max (2 : Int32) (p1 &&& (2147483647 : Int32)))), .val (.int r2), .val (.long ((((own_max (2 : Int32) (p1 &&& (2147483647 : Int32)))).toInt64) * (((own_max (2 : Int32) (p1 &&& (2147483647 : Int32)))).toInt64))), .second, .val (.int ((p0 / (own_max (2 : Int32) (p1 &&& (2147483647 : Int32)))) + z3)), .unset] [])) (by intro t k; exact XS.istore X2.here hx rfl (hb hby at_56) rfl (l' := #[.val (.int p0), .val (.int p1), .val (.int (own_max (2 : Int32) (p1 &&& (2147483647 : Int32)))), .val (.int r2), .val (.long ((((own_max (2 : Int32) (p1 &&& (2147483647 : Int32)))).toInt64) * (((own_max (2 : Int32) (p1 &&& (2147483647 : Int32)))).toInt64))), .second, .val (.int ((p0 / (own_max (2 : Int32) (p1 &&& (2147483647 : Int32)))) + z3)), .unset]) rfl k) ?_
      show Run _ _ _ _ _ _ _ T2 (mkF m 58 #[.val (.int p0), .val (.int p1), .val (.int (own_max (2 : Int32) (p1 &&& (2147483647 : Int32)))), .val (.int r2), .val (.long ((((own_max (2 : Int32) (p1 &&& (2147483647 : Int32)))).toInt64) * (((own_max (2 : Int32) (p1 &&& (2147483647 : Int32)))).toInt64))), .second, .val (.int ((p0 / (own_max (2 : Int32) (p1 &&& (2147483647 : Int32)))) + z3)), .unset] [])
      refine go (T' := T2) (f' := (mkF m 60 #[.val (.int p0), .val (.int p1), .val (.int (own_max (2 : Int32) (p1 &&& (2147483647 : Int32)))), .val (.int r2), .val (.long ((((own_max (2 : Int32) (p1 &&& (2147483647 : Int32)))).toInt64) * (((own_max (2 : Int32) (p1 &&& (2147483647 : Int32)))).toInt64))), .second, .val (.int ((p0 / (own_max (2 : Int32) (p1 &&& (2147483647 : Int32)))) + z3)), .unset] [(.int ((p0 / (own_max (2 : Int32) (p1 &&& (2147483647 : Int32)))) + z3))])) (by intro t k; exact XS.iload X2.here hx rfl (hb hby at_58) rfl k) ?_
      show Run _ _ _ _ _ _ _ T2 (mkF m 60 #[.val (.int p0), .val (.int p1), .val (.int (own_max (2 : Int32) (p1 &&& (2147483647 : Int32)))), .val (.int r2), .val (.long ((((own_max (2 : Int32) (p1 &&& (2147483647 : Int32)))).toInt64) * (((own_max (2 : Int32) (p1 &&& (2147483647 : Int32)))).toInt64))), .second, .val (.int ((p0 / (own_max (2 : Int32) (p1 &&& (2147483647 : Int32)))) + z3)), .unset] [(.int ((p0 / (own_max (2 : Int32) (p1 &&& (2147483647 : Int32)))) + z3))])
      refine go (T' := T2) (f' := (mkF m 61 #[.val (.int p0), .val (.int p1), .val (.int (own_max (2 : Int32) (p1 &&& (2147483647 : Int32)))), .val (.int r2), .val (.long ((((own_max (2 : Int32) (p1 &&& (2147483647 : Int32)))).toInt64) * (((own_max (2 : Int32) (p1 &&& (2147483647 : Int32)))).toInt64))), .second, .val (.int ((p0 / (own_max (2 : Int32) (p1 &&& (2147483647 : Int32)))) + z3)), .unset] [(.int (own_max (2 : Int32) (p1 &&& (2147483647 : Int32)))), (.int ((p0 / (own_max (2 : Int32) (p1 &&& (2147483647 : Int32)))) + z3))])) (by intro t k; exact XS.iloadN X2.here hx rfl (hb hby at_60) rfl k) ?_
      show Run _ _ _ _ _ _ _ T2 (mkF m 61 #[.val (.int p0), .val (.int p1), .val (.int (own_max (2 : Int32) (p1 &&& (2147483647 : Int32)))), .val (.int r2), .val (.long ((((own_max (2 : Int32) (p1 &&& (2147483647 : Int32)))).toInt64) * (((own_max (2 : Int32) (p1 &&& (2147483647 : Int32)))).toInt64))), .second, .val (.int ((p0 / (own_max (2 : Int32) (p1 &&& (2147483647 : Int32)))) + z3)), .unset] [(.int (own_max (2 : Int32) (p1 &&& (2147483647 : Int32)))), (.int ((p0 / (own_max (2 : Int32) (p1 &&& (2147483647 : Int32)))) + z3))])
      obtain ⟨_, _, ⟨T4, Lz4, kz4, nz4⟩, -, X4, ⟨Lc4, hQ4, lz4, yz4, zz4⟩, st4⟩ := Jvm.LawKit.callS X2 hx (y := (⟨"com/example/backchain/backchain/io/SqlWriter", "groupSize", "(II)I"⟩ : MethodName)) hown (mvT hZ (hw _ (List.mem_of_getElem? (i := 5) rfl))) (mvT hZ (hw _ (List.mem_of_getElem? (i := 6) rfl))) (mvT hZ (hw _ (List.mem_of_getElem? (i := 7) rfl))) (mvT hZ (hw _ (List.mem_of_getElem? (i := 8) rfl))) (by decide) (backOf (W := 0) (rm2 l Z a0 hw [] ((p0 / (own_max (2 : Int32) (p1 &&& (2147483647 : Int32)))) + z3) (own_max (2 : Int32) (p1 &&& (2147483647 : Int32)))  h0 n0 Z0 (own_m2 _)) hZ (hw _ (List.mem_of_getElem? (i := 8) rfl)) (hw _ (List.mem_of_getElem? (i := 7) rfl)) (by decide) (by decide)) (g := (mkF m 61 #[.val (.int p0), .val (.int p1), .val (.int (own_max (2 : Int32) (p1 &&& (2147483647 : Int32)))), .val (.int r2), .val (.long ((((own_max (2 : Int32) (p1 &&& (2147483647 : Int32)))).toInt64) * (((own_max (2 : Int32) (p1 &&& (2147483647 : Int32)))).toInt64))), .second, .val (.int ((p0 / (own_max (2 : Int32) (p1 &&& (2147483647 : Int32)))) + z3)), .unset] [(.int (own_max (2 : Int32) (p1 &&& (2147483647 : Int32)))), (.int ((p0 / (own_max (2 : Int32) (p1 &&& (2147483647 : Int32)))) + z3))])) rfl (by rw [hml]; rfl) (argsL := [(.int ((p0 / (own_max (2 : Int32) (p1 &&& (2147483647 : Int32)))) + z3)), (.int (own_max (2 : Int32) (p1 &&& (2147483647 : Int32))))]) (rest := []) (lenOf pd_28II29I rfl) rfl (by show 2 * 0 + _ ≤ _; exact Nat.le_of_eq rfl) (hb hby at_61) (fun _ _ => ⟨rfl, e2, (by decide : 0 + 0 ≤ _), (by decide : 0 + 0 ≤ _)⟩)
      dsimp only [Pt.U, Pt.locs, Pt.cells, Pt.slots] at X4 lz4 yz4 zz4 st4 hQ4
      subst lz4 yz4 zz4
      obtain ⟨r4, rfl, hR4, N4q, e4⟩ := hQ4
      have N4 := Fr.app N2 N4q
      refine go st4 ?_
      show Run _ _ _ _ _ _ _ T4 (mkF m 64 #[.val (.int p0), .val (.int p1), .val (.int (own_max (2 : Int32) (p1 &&& (2147483647 : Int32)))), .val (.int r2), .val (.long ((((own_max (2 : Int32) (p1 &&& (2147483647 : Int32)))).toInt64) * (((own_max (2 : Int32) (p1 &&& (2147483647 : Int32)))).toInt64))), .second, .val (.int ((p0 / (own_max (2 : Int32) (p1 &&& (2147483647 : Int32)))) + z3)), .unset] [(.int r4)])
      refine go (T' := T4) (f' := (mkF m 66 #[.val (.int p0), .val (.int p1), .val (.int (own_max (2 : Int32) (p1 &&& (2147483647 : Int32)))), .val (.int r2), .val (.long ((((own_max (2 : Int32) (p1 &&& (2147483647 : Int32)))).toInt64) * (((own_max (2 : Int32) (p1 &&& (2147483647 : Int32)))).toInt64))), .second, .val (.int ((p0 / (own_max (2 : Int32) (p1 &&& (2147483647 : Int32)))) + z3)), .val (.int r4)] [])) (by intro t k; exact XS.istore X4.here hx rfl (hb hby at_64) rfl (l' := #[.val (.int p0), .val (.int p1), .val (.int (own_max (2 : Int32) (p1 &&& (2147483647 : Int32)))), .val (.int r2), .val (.long ((((own_max (2 : Int32) (p1 &&& (2147483647 : Int32)))).toInt64) * (((own_max (2 : Int32) (p1 &&& (2147483647 : Int32)))).toInt64))), .second, .val (.int ((p0 / (own_max (2 : Int32) (p1 &&& (2147483647 : Int32)))) + z3)), .val (.int r4)]) rfl k) ?_
      show Run _ _ _ _ _ _ _ T4 (mkF m 66 #[.val (.int p0), .val (.int p1), .val (.int (own_max (2 : Int32) (p1 &&& (2147483647 : Int32)))), .val (.int r2), .val (.long ((((own_max (2 : Int32) (p1 &&& (2147483647 : Int32)))).toInt64) * (((own_max (2 : Int32) (p1 &&& (2147483647 : Int32)))).toInt64))), .second, .val (.int ((p0 / (own_max (2 : Int32) (p1 &&& (2147483647 : Int32)))) + z3)), .val (.int r4)] [])
      refine go (T' := T4) (f' := (mkF m 67 #[.val (.int p0), .val (.int p1), .val (.int (own_max (2 : Int32) (p1 &&& (2147483647 : Int32)))), .val (.int r2), .val (.long ((((own_max (2 : Int32) (p1 &&& (2147483647 : Int32)))).toInt64) * (((own_max (2 : Int32) (p1 &&& (2147483647 : Int32)))).toInt64))), .second, .val (.int ((p0 / (own_max (2 : Int32) (p1 &&& (2147483647 : Int32)))) + z3)), .val (.int r4)] [(.int r2)])) (by intro t k; exact XS.iloadN X4.here hx rfl (hb hby at_66) rfl k) ?_
      show Run _ _ _ _ _ _ _ T4 (mkF m 67 #[.val (.int p0), .val (.int p1), .val (.int (own_max (2 : Int32) (p1 &&& (2147483647 : Int32)))), .val (.int r2), .val (.long ((((own_max (2 : Int32) (p1 &&& (2147483647 : Int32)))).toInt64) * (((own_max (2 : Int32) (p1 &&& (2147483647 : Int32)))).toInt64))), .second, .val (.int ((p0 / (own_max (2 : Int32) (p1 &&& (2147483647 : Int32)))) + z3)), .val (.int r4)] [(.int r2)])
      refine go (T' := T4) (f' := (mkF m 68 #[.val (.int p0), .val (.int p1), .val (.int (own_max (2 : Int32) (p1 &&& (2147483647 : Int32)))), .val (.int r2), .val (.long ((((own_max (2 : Int32) (p1 &&& (2147483647 : Int32)))).toInt64) * (((own_max (2 : Int32) (p1 &&& (2147483647 : Int32)))).toInt64))), .second, .val (.int ((p0 / (own_max (2 : Int32) (p1 &&& (2147483647 : Int32)))) + z3)), .val (.int r4)] [(.long ((r2).toInt64))])) (by intro t k; exact XS.i2l X4.here hx rfl (hb hby at_67) rfl k) ?_
      show Run _ _ _ _ _ _ _ T4 (mkF m 68 #[.val (.int p0), .val (.int p1), .val (.int (own_max (2 : Int32) (p1 &&& (2147483647 : Int32)))), .val (.int r2), .val (.long ((((own_max (2 : Int32) (p1 &&& (2147483647 : Int32)))).toInt64) * (((own_max (2 : Int32) (p1 &&& (2147483647 : Int32)))).toInt64))), .second, .val (.int ((p0 / (own_max (2 : Int32) (p1 &&& (2147483647 : Int32)))) + z3)), .val (.int r4)] [(.long ((r2).toInt64))])
      refine go (T' := T4) (f' := (mkF m 69 #[.val (.int p0), .val (.int p1), .val (.int (own_max (2 : Int32) (p1 &&& (2147483647 : Int32)))), .val (.int r2), .val (.long ((((own_max (2 : Int32) (p1 &&& (2147483647 : Int32)))).toInt64) * (((own_max (2 : Int32) (p1 &&& (2147483647 : Int32)))).toInt64))), .second, .val (.int ((p0 / (own_max (2 : Int32) (p1 &&& (2147483647 : Int32)))) + z3)), .val (.int r4)] [(.int (own_max (2 : Int32) (p1 &&& (2147483647 : Int32)))), (.long ((r2).toInt64))])) (by intro t k; exact XS.iloadN X4.here hx rfl (hb hby at_68) rfl k) ?_
      show Run _ _ _ _ _ _ _ T4 (mkF m 69 #[.val (.int p0), .val (.int p1), .val (.int (own_max (2 : Int32) (p1 &&& (2147483647 : Int32)))), .val (.int r2), .val (.long ((((own_max (2 : Int32) (p1 &&& (2147483647 : Int32)))).toInt64) * (((own_max (2 : Int32) (p1 &&& (2147483647 : Int32)))).toInt64))), .second, .val (.int ((p0 / (own_max (2 : Int32) (p1 &&& (2147483647 : Int32)))) + z3)), .val (.int r4)] [(.int (own_max (2 : Int32) (p1 &&& (2147483647 : Int32)))), (.long ((r2).toInt64))])
      refine go (T' := T4) (f' := (mkF m 70 #[.val (.int p0), .val (.int p1), .val (.int (own_max (2 : Int32) (p1 &&& (2147483647 : Int32)))), .val (.int r2), .val (.long ((((own_max (2 : Int32) (p1 &&& (2147483647 : Int32)))).toInt64) * (((own_max (2 : Int32) (p1 &&& (2147483647 : Int32)))).toInt64))), .second, .val (.int ((p0 / (own_max (2 : Int32) (p1 &&& (2147483647 : Int32)))) + z3)), .val (.int r4)] [(.long (((own_max (2 : Int32) (p1 &&& (2147483647 : Int32)))).toInt64)), (.long ((r2).toInt64))])) (by intro t k; exact XS.i2l X4.here hx rfl (hb hby at_69) rfl k) ?_
      show Run _ _ _ _ _ _ _ T4 (mkF m 70 #[.val (.int p0), .val (.int p1), .val (.int (own_max (2 : Int32) (p1 &&& (2147483647 : Int32)))), .val (.int r2), .val (.long ((((own_max (2 : Int32) (p1 &&& (2147483647 : Int32)))).toInt64) * (((own_max (2 : Int32) (p1 &&& (2147483647 : Int32)))).toInt64))), .second, .val (.int ((p0 / (own_max (2 : Int32) (p1 &&& (2147483647 : Int32)))) + z3)), .val (.int r4)] [(.long (((own_max (2 : Int32) (p1 &&& (2147483647 : Int32)))).toInt64)), (.long ((r2).toInt64))])
      refine go (T' := T4) (f' := (mkF m 72 #[.val (.int p0), .val (.int p1), .val (.int (own_max (2 : Int32) (p1 &&& (2147483647 : Int32)))), .val (.int r2), .val (.long ((((own_max (2 : Int32) (p1 &&& (2147483647 : Int32)))).toInt64) * (((own_max (2 : Int32) (p1 &&& (2147483647 : Int32)))).toInt64))), .second, .val (.int ((p0 / (own_max (2 : Int32) (p1 &&& (2147483647 : Int32)))) + z3)), .val (.int r4)] [(.int r4), (.long (((own_max (2 : Int32) (p1 &&& (2147483647 : Int32)))).toInt64)), (.long ((r2).toInt64))])) (by intro t k; exact XS.iload X4.here hx rfl (hb hby at_70) rfl k) ?_
      show Run _ _ _ _ _ _ _ T4 (mkF m 72 #[.val (.int p0), .val (.int p1), .val (.int (own_max (2 : Int32) (p1 &&& (2147483647 : Int32)))), .val (.int r2), .val (.long ((((own_max (2 : Int32) (p1 &&& (2147483647 : Int32)))).toInt64) * (((own_max (2 : Int32) (p1 &&& (2147483647 : Int32)))).toInt64))), .second, .val (.int ((p0 / (own_max (2 : Int32) (p1 &&& (2147483647 : Int32)))) + z3)), .val (.int r4)] [(.int r4), (.long (((own_max (2 : Int32) (p1 &&& (2147483647 : Int32)))).toInt64)), (.long ((r2).toInt64))])
      refine go (T' := T4) (f' := (mkF m 73 #[.val (.int p0), .val (.int p1), .val (.int (own_max (2 : Int32) (p1 &&& (2147483647 : Int32)))), .val (.int r2), .val (.long ((((own_max (2 : Int32) (p1 &&& (2147483647 : Int32)))).toInt64) * (((own_max (2 : Int32) (p1 &&& (2147483647 : Int32)))).toInt64))), .second, .val (.int ((p0 / (own_max (2 : Int32) (p1 &&& (2147483647 : Int32)))) + z3)), .val (.int r4)] [(.long ((r4).toInt64)), (.long (((own_max (2 : Int32) (p1 &&& (2147483647 : Int32)))).toInt64)), (.long ((r2).toInt64))])) (by intro t k; exact XS.i2l X4.here hx rfl (hb hby at_72) rfl k) ?_
      show Run _ _ _ _ _ _ _ T4 (mkF m 73 #[.val (.int p0), .val (.int p1), .val (.int (own_max (2 : Int32) (p1 &&& (2147483647 : Int32)))), .val (.int r2), .val (.long ((((own_max (2 : Int32) (p1 &&& (2147483647 : Int32)))).toInt64) * (((own_max (2 : Int32) (p1 &&& (2147483647 : Int32)))).toInt64))), .second, .val (.int ((p0 / (own_max (2 : Int32) (p1 &&& (2147483647 : Int32)))) + z3)), .val (.int r4)] [(.long ((r4).toInt64)), (.long (((own_max (2 : Int32) (p1 &&& (2147483647 : Int32)))).toInt64)), (.long ((r2).toInt64))])
      refine go (T' := T4) (f' := (mkF m 74 #[.val (.int p0), .val (.int p1), .val (.int (own_max (2 : Int32) (p1 &&& (2147483647 : Int32)))), .val (.int r2), .val (.long ((((own_max (2 : Int32) (p1 &&& (2147483647 : Int32)))).toInt64) * (((own_max (2 : Int32) (p1 &&& (2147483647 : Int32)))).toInt64))), .second, .val (.int ((p0 / (own_max (2 : Int32) (p1 &&& (2147483647 : Int32)))) + z3)), .val (.int r4)] [(.long ((((own_max (2 : Int32) (p1 &&& (2147483647 : Int32)))).toInt64) * ((r4).toInt64))), (.long ((r2).toInt64))])) (by intro t k; exact XS.lmul X4.here hx rfl (hb hby at_73) rfl k) ?_
      show Run _ _ _ _ _ _ _ T4 (mkF m 74 #[.val (.int p0), .val (.int p1), .val (.int (own_max (2 : Int32) (p1 &&& (2147483647 : Int32)))), .val (.int r2), .val (.long ((((own_max (2 : Int32) (p1 &&& (2147483647 : Int32)))).toInt64) * (((own_max (2 : Int32) (p1 &&& (2147483647 : Int32)))).toInt64))), .second, .val (.int ((p0 / (own_max (2 : Int32) (p1 &&& (2147483647 : Int32)))) + z3)), .val (.int r4)] [(.long ((((own_max (2 : Int32) (p1 &&& (2147483647 : Int32)))).toInt64) * ((r4).toInt64))), (.long ((r2).toInt64))])
      refine go (T' := T4) (f' := (mkF m 75 #[.val (.int p0), .val (.int p1), .val (.int (own_max (2 : Int32) (p1 &&& (2147483647 : Int32)))), .val (.int r2), .val (.long ((((own_max (2 : Int32) (p1 &&& (2147483647 : Int32)))).toInt64) * (((own_max (2 : Int32) (p1 &&& (2147483647 : Int32)))).toInt64))), .second, .val (.int ((p0 / (own_max (2 : Int32) (p1 &&& (2147483647 : Int32)))) + z3)), .val (.int r4)] [(.int (lcmpW ((r2).toInt64) ((((own_max (2 : Int32) (p1 &&& (2147483647 : Int32)))).toInt64) * ((r4).toInt64))))])) (by intro t k; exact XS.lcmp X4.here hx rfl (hb hby at_74) rfl k) ?_
      show Run _ _ _ _ _ _ _ T4 (mkF m 75 #[.val (.int p0), .val (.int p1), .val (.int (own_max (2 : Int32) (p1 &&& (2147483647 : Int32)))), .val (.int r2), .val (.long ((((own_max (2 : Int32) (p1 &&& (2147483647 : Int32)))).toInt64) * (((own_max (2 : Int32) (p1 &&& (2147483647 : Int32)))).toInt64))), .second, .val (.int ((p0 / (own_max (2 : Int32) (p1 &&& (2147483647 : Int32)))) + z3)), .val (.int r4)] [(.int (lcmpW ((r2).toInt64) ((((own_max (2 : Int32) (p1 &&& (2147483647 : Int32)))).toInt64) * ((r4).toInt64))))])
      obtain ⟨z5, hz5⟩ : ∃ z : Int32, z = (if ((r2).toInt64) = ((((own_max (2 : Int32) (p1 &&& (2147483647 : Int32)))).toInt64) * ((r4).toInt64)) then (if ((r2).toInt64) < ((p0).toInt64) then (if (((r2).toInt64) * (((own_max (2 : Int32) (p1 &&& (2147483647 : Int32)))).toInt64)) < ((p0).toInt64) then (0 : Int32) else (1 : Int32)) else (0 : Int32)) else (0 : Int32)) := ⟨_, rfl⟩
      have J75 : Run p e s below (Q0 Z p0 p1 h0 n0) room_1.cells room_1.slots T4 (mkF m 102 #[.val (.int p0), .val (.int p1), .val (.int (own_max (2 : Int32) (p1 &&& (2147483647 : Int32)))), .val (.int r2), .val (.long ((((own_max (2 : Int32) (p1 &&& (2147483647 : Int32)))).toInt64) * (((own_max (2 : Int32) (p1 &&& (2147483647 : Int32)))).toInt64))), .second, .val (.int ((p0 / (own_max (2 : Int32) (p1 &&& (2147483647 : Int32)))) + z3)), .val (.int r4)] [(.int z5)]) := by
        show Run _ _ _ _ _ _ _ T4 (mkF m 102 #[.val (.int p0), .val (.int p1), .val (.int (own_max (2 : Int32) (p1 &&& (2147483647 : Int32)))), .val (.int r2), .val (.long ((((own_max (2 : Int32) (p1 &&& (2147483647 : Int32)))).toInt64) * (((own_max (2 : Int32) (p1 &&& (2147483647 : Int32)))).toInt64))), .second, .val (.int ((p0 / (own_max (2 : Int32) (p1 &&& (2147483647 : Int32)))) + z3)), .val (.int r4)] [(.int z5)])
        refine retZ X4 hx (t := .boolean) Bd.returns (by simp) (hb hby at_102) hlk (by decide) (by decide) ?_
        show Q0 Z p0 p1 h0 n0 _ T4.heap _
        rw [e4]
        have hv' : (nar .boolean z5) = (1 : Int32) := by
          obtain ⟨w1, w2, w3⟩ := own_way2 (own_m2 _) hR2 hz3 hR4 hc27
          subst_vars
          simp only [if_pos w1, if_pos w2, if_neg w3]
          rfl
        have hv : (some (.int (nar .boolean z5)) : Option Value) = some (.int (1 : Int32)) := by rw [hv']
        exact ⟨hv, N4⟩
      show Run _ _ _ _ _ _ _ T4 (mkF m 75 #[.val (.int p0), .val (.int p1), .val (.int (own_max (2 : Int32) (p1 &&& (2147483647 : Int32)))), .val (.int r2), .val (.long ((((own_max (2 : Int32) (p1 &&& (2147483647 : Int32)))).toInt64) * (((own_max (2 : Int32) (p1 &&& (2147483647 : Int32)))).toInt64))), .second, .val (.int ((p0 / (own_max (2 : Int32) (p1 &&& (2147483647 : Int32)))) + z3)), .val (.int r4)] [(.int (lcmpW ((r2).toInt64) ((((own_max (2 : Int32) (p1 &&& (2147483647 : Int32)))).toInt64) * ((r4).toInt64))))])
      by_cases hc75 : ((r2).toInt64) = ((((own_max (2 : Int32) (p1 &&& (2147483647 : Int32)))).toInt64) * ((r4).toInt64))
      · refine go (T' := T4) (f' := (mkF m 78 #[.val (.int p0), .val (.int p1), .val (.int (own_max (2 : Int32) (p1 &&& (2147483647 : Int32)))), .val (.int r2), .val (.long ((((own_max (2 : Int32) (p1 &&& (2147483647 : Int32)))).toInt64) * (((own_max (2 : Int32) (p1 &&& (2147483647 : Int32)))).toInt64))), .second, .val (.int ((p0 / (own_max (2 : Int32) (p1 &&& (2147483647 : Int32)))) + z3)), .val (.int r4)] [])) (by intro t k; exact XS.ifNo X4.here hx rfl (hb hby at_75) rfl ((if0 _ _).trans (teq ((lw_eq _ _).mpr hc75)).2) k) ?_
        show Run _ _ _ _ _ _ _ T4 (mkF m 78 #[.val (.int p0), .val (.int p1), .val (.int (own_max (2 : Int32) (p1 &&& (2147483647 : Int32)))), .val (.int r2), .val (.long ((((own_max (2 : Int32) (p1 &&& (2147483647 : Int32)))).toInt64) * (((own_max (2 : Int32) (p1 &&& (2147483647 : Int32)))).toInt64))), .second, .val (.int ((p0 / (own_max (2 : Int32) (p1 &&& (2147483647 : Int32)))) + z3)), .val (.int r4)] [])
        refine go (T' := T4) (f' := (mkF m 79 #[.val (.int p0), .val (.int p1), .val (.int (own_max (2 : Int32) (p1 &&& (2147483647 : Int32)))), .val (.int r2), .val (.long ((((own_max (2 : Int32) (p1 &&& (2147483647 : Int32)))).toInt64) * (((own_max (2 : Int32) (p1 &&& (2147483647 : Int32)))).toInt64))), .second, .val (.int ((p0 / (own_max (2 : Int32) (p1 &&& (2147483647 : Int32)))) + z3)), .val (.int r4)] [(.int r2)])) (by intro t k; exact XS.iloadN X4.here hx rfl (hb hby at_78) rfl k) ?_
        show Run _ _ _ _ _ _ _ T4 (mkF m 79 #[.val (.int p0), .val (.int p1), .val (.int (own_max (2 : Int32) (p1 &&& (2147483647 : Int32)))), .val (.int r2), .val (.long ((((own_max (2 : Int32) (p1 &&& (2147483647 : Int32)))).toInt64) * (((own_max (2 : Int32) (p1 &&& (2147483647 : Int32)))).toInt64))), .second, .val (.int ((p0 / (own_max (2 : Int32) (p1 &&& (2147483647 : Int32)))) + z3)), .val (.int r4)] [(.int r2)])
        refine go (T' := T4) (f' := (mkF m 80 #[.val (.int p0), .val (.int p1), .val (.int (own_max (2 : Int32) (p1 &&& (2147483647 : Int32)))), .val (.int r2), .val (.long ((((own_max (2 : Int32) (p1 &&& (2147483647 : Int32)))).toInt64) * (((own_max (2 : Int32) (p1 &&& (2147483647 : Int32)))).toInt64))), .second, .val (.int ((p0 / (own_max (2 : Int32) (p1 &&& (2147483647 : Int32)))) + z3)), .val (.int r4)] [(.long ((r2).toInt64))])) (by intro t k; exact XS.i2l X4.here hx rfl (hb hby at_79) rfl k) ?_
        show Run _ _ _ _ _ _ _ T4 (mkF m 80 #[.val (.int p0), .val (.int p1), .val (.int (own_max (2 : Int32) (p1 &&& (2147483647 : Int32)))), .val (.int r2), .val (.long ((((own_max (2 : Int32) (p1 &&& (2147483647 : Int32)))).toInt64) * (((own_max (2 : Int32) (p1 &&& (2147483647 : Int32)))).toInt64))), .second, .val (.int ((p0 / (own_max (2 : Int32) (p1 &&& (2147483647 : Int32)))) + z3)), .val (.int r4)] [(.long ((r2).toInt64))])
        refine go (T' := T4) (f' := (mkF m 81 #[.val (.int p0), .val (.int p1), .val (.int (own_max (2 : Int32) (p1 &&& (2147483647 : Int32)))), .val (.int r2), .val (.long ((((own_max (2 : Int32) (p1 &&& (2147483647 : Int32)))).toInt64) * (((own_max (2 : Int32) (p1 &&& (2147483647 : Int32)))).toInt64))), .second, .val (.int ((p0 / (own_max (2 : Int32) (p1 &&& (2147483647 : Int32)))) + z3)), .val (.int r4)] [(.int p0), (.long ((r2).toInt64))])) (by intro t k; exact XS.iloadN X4.here hx rfl (hb hby at_80) rfl k) ?_
        show Run _ _ _ _ _ _ _ T4 (mkF m 81 #[.val (.int p0), .val (.int p1), .val (.int (own_max (2 : Int32) (p1 &&& (2147483647 : Int32)))), .val (.int r2), .val (.long ((((own_max (2 : Int32) (p1 &&& (2147483647 : Int32)))).toInt64) * (((own_max (2 : Int32) (p1 &&& (2147483647 : Int32)))).toInt64))), .second, .val (.int ((p0 / (own_max (2 : Int32) (p1 &&& (2147483647 : Int32)))) + z3)), .val (.int r4)] [(.int p0), (.long ((r2).toInt64))])
        refine go (T' := T4) (f' := (mkF m 82 #[.val (.int p0), .val (.int p1), .val (.int (own_max (2 : Int32) (p1 &&& (2147483647 : Int32)))), .val (.int r2), .val (.long ((((own_max (2 : Int32) (p1 &&& (2147483647 : Int32)))).toInt64) * (((own_max (2 : Int32) (p1 &&& (2147483647 : Int32)))).toInt64))), .second, .val (.int ((p0 / (own_max (2 : Int32) (p1 &&& (2147483647 : Int32)))) + z3)), .val (.int r4)] [(.long ((p0).toInt64)), (.long ((r2).toInt64))])) (by intro t k; exact XS.i2l X4.here hx rfl (hb hby at_81) rfl k) ?_
        show Run _ _ _ _ _ _ _ T4 (mkF m 82 #[.val (.int p0), .val (.int p1), .val (.int (own_max (2 : Int32) (p1 &&& (2147483647 : Int32)))), .val (.int r2), .val (.long ((((own_max (2 : Int32) (p1 &&& (2147483647 : Int32)))).toInt64) * (((own_max (2 : Int32) (p1 &&& (2147483647 : Int32)))).toInt64))), .second, .val (.int ((p0 / (own_max (2 : Int32) (p1 &&& (2147483647 : Int32)))) + z3)), .val (.int r4)] [(.long ((p0).toInt64)), (.long ((r2).toInt64))])
        refine go (T' := T4) (f' := (mkF m 83 #[.val (.int p0), .val (.int p1), .val (.int (own_max (2 : Int32) (p1 &&& (2147483647 : Int32)))), .val (.int r2), .val (.long ((((own_max (2 : Int32) (p1 &&& (2147483647 : Int32)))).toInt64) * (((own_max (2 : Int32) (p1 &&& (2147483647 : Int32)))).toInt64))), .second, .val (.int ((p0 / (own_max (2 : Int32) (p1 &&& (2147483647 : Int32)))) + z3)), .val (.int r4)] [(.int (lcmpW ((r2).toInt64) ((p0).toInt64)))])) (by intro t k; exact XS.lcmp X4.here hx rfl (hb hby at_82) rfl k) ?_
        show Run _ _ _ _ _ _ _ T4 (mkF m 83 #[.val (.int p0), .val (.int p1), .val (.int (own_max (2 : Int32) (p1 &&& (2147483647 : Int32)))), .val (.int r2), .val (.long ((((own_max (2 : Int32) (p1 &&& (2147483647 : Int32)))).toInt64) * (((own_max (2 : Int32) (p1 &&& (2147483647 : Int32)))).toInt64))), .second, .val (.int ((p0 / (own_max (2 : Int32) (p1 &&& (2147483647 : Int32)))) + z3)), .val (.int r4)] [(.int (lcmpW ((r2).toInt64) ((p0).toInt64)))])
        by_cases hc83 : ((r2).toInt64) < ((p0).toInt64)
        · refine go (T' := T4) (f' := (mkF m 86 #[.val (.int p0), .val (.int p1), .val (.int (own_max (2 : Int32) (p1 &&& (2147483647 : Int32)))), .val (.int r2), .val (.long ((((own_max (2 : Int32) (p1 &&& (2147483647 : Int32)))).toInt64) * (((own_max (2 : Int32) (p1 &&& (2147483647 : Int32)))).toInt64))), .second, .val (.int ((p0 / (own_max (2 : Int32) (p1 &&& (2147483647 : Int32)))) + z3)), .val (.int r4)] [])) (by intro t k; exact XS.ifNo X4.here hx rfl (hb hby at_83) rfl ((if0 _ _).trans (tlt ((lw_lt _ _).mpr hc83)).2.1) k) ?_
          show Run _ _ _ _ _ _ _ T4 (mkF m 86 #[.val (.int p0), .val (.int p1), .val (.int (own_max (2 : Int32) (p1 &&& (2147483647 : Int32)))), .val (.int r2), .val (.long ((((own_max (2 : Int32) (p1 &&& (2147483647 : Int32)))).toInt64) * (((own_max (2 : Int32) (p1 &&& (2147483647 : Int32)))).toInt64))), .second, .val (.int ((p0 / (own_max (2 : Int32) (p1 &&& (2147483647 : Int32)))) + z3)), .val (.int r4)] [])
          refine go (T' := T4) (f' := (mkF m 87 #[.val (.int p0), .val (.int p1), .val (.int (own_max (2 : Int32) (p1 &&& (2147483647 : Int32)))), .val (.int r2), .val (.long ((((own_max (2 : Int32) (p1 &&& (2147483647 : Int32)))).toInt64) * (((own_max (2 : Int32) (p1 &&& (2147483647 : Int32)))).toInt64))), .second, .val (.int ((p0 / (own_max (2 : Int32) (p1 &&& (2147483647 : Int32)))) + z3)), .val (.int r4)] [(.int r2)])) (by intro t k; exact XS.iloadN X4.here hx rfl (hb hby at_86) rfl k) ?_
          show Run _ _ _ _ _ _ _ T4 (mkF m 87 #[.val (.int p0), .val (.int p1), .val (.int (own_max (2 : Int32) (p1 &&& (2147483647 : Int32)))), .val (.int r2), .val (.long ((((own_max (2 : Int32) (p1 &&& (2147483647 : Int32)))).toInt64) * (((own_max (2 : Int32) (p1 &&& (2147483647 : Int32)))).toInt64))), .second, .val (.int ((p0 / (own_max (2 : Int32) (p1 &&& (2147483647 : Int32)))) + z3)), .val (.int r4)] [(.int r2)])
          refine go (T' := T4) (f' := (mkF m 88 #[.val (.int p0), .val (.int p1), .val (.int (own_max (2 : Int32) (p1 &&& (2147483647 : Int32)))), .val (.int r2), .val (.long ((((own_max (2 : Int32) (p1 &&& (2147483647 : Int32)))).toInt64) * (((own_max (2 : Int32) (p1 &&& (2147483647 : Int32)))).toInt64))), .second, .val (.int ((p0 / (own_max (2 : Int32) (p1 &&& (2147483647 : Int32)))) + z3)), .val (.int r4)] [(.long ((r2).toInt64))])) (by intro t k; exact XS.i2l X4.here hx rfl (hb hby at_87) rfl k) ?_
          show Run _ _ _ _ _ _ _ T4 (mkF m 88 #[.val (.int p0), .val (.int p1), .val (.int (own_max (2 : Int32) (p1 &&& (2147483647 : Int32)))), .val (.int r2), .val (.long ((((own_max (2 : Int32) (p1 &&& (2147483647 : Int32)))).toInt64) * (((own_max (2 : Int32) (p1 &&& (2147483647 : Int32)))).toInt64))), .second, .val (.int ((p0 / (own_max (2 : Int32) (p1 &&& (2147483647 : Int32)))) + z3)), .val (.int r4)] [(.long ((r2).toInt64))])
          refine go (T' := T4) (f' := (mkF m 89 #[.val (.int p0), .val (.int p1), .val (.int (own_max (2 : Int32) (p1 &&& (2147483647 : Int32)))), .val (.int r2), .val (.long ((((own_max (2 : Int32) (p1 &&& (2147483647 : Int32)))).toInt64) * (((own_max (2 : Int32) (p1 &&& (2147483647 : Int32)))).toInt64))), .second, .val (.int ((p0 / (own_max (2 : Int32) (p1 &&& (2147483647 : Int32)))) + z3)), .val (.int r4)] [(.int (own_max (2 : Int32) (p1 &&& (2147483647 : Int32)))), (.long ((r2).toInt64))])) (by intro t k; exact XS.iloadN X4.here hx rfl (hb hby at_88) rfl k) ?_
          show Run _ _ _ _ _ _ _ T4 (mkF m 89 #[.val (.int p0), .val (.int p1), .val (.int (own_max (2 : Int32) (p1 &&& (2147483647 : Int32)))), .val (.int r2), .val (.long ((((own_max (2 : Int32) (p1 &&& (2147483647 : Int32)))).toInt64) * (((own_max (2 : Int32) (p1 &&& (2147483647 : Int32)))).toInt64))), .second, .val (.int ((p0 / (own_max (2 : Int32) (p1 &&& (2147483647 : Int32)))) + z3)), .val (.int r4)] [(.int (own_max (2 : Int32) (p1 &&& (2147483647 : Int32)))), (.long ((r2).toInt64))])
          refine go (T' := T4) (f' := (mkF m 90 #[.val (.int p0), .val (.int p1), .val (.int (own_max (2 : Int32) (p1 &&& (2147483647 : Int32)))), .val (.int r2), .val (.long ((((own_max (2 : Int32) (p1 &&& (2147483647 : Int32)))).toInt64) * (((own_max (2 : Int32) (p1 &&& (2147483647 : Int32)))).toInt64))), .second, .val (.int ((p0 / (own_max (2 : Int32) (p1 &&& (2147483647 : Int32)))) + z3)), .val (.int r4)] [(.long (((own_max (2 : Int32) (p1 &&& (2147483647 : Int32)))).toInt64)), (.long ((r2).toInt64))])) (by intro t k; exact XS.i2l X4.here hx rfl (hb hby at_89) rfl k) ?_
          show Run _ _ _ _ _ _ _ T4 (mkF m 90 #[.val (.int p0), .val (.int p1), .val (.int (own_max (2 : Int32) (p1 &&& (2147483647 : Int32)))), .val (.int r2), .val (.long ((((own_max (2 : Int32) (p1 &&& (2147483647 : Int32)))).toInt64) * (((own_max (2 : Int32) (p1 &&& (2147483647 : Int32)))).toInt64))), .second, .val (.int ((p0 / (own_max (2 : Int32) (p1 &&& (2147483647 : Int32)))) + z3)), .val (.int r4)] [(.long (((own_max (2 : Int32) (p1 &&& (2147483647 : Int32)))).toInt64)), (.long ((r2).toInt64))])
          refine go (T' := T4) (f' := (mkF m 91 #[.val (.int p0), .val (.int p1), .val (.int (own_max (2 : Int32) (p1 &&& (2147483647 : Int32)))), .val (.int r2), .val (.long ((((own_max (2 : Int32) (p1 &&& (2147483647 : Int32)))).toInt64) * (((own_max (2 : Int32) (p1 &&& (2147483647 : Int32)))).toInt64))), .second, .val (.int ((p0 / (own_max (2 : Int32) (p1 &&& (2147483647 : Int32)))) + z3)), .val (.int r4)] [(.long (((r2).toInt64) * (((own_max (2 : Int32) (p1 &&& (2147483647 : Int32)))).toInt64)))])) (by intro t k; exact XS.lmul X4.here hx rfl (hb hby at_90) rfl k) ?_
          show Run _ _ _ _ _ _ _ T4 (mkF m 91 #[.val (.int p0), .val (.int p1), .val (.int (own_max (2 : Int32) (p1 &&& (2147483647 : Int32)))), .val (.int r2), .val (.long ((((own_max (2 : Int32) (p1 &&& (2147483647 : Int32)))).toInt64) * (((own_max (2 : Int32) (p1 &&& (2147483647 : Int32)))).toInt64))), .second, .val (.int ((p0 / (own_max (2 : Int32) (p1 &&& (2147483647 : Int32)))) + z3)), .val (.int r4)] [(.long (((r2).toInt64) * (((own_max (2 : Int32) (p1 &&& (2147483647 : Int32)))).toInt64)))])
          refine go (T' := T4) (f' := (mkF m 92 #[.val (.int p0), .val (.int p1), .val (.int (own_max (2 : Int32) (p1 &&& (2147483647 : Int32)))), .val (.int r2), .val (.long ((((own_max (2 : Int32) (p1 &&& (2147483647 : Int32)))).toInt64) * (((own_max (2 : Int32) (p1 &&& (2147483647 : Int32)))).toInt64))), .second, .val (.int ((p0 / (own_max (2 : Int32) (p1 &&& (2147483647 : Int32)))) + z3)), .val (.int r4)] [(.int p0), (.long (((r2).toInt64) * (((own_max (2 : Int32) (p1 &&& (2147483647 : Int32)))).toInt64)))])) (by intro t k; exact XS.iloadN X4.here hx rfl (hb hby at_91) rfl k) ?_
          show Run _ _ _ _ _ _ _ T4 (mkF m 92 #[.val (.int p0), .val (.int p1), .val (.int (own_max (2 : Int32) (p1 &&& (2147483647 : Int32)))), .val (.int r2), .val (.long ((((own_max (2 : Int32) (p1 &&& (2147483647 : Int32)))).toInt64) * (((own_max (2 : Int32) (p1 &&& (2147483647 : Int32)))).toInt64))), .second, .val (.int ((p0 / (own_max (2 : Int32) (p1 &&& (2147483647 : Int32)))) + z3)), .val (.int r4)] [(.int p0), (.long (((r2).toInt64) * (((own_max (2 : Int32) (p1 &&& (2147483647 : Int32)))).toInt64)))])
          refine go (T' := T4) (f' := (mkF m 93 #[.val (.int p0), .val (.int p1), .val (.int (own_max (2 : Int32) (p1 &&& (2147483647 : Int32)))), .val (.int r2), .val (.long ((((own_max (2 : Int32) (p1 &&& (2147483647 : Int32)))).toInt64) * (((own_max (2 : Int32) (p1 &&& (2147483647 : Int32)))).toInt64))), .second, .val (.int ((p0 / (own_max (2 : Int32) (p1 &&& (2147483647 : Int32)))) + z3)), .val (.int r4)] [(.long ((p0).toInt64)), (.long (((r2).toInt64) * (((own_max (2 : Int32) (p1 &&& (2147483647 : Int32)))).toInt64)))])) (by intro t k; exact XS.i2l X4.here hx rfl (hb hby at_92) rfl k) ?_
          show Run _ _ _ _ _ _ _ T4 (mkF m 93 #[.val (.int p0), .val (.int p1), .val (.int (own_max (2 : Int32) (p1 &&& (2147483647 : Int32)))), .val (.int r2), .val (.long ((((own_max (2 : Int32) (p1 &&& (2147483647 : Int32)))).toInt64) * (((own_max (2 : Int32) (p1 &&& (2147483647 : Int32)))).toInt64))), .second, .val (.int ((p0 / (own_max (2 : Int32) (p1 &&& (2147483647 : Int32)))) + z3)), .val (.int r4)] [(.long ((p0).toInt64)), (.long (((r2).toInt64) * (((own_max (2 : Int32) (p1 &&& (2147483647 : Int32)))).toInt64)))])
          refine go (T' := T4) (f' := (mkF m 94 #[.val (.int p0), .val (.int p1), .val (.int (own_max (2 : Int32) (p1 &&& (2147483647 : Int32)))), .val (.int r2), .val (.long ((((own_max (2 : Int32) (p1 &&& (2147483647 : Int32)))).toInt64) * (((own_max (2 : Int32) (p1 &&& (2147483647 : Int32)))).toInt64))), .second, .val (.int ((p0 / (own_max (2 : Int32) (p1 &&& (2147483647 : Int32)))) + z3)), .val (.int r4)] [(.int (lcmpW (((r2).toInt64) * (((own_max (2 : Int32) (p1 &&& (2147483647 : Int32)))).toInt64)) ((p0).toInt64)))])) (by intro t k; exact XS.lcmp X4.here hx rfl (hb hby at_93) rfl k) ?_
          show Run _ _ _ _ _ _ _ T4 (mkF m 94 #[.val (.int p0), .val (.int p1), .val (.int (own_max (2 : Int32) (p1 &&& (2147483647 : Int32)))), .val (.int r2), .val (.long ((((own_max (2 : Int32) (p1 &&& (2147483647 : Int32)))).toInt64) * (((own_max (2 : Int32) (p1 &&& (2147483647 : Int32)))).toInt64))), .second, .val (.int ((p0 / (own_max (2 : Int32) (p1 &&& (2147483647 : Int32)))) + z3)), .val (.int r4)] [(.int (lcmpW (((r2).toInt64) * (((own_max (2 : Int32) (p1 &&& (2147483647 : Int32)))).toInt64)) ((p0).toInt64)))])
          by_cases hc94 : (((r2).toInt64) * (((own_max (2 : Int32) (p1 &&& (2147483647 : Int32)))).toInt64)) < ((p0).toInt64)
          · refine go (T' := T4) (f' := (mkF m 101 #[.val (.int p0), .val (.int p1), .val (.int (own_max (2 : Int32) (p1 &&& (2147483647 : Int32)))), .val (.int r2), .val (.long ((((own_max (2 : Int32) (p1 &&& (2147483647 : Int32)))).toInt64) * (((own_max (2 : Int32) (p1 &&& (2147483647 : Int32)))).toInt64))), .second, .val (.int ((p0 / (own_max (2 : Int32) (p1 &&& (2147483647 : Int32)))) + z3)), .val (.int r4)] [])) (by intro t k; exact XS.ifYes X4.here hx rfl (pc0 := 94) (pc' := 101) rfl (hb hby at_94) rfl ((if0 _ _).trans (tlt ((lw_lt _ _).mpr hc94)).1) (by decide) (by decide) k) ?_
            show Run _ _ _ _ _ _ _ T4 (mkF m 101 #[.val (.int p0), .val (.int p1), .val (.int (own_max (2 : Int32) (p1 &&& (2147483647 : Int32)))), .val (.int r2), .val (.long ((((own_max (2 : Int32) (p1 &&& (2147483647 : Int32)))).toInt64) * (((own_max (2 : Int32) (p1 &&& (2147483647 : Int32)))).toInt64))), .second, .val (.int ((p0 / (own_max (2 : Int32) (p1 &&& (2147483647 : Int32)))) + z3)), .val (.int r4)] [])
            refine go (T' := T4) (f' := (mkF m 102 #[.val (.int p0), .val (.int p1), .val (.int (own_max (2 : Int32) (p1 &&& (2147483647 : Int32)))), .val (.int r2), .val (.long ((((own_max (2 : Int32) (p1 &&& (2147483647 : Int32)))).toInt64) * (((own_max (2 : Int32) (p1 &&& (2147483647 : Int32)))).toInt64))), .second, .val (.int ((p0 / (own_max (2 : Int32) (p1 &&& (2147483647 : Int32)))) + z3)), .val (.int r4)] [(.int (0 : Int32))])) (by intro t k; exact XS.iconst X4.here hx rfl (hb hby at_101) k) ?_
            have ez5 : z5 = (0 : Int32) := (((hz5).trans (if_pos hc75)).trans (if_pos hc83)).trans (if_pos hc94)
            subst ez5
            exact J75
          · refine go (T' := T4) (f' := (mkF m 97 #[.val (.int p0), .val (.int p1), .val (.int (own_max (2 : Int32) (p1 &&& (2147483647 : Int32)))), .val (.int r2), .val (.long ((((own_max (2 : Int32) (p1 &&& (2147483647 : Int32)))).toInt64) * (((own_max (2 : Int32) (p1 &&& (2147483647 : Int32)))).toInt64))), .second, .val (.int ((p0 / (own_max (2 : Int32) (p1 &&& (2147483647 : Int32)))) + z3)), .val (.int r4)] [])) (by intro t k; exact XS.ifNo X4.here hx rfl (hb hby at_94) rfl ((if0 _ _).trans (flt (fun q => hc94 ((lw_lt _ _).mp q))).1) k) ?_
            show Run _ _ _ _ _ _ _ T4 (mkF m 97 #[.val (.int p0), .val (.int p1), .val (.int (own_max (2 : Int32) (p1 &&& (2147483647 : Int32)))), .val (.int r2), .val (.long ((((own_max (2 : Int32) (p1 &&& (2147483647 : Int32)))).toInt64) * (((own_max (2 : Int32) (p1 &&& (2147483647 : Int32)))).toInt64))), .second, .val (.int ((p0 / (own_max (2 : Int32) (p1 &&& (2147483647 : Int32)))) + z3)), .val (.int r4)] [])
            refine go (T' := T4) (f' := (mkF m 98 #[.val (.int p0), .val (.int p1), .val (.int (own_max (2 : Int32) (p1 &&& (2147483647 : Int32)))), .val (.int r2), .val (.long ((((own_max (2 : Int32) (p1 &&& (2147483647 : Int32)))).toInt64) * (((own_max (2 : Int32) (p1 &&& (2147483647 : Int32)))).toInt64))), .second, .val (.int ((p0 / (own_max (2 : Int32) (p1 &&& (2147483647 : Int32)))) + z3)), .val (.int r4)] [(.int (1 : Int32))])) (by intro t k; exact XS.iconst X4.here hx rfl (hb hby at_97) k) ?_
            show Run _ _ _ _ _ _ _ T4 (mkF m 98 #[.val (.int p0), .val (.int p1), .val (.int (own_max (2 : Int32) (p1 &&& (2147483647 : Int32)))), .val (.int r2), .val (.long ((((own_max (2 : Int32) (p1 &&& (2147483647 : Int32)))).toInt64) * (((own_max (2 : Int32) (p1 &&& (2147483647 : Int32)))).toInt64))), .second, .val (.int ((p0 / (own_max (2 : Int32) (p1 &&& (2147483647 : Int32)))) + z3)), .val (.int r4)] [(.int (1 : Int32))])
            refine go (T' := T4) (f' := (mkF m 102 #[.val (.int p0), .val (.int p1), .val (.int (own_max (2 : Int32) (p1 &&& (2147483647 : Int32)))), .val (.int r2), .val (.long ((((own_max (2 : Int32) (p1 &&& (2147483647 : Int32)))).toInt64) * (((own_max (2 : Int32) (p1 &&& (2147483647 : Int32)))).toInt64))), .second, .val (.int ((p0 / (own_max (2 : Int32) (p1 &&& (2147483647 : Int32)))) + z3)), .val (.int r4)] [(.int (1 : Int32))])) (by intro t k; exact XS.goto X4.here hx rfl (pc0 := 98) (pc' := 102) rfl (hb hby at_98) (by decide) (by decide) k) ?_
            have ez5 : z5 = (1 : Int32) := (((hz5).trans (if_pos hc75)).trans (if_pos hc83)).trans (if_neg hc94)
            subst ez5
            exact J75
        · refine go (T' := T4) (f' := (mkF m 101 #[.val (.int p0), .val (.int p1), .val (.int (own_max (2 : Int32) (p1 &&& (2147483647 : Int32)))), .val (.int r2), .val (.long ((((own_max (2 : Int32) (p1 &&& (2147483647 : Int32)))).toInt64) * (((own_max (2 : Int32) (p1 &&& (2147483647 : Int32)))).toInt64))), .second, .val (.int ((p0 / (own_max (2 : Int32) (p1 &&& (2147483647 : Int32)))) + z3)), .val (.int r4)] [])) (by intro t k; exact XS.ifYes X4.here hx rfl (pc0 := 83) (pc' := 101) rfl (hb hby at_83) rfl ((if0 _ _).trans (flt (fun q => hc83 ((lw_lt _ _).mp q))).2.1) (by decide) (by decide) k) ?_
          show Run _ _ _ _ _ _ _ T4 (mkF m 101 #[.val (.int p0), .val (.int p1), .val (.int (own_max (2 : Int32) (p1 &&& (2147483647 : Int32)))), .val (.int r2), .val (.long ((((own_max (2 : Int32) (p1 &&& (2147483647 : Int32)))).toInt64) * (((own_max (2 : Int32) (p1 &&& (2147483647 : Int32)))).toInt64))), .second, .val (.int ((p0 / (own_max (2 : Int32) (p1 &&& (2147483647 : Int32)))) + z3)), .val (.int r4)] [])
          refine go (T' := T4) (f' := (mkF m 102 #[.val (.int p0), .val (.int p1), .val (.int (own_max (2 : Int32) (p1 &&& (2147483647 : Int32)))), .val (.int r2), .val (.long ((((own_max (2 : Int32) (p1 &&& (2147483647 : Int32)))).toInt64) * (((own_max (2 : Int32) (p1 &&& (2147483647 : Int32)))).toInt64))), .second, .val (.int ((p0 / (own_max (2 : Int32) (p1 &&& (2147483647 : Int32)))) + z3)), .val (.int r4)] [(.int (0 : Int32))])) (by intro t k; exact XS.iconst X4.here hx rfl (hb hby at_101) k) ?_
          have ez5 : z5 = (0 : Int32) := ((hz5).trans (if_pos hc75)).trans (if_neg hc83)
          subst ez5
          exact J75
      · refine go (T' := T4) (f' := (mkF m 101 #[.val (.int p0), .val (.int p1), .val (.int (own_max (2 : Int32) (p1 &&& (2147483647 : Int32)))), .val (.int r2), .val (.long ((((own_max (2 : Int32) (p1 &&& (2147483647 : Int32)))).toInt64) * (((own_max (2 : Int32) (p1 &&& (2147483647 : Int32)))).toInt64))), .second, .val (.int ((p0 / (own_max (2 : Int32) (p1 &&& (2147483647 : Int32)))) + z3)), .val (.int r4)] [])) (by intro t k; exact XS.ifYes X4.here hx rfl (pc0 := 75) (pc' := 101) rfl (hb hby at_75) rfl ((if0 _ _).trans (feq (fun q => hc75 ((lw_eq _ _).mp q))).2) (by decide) (by decide) k) ?_
        show Run _ _ _ _ _ _ _ T4 (mkF m 101 #[.val (.int p0), .val (.int p1), .val (.int (own_max (2 : Int32) (p1 &&& (2147483647 : Int32)))), .val (.int r2), .val (.long ((((own_max (2 : Int32) (p1 &&& (2147483647 : Int32)))).toInt64) * (((own_max (2 : Int32) (p1 &&& (2147483647 : Int32)))).toInt64))), .second, .val (.int ((p0 / (own_max (2 : Int32) (p1 &&& (2147483647 : Int32)))) + z3)), .val (.int r4)] [])
        refine go (T' := T4) (f' := (mkF m 102 #[.val (.int p0), .val (.int p1), .val (.int (own_max (2 : Int32) (p1 &&& (2147483647 : Int32)))), .val (.int r2), .val (.long ((((own_max (2 : Int32) (p1 &&& (2147483647 : Int32)))).toInt64) * (((own_max (2 : Int32) (p1 &&& (2147483647 : Int32)))).toInt64))), .second, .val (.int ((p0 / (own_max (2 : Int32) (p1 &&& (2147483647 : Int32)))) + z3)), .val (.int r4)] [(.int (0 : Int32))])) (by intro t k; exact XS.iconst X4.here hx rfl (hb hby at_101) k) ?_
        have ez5 : z5 = (0 : Int32) := (hz5).trans (if_neg hc75)
        subst ez5
        exact J75
    show Run _ _ _ _ _ _ _ T2 (mkF m 47 #[.val (.int p0), .val (.int p1), .val (.int (own_max (2 : Int32) (p1 &&& (2147483647 : Int32)))), .val (.int r2), .val (.long ((((own_max (2 : Int32) (p1 &&& (2147483647 : Int32)))).toInt64) * (((own_max (2 : Int32) (p1 &&& (2147483647 : Int32)))).toInt64))), .second, .unset, .unset] [(.int (p0 % (own_max (2 : Int32) (p1 &&& (2147483647 : Int32))))), (.int (p0 / (own_max (2 : Int32) (p1 &&& (2147483647 : Int32)))))])
    by_cases hc47 : (p0 % (own_max (2 : Int32) (p1 &&& (2147483647 : Int32)))) = (0 : Int32)
    · refine go (T' := T2) (f' := (mkF m 54 #[.val (.int p0), .val (.int p1), .val (.int (own_max (2 : Int32) (p1 &&& (2147483647 : Int32)))), .val (.int r2), .val (.long ((((own_max (2 : Int32) (p1 &&& (2147483647 : Int32)))).toInt64) * (((own_max (2 : Int32) (p1 &&& (2147483647 : Int32)))).toInt64))), .second, .unset, .unset] [(.int (p0 / (own_max (2 : Int32) (p1 &&& (2147483647 : Int32)))))])) (by intro t k; exact XS.ifYes X2.here hx rfl (pc0 := 47) (pc' := 54) rfl (hb hby at_47) rfl ((if0 _ _).trans (teq hc47).1) (by decide) (by decide) k) ?_
      show Run _ _ _ _ _ _ _ T2 (mkF m 54 #[.val (.int p0), .val (.int p1), .val (.int (own_max (2 : Int32) (p1 &&& (2147483647 : Int32)))), .val (.int r2), .val (.long ((((own_max (2 : Int32) (p1 &&& (2147483647 : Int32)))).toInt64) * (((own_max (2 : Int32) (p1 &&& (2147483647 : Int32)))).toInt64))), .second, .unset, .unset] [(.int (p0 / (own_max (2 : Int32) (p1 &&& (2147483647 : Int32)))))])
      refine go (T' := T2) (f' := (mkF m 55 #[.val (.int p0), .val (.int p1), .val (.int (own_max (2 : Int32) (p1 &&& (2147483647 : Int32)))), .val (.int r2), .val (.long ((((own_max (2 : Int32) (p1 &&& (2147483647 : Int32)))).toInt64) * (((own_max (2 : Int32) (p1 &&& (2147483647 : Int32)))).toInt64))), .second, .unset, .unset] [(.int (0 : Int32)), (.int (p0 / (own_max (2 : Int32) (p1 &&& (2147483647 : Int32)))))])) (by intro t k; exact XS.iconst X2.here hx rfl (hb hby at_54) k) ?_
      have ez3 : z3 = (0 : Int32) := (hz3).trans (if_pos hc47)
      subst ez3
      exact J47
    · refine go (T' := T2) (f' := (mkF m 50 #[.val (.int p0), .val (.int p1), .val (.int (own_max (2 : Int32) (p1 &&& (2147483647 : Int32)))), .val (.int r2), .val (.long ((((own_max (2 : Int32) (p1 &&& (2147483647 : Int32)))).toInt64) * (((own_max (2 : Int32) (p1 &&& (2147483647 : Int32)))).toInt64))), .second, .unset, .unset] [(.int (p0 / (own_max (2 : Int32) (p1 &&& (2147483647 : Int32)))))])) (by intro t k; exact XS.ifNo X2.here hx rfl (hb hby at_47) rfl ((if0 _ _).trans (feq hc47).1) k) ?_
      show Run _ _ _ _ _ _ _ T2 (mkF m 50 #[.val (.int p0), .val (.int p1), .val (.int (own_max (2 : Int32) (p1 &&& (2147483647 : Int32)))), .val (.int r2), .val (.long ((((own_max (2 : Int32) (p1 &&& (2147483647 : Int32)))).toInt64) * (((own_max (2 : Int32) (p1 &&& (2147483647 : Int32)))).toInt64))), .second, .unset, .unset] [(.int (p0 / (own_max (2 : Int32) (p1 &&& (2147483647 : Int32)))))])
      refine go (T' := T2) (f' := (mkF m 51 #[.val (.int p0), .val (.int p1), .val (.int (own_max (2 : Int32) (p1 &&& (2147483647 : Int32)))), .val (.int r2), .val (.long ((((own_max (2 : Int32) (p1 &&& (2147483647 : Int32)))).toInt64) * (((own_max (2 : Int32) (p1 &&& (2147483647 : Int32)))).toInt64))), .second, .unset, .unset] [(.int (1 : Int32)), (.int (p0 / (own_max (2 : Int32) (p1 &&& (2147483647 : Int32)))))])) (by intro t k; exact XS.iconst X2.here hx rfl (hb hby at_50) k) ?_
      show Run _ _ _ _ _ _ _ T2 (mkF m 51 #[.val (.int p0), .val (.int p1), .val (.int (own_max (2 : Int32) (p1 &&& (2147483647 : Int32)))), .val (.int r2), .val (.long ((((own_max (2 : Int32) (p1 &&& (2147483647 : Int32)))).toInt64) * (((own_max (2 : Int32) (p1 &&& (2147483647 : Int32)))).toInt64))), .second, .unset, .unset] [(.int (1 : Int32)), (.int (p0 / (own_max (2 : Int32) (p1 &&& (2147483647 : Int32)))))])
      refine go (T' := T2) (f' := (mkF m 55 #[.val (.int p0), .val (.int p1), .val (.int (own_max (2 : Int32) (p1 &&& (2147483647 : Int32)))), .val (.int r2), .val (.long ((((own_max (2 : Int32) (p1 &&& (2147483647 : Int32)))).toInt64) * (((own_max (2 : Int32) (p1 &&& (2147483647 : Int32)))).toInt64))), .second, .unset, .unset] [(.int (1 : Int32)), (.int (p0 / (own_max (2 : Int32) (p1 &&& (2147483647 : Int32)))))])) (by intro t k; exact XS.goto X2.here hx rfl (pc0 := 51) (pc' := 55) rfl (hb hby at_51) (by decide) (by decide) k) ?_
      have ez3 : z3 = (1 : Int32) := (hz3).trans (if_neg hc47)
      subst ez3
      exact J47
  · refine go (T' := T2) (f' := (mkF m 30 #[.val (.int p0), .val (.int p1), .val (.int (own_max (2 : Int32) (p1 &&& (2147483647 : Int32)))), .val (.int r2), .val (.long ((((own_max (2 : Int32) (p1 &&& (2147483647 : Int32)))).toInt64) * (((own_max (2 : Int32) (p1 &&& (2147483647 : Int32)))).toInt64))), .second, .unset, .unset] [])) (by intro t k; exact XS.ifNo X2.here hx rfl (hb hby at_27) rfl ((if0 _ _).trans (flt (fun q => hc27 ((lw_gt _ _).mp q))).2.2.1) k) ?_
    show Run _ _ _ _ _ _ _ T2 (mkF m 30 #[.val (.int p0), .val (.int p1), .val (.int (own_max (2 : Int32) (p1 &&& (2147483647 : Int32)))), .val (.int r2), .val (.long ((((own_max (2 : Int32) (p1 &&& (2147483647 : Int32)))).toInt64) * (((own_max (2 : Int32) (p1 &&& (2147483647 : Int32)))).toInt64))), .second, .unset, .unset] [])
    refine go (T' := T2) (f' := (mkF m 31 #[.val (.int p0), .val (.int p1), .val (.int (own_max (2 : Int32) (p1 &&& (2147483647 : Int32)))), .val (.int r2), .val (.long ((((own_max (2 : Int32) (p1 &&& (2147483647 : Int32)))).toInt64) * (((own_max (2 : Int32) (p1 &&& (2147483647 : Int32)))).toInt64))), .second, .unset, .unset] [(.int r2)])) (by intro t k; exact XS.iloadN X2.here hx rfl (hb hby at_30) rfl k) ?_
    show Run _ _ _ _ _ _ _ T2 (mkF m 31 #[.val (.int p0), .val (.int p1), .val (.int (own_max (2 : Int32) (p1 &&& (2147483647 : Int32)))), .val (.int r2), .val (.long ((((own_max (2 : Int32) (p1 &&& (2147483647 : Int32)))).toInt64) * (((own_max (2 : Int32) (p1 &&& (2147483647 : Int32)))).toInt64))), .second, .unset, .unset] [(.int r2)])
    refine go (T' := T2) (f' := (mkF m 32 #[.val (.int p0), .val (.int p1), .val (.int (own_max (2 : Int32) (p1 &&& (2147483647 : Int32)))), .val (.int r2), .val (.long ((((own_max (2 : Int32) (p1 &&& (2147483647 : Int32)))).toInt64) * (((own_max (2 : Int32) (p1 &&& (2147483647 : Int32)))).toInt64))), .second, .unset, .unset] [(.int (own_max (2 : Int32) (p1 &&& (2147483647 : Int32)))), (.int r2)])) (by intro t k; exact XS.iloadN X2.here hx rfl (hb hby at_31) rfl k) ?_
    show Run _ _ _ _ _ _ _ T2 (mkF m 32 #[.val (.int p0), .val (.int p1), .val (.int (own_max (2 : Int32) (p1 &&& (2147483647 : Int32)))), .val (.int r2), .val (.long ((((own_max (2 : Int32) (p1 &&& (2147483647 : Int32)))).toInt64) * (((own_max (2 : Int32) (p1 &&& (2147483647 : Int32)))).toInt64))), .second, .unset, .unset] [(.int (own_max (2 : Int32) (p1 &&& (2147483647 : Int32)))), (.int r2)])
    obtain ⟨z6, hz6⟩ : ∃ z : Int32, z = (if r2 = (own_max (2 : Int32) (p1 &&& (2147483647 : Int32))) then (1 : Int32) else (0 : Int32)) := ⟨_, rfl⟩
    have J32 : Run p e s below (Q0 Z p0 p1 h0 n0) room_1.cells room_1.slots T2 (mkF m 40 #[.val (.int p0), .val (.int p1), .val (.int (own_max (2 : Int32) (p1 &&& (2147483647 : Int32)))), .val (.int r2), .val (.long ((((own_max (2 : Int32) (p1 &&& (2147483647 : Int32)))).toInt64) * (((own_max (2 : Int32) (p1 &&& (2147483647 : Int32)))).toInt64))), .second, .unset, .unset] [(.int z6)]) := by
      show Run _ _ _ _ _ _ _ T2 (mkF m 40 #[.val (.int p0), .val (.int p1), .val (.int (own_max (2 : Int32) (p1 &&& (2147483647 : Int32)))), .val (.int r2), .val (.long ((((own_max (2 : Int32) (p1 &&& (2147483647 : Int32)))).toInt64) * (((own_max (2 : Int32) (p1 &&& (2147483647 : Int32)))).toInt64))), .second, .unset, .unset] [(.int z6)])
      refine retZ X2 hx (t := .boolean) Bd.returns (by simp) (hb hby at_40) hlk (by decide) (by decide) ?_
      show Q0 Z p0 p1 h0 n0 _ T2.heap _
      rw [e2]
      have hv' : (nar .boolean z6) = (1 : Int32) := by
        subst_vars
        refine (congrArg (nar .boolean) (if_pos ?_)).trans rfl
        exact own_way1 (own_m2 _) hR2 hc27
      have hv : (some (.int (nar .boolean z6)) : Option Value) = some (.int (1 : Int32)) := by rw [hv']
      exact ⟨hv, N2⟩
    show Run _ _ _ _ _ _ _ T2 (mkF m 32 #[.val (.int p0), .val (.int p1), .val (.int (own_max (2 : Int32) (p1 &&& (2147483647 : Int32)))), .val (.int r2), .val (.long ((((own_max (2 : Int32) (p1 &&& (2147483647 : Int32)))).toInt64) * (((own_max (2 : Int32) (p1 &&& (2147483647 : Int32)))).toInt64))), .second, .unset, .unset] [(.int (own_max (2 : Int32) (p1 &&& (2147483647 : Int32)))), (.int r2)])
    by_cases hc32 : r2 = (own_max (2 : Int32) (p1 &&& (2147483647 : Int32)))
    · refine go (T' := T2) (f' := (mkF m 35 #[.val (.int p0), .val (.int p1), .val (.int (own_max (2 : Int32) (p1 &&& (2147483647 : Int32)))), .val (.int r2), .val (.long ((((own_max (2 : Int32) (p1 &&& (2147483647 : Int32)))).toInt64) * (((own_max (2 : Int32) (p1 &&& (2147483647 : Int32)))).toInt64))), .second, .unset, .unset] [])) (by intro t k; exact XS.icmpNo X2.here hx rfl (hb hby at_32) rfl (teq hc32).2 k) ?_
      show Run _ _ _ _ _ _ _ T2 (mkF m 35 #[.val (.int p0), .val (.int p1), .val (.int (own_max (2 : Int32) (p1 &&& (2147483647 : Int32)))), .val (.int r2), .val (.long ((((own_max (2 : Int32) (p1 &&& (2147483647 : Int32)))).toInt64) * (((own_max (2 : Int32) (p1 &&& (2147483647 : Int32)))).toInt64))), .second, .unset, .unset] [])
      refine go (T' := T2) (f' := (mkF m 36 #[.val (.int p0), .val (.int p1), .val (.int (own_max (2 : Int32) (p1 &&& (2147483647 : Int32)))), .val (.int r2), .val (.long ((((own_max (2 : Int32) (p1 &&& (2147483647 : Int32)))).toInt64) * (((own_max (2 : Int32) (p1 &&& (2147483647 : Int32)))).toInt64))), .second, .unset, .unset] [(.int (1 : Int32))])) (by intro t k; exact XS.iconst X2.here hx rfl (hb hby at_35) k) ?_
      show Run _ _ _ _ _ _ _ T2 (mkF m 36 #[.val (.int p0), .val (.int p1), .val (.int (own_max (2 : Int32) (p1 &&& (2147483647 : Int32)))), .val (.int r2), .val (.long ((((own_max (2 : Int32) (p1 &&& (2147483647 : Int32)))).toInt64) * (((own_max (2 : Int32) (p1 &&& (2147483647 : Int32)))).toInt64))), .second, .unset, .unset] [(.int (1 : Int32))])
      refine go (T' := T2) (f' := (mkF m 40 #[.val (.int p0), .val (.int p1), .val (.int (own_max (2 : Int32) (p1 &&& (2147483647 : Int32)))), .val (.int r2), .val (.long ((((own_max (2 : Int32) (p1 &&& (2147483647 : Int32)))).toInt64) * (((own_max (2 : Int32) (p1 &&& (2147483647 : Int32)))).toInt64))), .second, .unset, .unset] [(.int (1 : Int32))])) (by intro t k; exact XS.goto X2.here hx rfl (pc0 := 36) (pc' := 40) rfl (hb hby at_36) (by decide) (by decide) k) ?_
      have ez6 : z6 = (1 : Int32) := (hz6).trans (if_pos hc32)
      subst ez6
      exact J32
    · refine go (T' := T2) (f' := (mkF m 39 #[.val (.int p0), .val (.int p1), .val (.int (own_max (2 : Int32) (p1 &&& (2147483647 : Int32)))), .val (.int r2), .val (.long ((((own_max (2 : Int32) (p1 &&& (2147483647 : Int32)))).toInt64) * (((own_max (2 : Int32) (p1 &&& (2147483647 : Int32)))).toInt64))), .second, .unset, .unset] [])) (by intro t k; exact XS.icmpYes X2.here hx rfl (pc0 := 32) (pc' := 39) rfl (hb hby at_32) rfl (feq hc32).2 (by decide) (by decide) k) ?_
      show Run _ _ _ _ _ _ _ T2 (mkF m 39 #[.val (.int p0), .val (.int p1), .val (.int (own_max (2 : Int32) (p1 &&& (2147483647 : Int32)))), .val (.int r2), .val (.long ((((own_max (2 : Int32) (p1 &&& (2147483647 : Int32)))).toInt64) * (((own_max (2 : Int32) (p1 &&& (2147483647 : Int32)))).toInt64))), .second, .unset, .unset] [])
      refine go (T' := T2) (f' := (mkF m 40 #[.val (.int p0), .val (.int p1), .val (.int (own_max (2 : Int32) (p1 &&& (2147483647 : Int32)))), .val (.int r2), .val (.long ((((own_max (2 : Int32) (p1 &&& (2147483647 : Int32)))).toInt64) * (((own_max (2 : Int32) (p1 &&& (2147483647 : Int32)))).toInt64))), .second, .unset, .unset] [(.int (0 : Int32))])) (by intro t k; exact XS.iconst X2.here hx rfl (hb hby at_39) k) ?_
      have ez6 : z6 = (0 : Int32) := (hz6).trans (if_neg hc32)
      subst ez6
      exact J32
set_option maxRecDepth 65536 in
set_option maxHeartbeats 40000000 in
theorem comes_1 {Post : Tables → Env → Array Value → State → Outcome → State → Prop} (hpost : ∀ tb e args s v u, (limb_1_1.after args s (.returned v) u = true ∧ limb_1_2.after args s (.returned v) u = true ∧ True) → FrameEnd s (.returned v) u (Jvm.fieldLocs frame_1_writes args s ++ Jvm.arrayLocs frame_1_arrays args s ++ Jvm.staticLocs frame_1_statics s) 0 0 → Post tb e args s (.returned v) u) :
    ArmFor flags0 classFile x code maxLocals ret World_1 tables_1 room_1 Calls_1 rest_1 Pre_1 Post := by
  intro l hfl _ _ p e ha hc hk s m args below hf hA hF happ hP
  obtain ⟨hcalls, hrest, hpre⟩ := hP
  obtain ⟨-, -, -, hnamed, -, -, -, hat⟩ := (Spec.applies_iff hf).mp happ
  obtain ⟨hg, hn⟩ := and_e (Cond.before_iff.mp (show (Jvm.Cond.and given_1 narrow_1).before args s = true from hpre))
  obtain ⟨g1, g2⟩ := and_e hg
  obtain ⟨g3, g4⟩ := and_e g2
  obtain ⟨w0, w1, rfl⟩ : ∃ w0 w1 : Value, args = #[w0, w1] := by
    have hs : args.size = 2 := by simpa [Cond.value, given_1] using g1
    obtain ⟨L⟩ := args
    match L, hs with
    | [w0, w1], _ => exact ⟨w0, w1, rfl⟩
  have hw := fun d (hd : d ∈ tables_1) => atoms_spec (ws := Jvm.Cond.code x code maxLocals ret :: tables_1) hat d (List.mem_cons_of_mem _ hd)
  have hfit : Fit s := fun {y c} hc i hi => by
    obtain ⟨ha, rfl⟩ := Array.getElem?_eq_some_iff.mp hc
    have q := List.all_eq_true.mp ((Array.all_eq_true_iff_forall_mem.mp hF) _ (Array.getElem_mem ha)) i (List.mem_range.mpr hi)
    simpa [Array.getElem?_eq_getElem hi] using q
  obtain ⟨i0, ei0⟩ := is_v g3
  obtain rfl : w0 = (.int i0) := Option.some.inj ei0
  obtain ⟨i1, ei1⟩ := is_v g4
  obtain rfl : w1 = (.int i1) := Option.some.inj ei1
  obtain ⟨n, o, h1, h2, h3, _, L, rfl, ⟨rfl, N⟩, hq⟩ := rm0 l s _ hw tables_1 i0 i1 s.heap s.heap.size (Nat.le_refl _) p e ha hc hk s m _ below hf ((Spec.applies_iff_loose hf).mp happ).1 ⟨rfl, State.Warmed39.refl s, rfl⟩ trivial
  refine ⟨n, _, h1, h2, h3, hpost _ _ _ _ _ _ ⟨Cond.after_iff.mpr rfl, Cond.after_iff.mpr (eq_i res_at (Term.int_eval (1)) rfl), trivial⟩ ⟨hq.1, hq.2.1, (hq.2.2.sift fun y hy => Or.inr (N y hy)).mono (by decide) (by decide)⟩⟩
theorem main_1_1 : Claimed_1_1 := comes_1 fun _ _ _ _ _ _ h hF => ⟨h.1, hF⟩
theorem main_1_2 : Claimed_1_2 := comes_1 fun _ _ _ _ _ _ h hF => ⟨h.2.1, hF⟩
end Jvm.Pilot.@@N@@
namespace Jvm.Pilot.@@N@@
open Jvm Jvm.ClassFile Sem Op Lib Jvm.Free Jvm.Stand Jvm.Pilot.@@N@@.Jvm.D
/-! MADE BY PROGRAM (witnessworld.py) out of the Statement's table words and the real class files: 10 classes; the members and pool entries that the words name. The judged class is class 1, her method 1. -/
namespace start1
open Jvm.ClassFile
def u (s : String) : CpInfo := .utf8 (stringToUtf16 s)
/-- a pool by its gaps: so many unusable entries, then the entry; so many at the end -/
def gap : Nat → List CpInfo → List CpInfo
  | 0, r => r
  | n + 1, r => .unusable :: gap n r
def poolList (es : List (Nat × CpInfo)) (last : Nat) : List CpInfo := es.foldr (fun e r => gap e.1 (e.2 :: r)) (gap last [])
def pool (es : List (Nat × CpInfo)) (last : Nat) : Array CpInfo := ⟨poolList es last⟩
def fileOf (pool : Array CpInfo) (this : Nat) (attrs : Array Attribute := #[]) (ms : Array MethodInfo := #[]) (fl : Nat := 33) (sup : Nat := 0) (ifs : Array Nat := #[]) (fds : Array FieldInfo := #[]) : ClassFile where
  minorVersion := 0
  majorVersion := 65
  constantPool := pool
  accessFlags := fl
  thisClass := this
  superClass := sup
  interfaces := ifs
  fields := fds
  methods := ms
  attributes := attrs
def plain (name : String) (sup : Option ClassId) : Class where
  name := name
  kind := .ordinary
  loader := none
  accessFlags := 33
  super := sup
  interfaces := #[]
  cf := none
  fields := #[]
  methods := #[]
  instanceTypes := #[]
  staticTypes := #[]
  resolved := #[]
  callSites := []
  init := .initialized
  statics := none
  mirror := none

def pool0 : Array CpInfo := pool [(5, u "<init>"), (0, u "()V"), (1, .class_ 10), (1, u "java/lang/Object")] 113

def k0m0 : Method := { name := "<init>", desc := "()V", sig := { parameters := [], returnType := none }, accessFlags := 1, code := none }
/-- java/lang/Object -/
def k0 : Class := { plain "java/lang/Object" none with
  accessFlags := 33
  interfaces := #[]
  cf := some (fileOf pool0 8 #[] #[{ accessFlags := 1, nameIndex := 5, descriptorIndex := 6, attributes := #[] }] 33 0 #[] #[])
  fields := #[]
  methods := #[k0m0]
  instanceTypes := #[]
  staticTypes := #[]
  resolved := Array.replicate 124 none
  statics := none }

def pool1 : Array CpInfo := pool [(2, .class_ 4), (1, u "java/lang/Object"), (0, u "<init>"), (0, u "()V"), (0, .integer 2147483647), (0, .methodref 9 10), (0, .class_ 11), (0, .nameAndType 12 13), (0, u "java/lang/Math"), (0, u "max"), (0, u "(II)I"), (0, .methodref 15 16), (0, .class_ 17), (0, .nameAndType 18 13), (0, u "com/example/backchain/backchain/io/SqlWriter"), (0, u "groupSize"), (0, .class_ 20), (0, u "com/example/backchain/backchain/io/SqlWriterGroupSizePinLaw"), (2, u "law"), (0, u "(II)Z")] 3

def k1m0 : Method := { name := "<init>", desc := "()V", sig := { parameters := [], returnType := none }, accessFlags := 1, code := none }
def k1c1 : Code := { maxStack := 6, maxLocals := 8, code := code, exceptionTable := #[], attributes := #[] }
def k1m1 : Method := { name := "law", desc := "(II)Z", sig := { parameters := [.int, .int], returnType := some .boolean }, accessFlags := 9, code := some k1c1 }
/-- com/example/backchain/backchain/io/SqlWriterGroupSizePinLaw -/
def k1 : Class := { plain "com/example/backchain/backchain/io/SqlWriterGroupSizePinLaw" (some 0) with
  accessFlags := 49
  interfaces := #[]
  cf := some (fileOf pool1 19 #[] #[{ accessFlags := 1, nameIndex := 5, descriptorIndex := 6, attributes := #[] }, { accessFlags := 9, nameIndex := 23, descriptorIndex := 24, attributes := #[] }] 49 2 #[] #[])
  fields := #[]
  methods := #[k1m0, k1m1]
  instanceTypes := #[]
  staticTypes := #[]
  resolved := Array.replicate 28 none
  statics := none }

def pool2 : Array CpInfo := pool [(1, .class_ 2), (0, u "java/lang/Math"), (1, .class_ 6), (1, u "java/lang/Object"), (0, u "<init>"), (0, u "()V"), (89, .class_ 100), (1, u "java/lang/Math$RandomNumberGeneratorHolder"), (71, u "negativeZeroFloatBits"), (0, u "J"), (2, u "negativeZeroDoubleBits"), (21, u "max"), (46, u "$assertionsDisabled"), (0, u "Z"), (88, u "(II)I"), (2, u "twoToTheDoubleScaleDown"), (0, u "D"), (4, u "twoToTheDoubleScaleUp"), (9, u "E"), (3, u "PI"), (2, u "TAU"), (2, u "DEGREES_TO_RADIANS"), (0, u "RADIANS_TO_DEGREES")] 94

def k2m0 : Method := { name := "<init>", desc := "()V", sig := { parameters := [], returnType := none }, accessFlags := 2, code := none }
def k2c1 : Code := { maxStack := 2, maxLocals := 2, code := jdk_29_method_65_code, exceptionTable := #[], attributes := #[] }
def k2m1 : Method := { name := "max", desc := "(II)I", sig := { parameters := [.int, .int], returnType := some .int }, accessFlags := 9, code := some k2c1 }
/-- java/lang/Math -/
def k2 : Class := { plain "java/lang/Math" (some 0) with
  accessFlags := 49
  interfaces := #[]
  cf := some (fileOf pool2 1 #[.nestMembers #[98]] #[{ accessFlags := 2, nameIndex := 7, descriptorIndex := 8, attributes := #[] }, { accessFlags := 9, nameIndex := 198, descriptorIndex := 335, attributes := #[] }] 49 4 #[] #[{ accessFlags := 25, nameIndex := 354, descriptorIndex := 339, attributes := #[] }, { accessFlags := 25, nameIndex := 358, descriptorIndex := 339, attributes := #[] }, { accessFlags := 25, nameIndex := 361, descriptorIndex := 339, attributes := #[] }, { accessFlags := 26, nameIndex := 364, descriptorIndex := 339, attributes := #[] }, { accessFlags := 26, nameIndex := 365, descriptorIndex := 339, attributes := #[] }, { accessFlags := 26, nameIndex := 172, descriptorIndex := 173, attributes := #[] }, { accessFlags := 26, nameIndex := 176, descriptorIndex := 173, attributes := #[] }, { accessFlags := 8, nameIndex := 344, descriptorIndex := 339, attributes := #[] }, { accessFlags := 8, nameIndex := 338, descriptorIndex := 339, attributes := #[] }, { accessFlags := 4120, nameIndex := 245, descriptorIndex := 246, attributes := #[] }])
  fields := #[{ name := "E", type := .double, accessFlags := 25, slot := 0, constantValue := 0 }, { name := "PI", type := .double, accessFlags := 25, slot := 1, constantValue := 0 }, { name := "TAU", type := .double, accessFlags := 25, slot := 2, constantValue := 0 }, { name := "DEGREES_TO_RADIANS", type := .double, accessFlags := 26, slot := 3, constantValue := 0 }, { name := "RADIANS_TO_DEGREES", type := .double, accessFlags := 26, slot := 4, constantValue := 0 }, { name := "negativeZeroFloatBits", type := .long, accessFlags := 26, slot := 5, constantValue := 0 }, { name := "negativeZeroDoubleBits", type := .long, accessFlags := 26, slot := 6, constantValue := 0 }, { name := "twoToTheDoubleScaleUp", type := .double, accessFlags := 8, slot := 7, constantValue := 0 }, { name := "twoToTheDoubleScaleDown", type := .double, accessFlags := 8, slot := 8, constantValue := 0 }, { name := "$assertionsDisabled", type := .boolean, accessFlags := 4120, slot := 9, constantValue := 0 }]
  methods := #[k2m0, k2m1]
  instanceTypes := #[]
  staticTypes := #[.double, .double, .double, .double, .double, .long, .long, .double, .double, .boolean]
  resolved := Array.replicate 460 none
  statics := none }

def pool3 : Array CpInfo := pool [(2, .class_ 4), (1, u "java/lang/Object"), (6, .class_ 13), (1, u "com/example/backchain/backchain/io/SqlWriter"), (0, u "tables"), (0, u "Ljava/util/Map;"), (2, u "out"), (0, u "Ljava/lang/Appendable;"), (2, u "base"), (0, u "Lcom/example/backchain/backchain/model/KnowledgeBase;"), (208, .class_ 233), (0, u "com/example/backchain/backchain/io/SqlWriter$Source"), (41, u "Ljava/lang/String;"), (43, u "groupSize"), (0, u "(II)I"), (94, u "KEYWORDS"), (0, u "Ljava/util/Set;"), (87, u "MAX_COMPOUND"), (0, u "I"), (2, u "MAX_JOIN"), (1, u "UNKNOWN"), (0, u "RESERVED")] 192

def k3c0 : Code := { maxStack := 4, maxLocals := 4, code := prog_17_method_8_code, exceptionTable := #[], attributes := #[] }
def k3m0 : Method := { name := "groupSize", desc := "(II)I", sig := { parameters := [.int, .int], returnType := some .int }, accessFlags := 8, code := some k3c0 }
/-- com/example/backchain/backchain/io/SqlWriter -/
def k3 : Class := { plain "com/example/backchain/backchain/io/SqlWriter" (some 0) with
  accessFlags := 33
  interfaces := #[]
  cf := some (fileOf pool3 11 #[.nestMembers #[232]] #[{ accessFlags := 8, nameIndex := 319, descriptorIndex := 320, attributes := #[] }] 33 2 #[] #[{ accessFlags := 26, nameIndex := 504, descriptorIndex := 505, attributes := #[] }, { accessFlags := 26, nameIndex := 508, descriptorIndex := 505, attributes := #[] }, { accessFlags := 26, nameIndex := 510, descriptorIndex := 275, attributes := #[] }, { accessFlags := 26, nameIndex := 511, descriptorIndex := 275, attributes := #[] }, { accessFlags := 26, nameIndex := 415, descriptorIndex := 416, attributes := #[] }, { accessFlags := 18, nameIndex := 18, descriptorIndex := 19, attributes := #[] }, { accessFlags := 18, nameIndex := 22, descriptorIndex := 23, attributes := #[] }, { accessFlags := 18, nameIndex := 14, descriptorIndex := 15, attributes := #[] }])
  fields := #[{ name := "MAX_COMPOUND", type := .int, accessFlags := 26, slot := 0, constantValue := 0 }, { name := "MAX_JOIN", type := .int, accessFlags := 26, slot := 1, constantValue := 0 }, { name := "UNKNOWN", type := (.object "java/lang/String"), accessFlags := 26, slot := 2, constantValue := 0 }, { name := "RESERVED", type := (.object "java/lang/String"), accessFlags := 26, slot := 3, constantValue := 0 }, { name := "KEYWORDS", type := (.object "java/util/Set"), accessFlags := 26, slot := 4, constantValue := 0 }, { name := "out", type := (.object "java/lang/Appendable"), accessFlags := 18, slot := 0, constantValue := 0 }, { name := "base", type := (.object "com/example/backchain/backchain/model/KnowledgeBase"), accessFlags := 18, slot := 1, constantValue := 0 }, { name := "tables", type := (.object "java/util/Map"), accessFlags := 18, slot := 2, constantValue := 0 }]
  methods := #[k3m0]
  instanceTypes := #[(.object "java/lang/Appendable"), (.object "com/example/backchain/backchain/model/KnowledgeBase"), (.object "java/util/Map")]
  staticTypes := #[.int, .int, (.object "java/lang/String"), (.object "java/lang/String"), (.object "java/util/Set")]
  resolved := Array.replicate 704 none
  statics := none }

def pool4 : Array CpInfo := pool [(1, u "java/lang/Cloneable"), (0, .class_ 1), (0, u "java/lang/Object"), (0, .class_ 3)] 3

/-- java/lang/Cloneable -/
def k4 : Class := { plain "java/lang/Cloneable" (some 0) with
  accessFlags := 1537
  interfaces := #[]
  cf := some (fileOf pool4 2 #[] #[] 1537 4 #[] #[])
  fields := #[]
  methods := #[]
  instanceTypes := #[]
  staticTypes := #[]
  resolved := Array.replicate 8 none
  statics := none }

def pool5 : Array CpInfo := pool [(1, u "java/io/Serializable"), (0, .class_ 1), (0, u "java/lang/Object"), (0, .class_ 3)] 3

/-- java/io/Serializable -/
def k5 : Class := { plain "java/io/Serializable" (some 0) with
  accessFlags := 1537
  interfaces := #[]
  cf := some (fileOf pool5 2 #[] #[] 1537 4 #[] #[])
  fields := #[]
  methods := #[]
  instanceTypes := #[]
  staticTypes := #[]
  resolved := Array.replicate 8 none
  statics := none }

/-- the primitive byte -/
def k6 : Class := { plain "byte" none with kind := .primitive 'B', accessFlags := 0x411 }
/-- [B -/
def k7 : Class := { plain "[B" (some 0) with kind := .array 6 .byte, interfaces := #[4, 5], accessFlags := 1041 }

/-- the primitive int -/
def k8 : Class := { plain "int" none with kind := .primitive 'I', accessFlags := 0x411 }
/-- [I -/
def k9 : Class := { plain "[I" (some 0) with kind := .array 8 .int, interfaces := #[4, 5], accessFlags := 1041 }

def heap : Heap := #[]
def classes : Array Class := #[k0, k1, k2, k3, k4, k5, k6, k7, k8, k9]
def interned : List (Array UInt16 × Addr) := []
def slotsUsed : Nat := 0
def theMethod : MethodId := ⟨1, 1⟩
def args0 : Array Value := #[.int 50, .int 3]
def aboutOver (below : List Frame) : State where
  vm := { classes := classes, interned := interned.toArray }
  heap := heap
  slotsUsed := slotsUsed
  threads := #[{ frames := .invoking theMethod args0 :: below }]
def below0 : List Frame := [.native { method := ⟨0, 0⟩, args := #[] }]
def about1 : State := aboutOver below0
def p0 : Program := .bare "" "" ""
def e0 : Env := launch0.env 0 0 0
theorem w_frames : about1.frames = Frame.invoking theMethod args0 :: below0 := rfl
set_option maxRecDepth 65536 in
theorem w_args : argsFit about1.vm theMethod args0 = true := by decide +kernel
set_option maxRecDepth 65536 in
theorem w_heap : heapFits about1 = true := by decide +kernel
set_option maxRecDepth 65536 in
theorem w_runnable : about1.curStatus? = some .runnable := by decide +kernel
set_option maxRecDepth 65536 in
theorem w_alone : about1.alone = true := by decide +kernel
set_option maxRecDepth 65536 in
theorem w_named : about1.methodNamed? x = some theMethod := by decide +kernel
set_option maxRecDepth 65536 in
theorem w_hears : about1.hears theMethod below0 = true := by decide +kernel
set_option maxRecDepth 65536 in
theorem w_ripe : about1.ripe theMethod args0 below0 = true := by decide +kernel
theorem w_running : about1.status = .running := rfl
set_option maxRecDepth 65536 in
theorem w_room : about1.hasRoom e0.platform room_1 = true :=
  launch0.hasRoom_least _ room_1 (by decide +kernel) (by decide +kernel) (by decide +kernel) (by decide +kernel) (by decide +kernel) (by decide +kernel)
theorem allAtoms_all (ts : List Jvm.Cond) (a : Array Jvm.Value) (st : Jvm.State) : (allAtoms ts).before a st = ts.all (fun c => c.before a st) := by
  induction ts with
  | nil => rfl
  | cons c t ih =>
    show (Jvm.Cond.and c (allAtoms t)).before a st = _
    rw [Jvm.Cond.before_and, ih, List.all_cons]
def words1 : List Jvm.Cond := Jvm.Cond.code x code maxLocals ret :: tables_1
/-- a 'code' word, met by the world's own term for the bytes: nothing is compared byte by byte -/
theorem code_word {y : MethodName} {bytes : ByteArray} {mx : Nat} {rt : Option FieldType} {a : Array Value} {s : State} {m : MethodId} {meth : Method} {c : Code} (h1 : s.methodNamed? y = some m) (h2 : s.vm.method? m = some meth) (h3 : meth.code = some c) (h4 : c.code = bytes)
    (h5 : (c.maxLocals == mx && c.exceptionTable.isEmpty && decide (c.maxStack ≤ mostOperands) && decide (meth.sig.returnType = rt) && !meth.locks && decide (parseMethodDescriptor y.desc = some meth.sig)) = true) : (Jvm.Cond.code y bytes mx rt).before a s = true := by
  simp only [Bool.and_eq_true, beq_iff_eq, Bool.not_eq_true', decide_eq_true_eq] at h5
  obtain ⟨⟨⟨⟨⟨g1, g2⟩, g3⟩, g4⟩, g5⟩, g6⟩ := h5
  simp [Cond.before, Cond.holds, Cond.value, h1, h2, h3, h4, g1, g2, g3, g4, g5, g6]
def isCode : Jvm.Cond → Bool
  | .code _ _ _ _ => true
  | _ => false
theorem all_split {L : List Jvm.Cond} {P : Jvm.Cond → Bool} (h1 : L.all (fun c => isCode c || P c) = true) (h2 : ∀ c ∈ L.filter isCode, P c = true) : L.all P = true := by
  refine List.all_eq_true.mpr fun c hc => ?_
  have h := List.all_eq_true.mp h1 c hc
  rcases Bool.eq_false_or_eq_true (isCode c) with hi | hi
  · exact h2 c (List.mem_filter.mpr ⟨hc, hi⟩)
  · simpa [hi] using h
set_option maxRecDepth 65536 in
theorem w_c0 : (Jvm.Cond.code x code maxLocals ret).before args0 about1 = true := code_word (m := ⟨1, 1⟩) (meth := k1m1) (c := k1c1) (by decide +kernel) rfl rfl rfl (by decide +kernel)
set_option maxRecDepth 65536 in
theorem w_c1 : (Jvm.Cond.code ({ cls := "java/lang/Math", name := "max", desc := "(II)I" } : Jvm.MethodName) jdk_29_method_65_code (2 : Nat) (Option.some Jvm.ClassFile.FieldType.int)).before args0 about1 = true := code_word (m := ⟨2, 1⟩) (meth := k2m1) (c := k2c1) (by decide +kernel) rfl rfl rfl (by decide +kernel)
set_option maxRecDepth 65536 in
theorem w_c2 : (Jvm.Cond.code ({ cls := "com/example/backchain/backchain/io/SqlWriter", name := "groupSize", desc := "(II)I" } : Jvm.MethodName) prog_17_method_8_code (4 : Nat) (Option.some Jvm.ClassFile.FieldType.int)).before args0 about1 = true := code_word (m := ⟨3, 0⟩) (meth := k3m0) (c := k3c0) (by decide +kernel) rfl rfl rfl (by decide +kernel)
def codes1 : List Jvm.Cond := [Jvm.Cond.code x code maxLocals ret, Jvm.Cond.code ({ cls := "java/lang/Math", name := "max", desc := "(II)I" } : Jvm.MethodName) jdk_29_method_65_code (2 : Nat) (Option.some Jvm.ClassFile.FieldType.int), Jvm.Cond.code ({ cls := "com/example/backchain/backchain/io/SqlWriter", name := "groupSize", desc := "(II)I" } : Jvm.MethodName) prog_17_method_8_code (4 : Nat) (Option.some Jvm.ClassFile.FieldType.int)]
set_option maxRecDepth 65536 in
theorem codes_eq : words1.filter isCode = codes1 := rfl
theorem w_codes : ∀ c ∈ words1.filter isCode, c.before args0 about1 = true := by
  rw [codes_eq]
  intro c hc
  simp only [codes1, List.mem_cons, List.not_mem_nil, or_false] at hc
  rcases hc with rfl | rfl | rfl
  · exact w_c0
  · exact w_c1
  · exact w_c2
set_option maxRecDepth 65536 in
theorem w_t1 : words1.all (fun c => isCode c || c.before args0 about1) = true := by decide +kernel
theorem w_tables : (allAtoms (Jvm.Cond.code x code maxLocals ret :: tables_1)).before args0 about1 = true := by
  rw [allAtoms_all]
  show words1.all (fun c => c.before args0 about1) = true
  refine all_split ?_ w_codes
  rw [w_t1]
set_option maxRecDepth 65536 in
theorem w_case : (Jvm.Cond.and given_1 narrow_1).before args0 about1 = true := by decide +kernel
theorem w_applies : (headSpec (Jvm.Cond.code x code maxLocals ret :: tables_1) room_1).applies x e0.platform about1 = true :=
  (Spec.applies_iff w_frames).mpr ⟨w_running, w_runnable, w_alone, w_named, w_hears, w_ripe, w_room, w_tables⟩
theorem atStart : AtStart classFile x code maxLocals ret World_1 tables_1 room_1 Calls_1 rest_1 Pre_1 launch0 p0 e0 about1 theMethod args0 below0 :=
  ⟨lists_1, trivial, launch0.admits_env _ _ _, launch0.least_env, fairChoices_fair.cas, fairChoices_fair.clock, w_frames, w_args, w_heap, w_applies, trivial, trivial, w_case⟩
end start1
theorem witness_1 : WitnessClaimed_1 := ⟨start1.p0, start1.e0, start1.about1, start1.theMethod, start1.args0, start1.below0, start1.atStart⟩
end Jvm.Pilot.@@N@@
