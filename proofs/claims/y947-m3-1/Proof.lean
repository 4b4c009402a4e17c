import JvmDerived
import JvmDerived.Pilot.@@N@@Statement
import JvmDerived.Pilot.@@N@@Code
set_option linter.unusedVariables false
set_option linter.unusedSimpArgs false
namespace Jvm.OwnKit
open Sem ClassFile Op Lib Jvm.Stand Jvm.Free Jvm.LawKit Jvm.RoadKit
/-- from S the run comes to a state of which P holds -/
def Go (tb : Tables) (e : Env) (below : List Frame) (P : State → Prop) (S : State) : Prop := ∃ t, Steps tb e below S t ∧ P t
theorem Go.st {tb : Tables} {e : Env} {below : List Frame} {P : State → Prop} {S S' : State} (h : ∀ t, Steps tb e below S' t → Steps tb e below S t) (g : Go tb e below P S') : Go tb e below P S := by
  obtain ⟨t, h1, h2⟩ := g
  exact ⟨t, h t h1, h2⟩
theorem Go.cast {tb : Tables} {e : Env} {below : List Frame} {P : State → Prop} {T : State} {g g' : JFrame} (q : g = g') (k : Go tb e below P (T.setTop g')) : Go tb e below P (T.setTop g) := q ▸ k
/-- the invocation of s has returned, and Q says what -/
def Fine (s : State) (below : List Frame) (Q : Option Value → Heap → List Loc → Prop) (kc ks : Nat) (t : State) : Prop := ∃ o, t.status = .running ∧ Ended t below o ∧ ∃ v L, o = .returned v ∧ Q v t.heap L ∧ FrameEnd s o t L kc ks
/-- a method's contract, over the tables of the start Z: called with 'as' at the heap h0 it returns, and Q says what -/
def Con (l : Launch) (Z : State) (y : MethodName) (bytes : ByteArray) (maxL : Nat) (ret : Option FieldType) (ws : List Jvm.Cond) (rm : Room) (as : Array Value) (h0 : Heap) (Q : Option Value → Heap → List Loc → Prop) : Prop :=
  MetFree l y (head1 (Jvm.Cond.code y bytes maxL ret :: ws) rm) (fun a U => a = as ∧ Z.Warmed39 U.vm ∧ U.heap = h0) (fun _ _ _ _ _ => True) (fun _ U o U' => ∃ v L, o = .returned v ∧ Q v U'.heap L ∧ FrameEnd U o U' L rm.cells rm.slots)
theorem Con.of {l : Launch} {Z : State} {y : MethodName} {bytes : ByteArray} {maxL : Nat} {ret : Option FieldType} {ws : List Jvm.Cond} {rm : Room} {as : Array Value} {h0 : Heap} {Q : Option Value → Heap → List Loc → Prop} (hpl : plainFor y = true)
    (body : ∀ (p : Program) (e : Env) (s : State) (m : MethodId) (below : List Frame) (meth : Method) (c : Code) (s₁ : State), Z.Warmed39 s.vm → s₁.heap = h0 → Stand p l e rm s m as below meth c s₁ [] 0 0 → p.tables.exec = Jvm.exec → c.code = bytes → c.maxLocals = maxL → s.vm.findClass y.cls = some m.cls → meth.name = y.name → meth.sig.returnType = ret → meth.locks = false →
      Go p.tables e below (Fine s below Q rm.cells rm.slots) (s₁.setTop (entryFrame m as maxL))) : Con l Z y bytes maxL ret ws rm as h0 Q := by
  refine MetFree.of_bodySF hpl hisR ?_
  intro p e s m args below meth c s₁ Bd hml hP hK
  obtain ⟨rfl, hZ, hh⟩ := hP
  have e0 : s₁.heap = h0 := by rw [← hh, Bd.state]; rfl
  obtain ⟨t, h1, o, h2, h3, h4⟩ := body p e s m below meth c s₁ hZ e0 (Stand.of_body Bd) Bd.exec Bd.bytes hml (findClass_of_methodNamed Bd.named) (name_of_methodNamed Bd.named Bd.method).1 Bd.returns Bd.notSynchronized
  exact ⟨t, o, h1, h2, h3, h4⟩
def bi (P : Prop) [Decidable P] : Int32 := if P then 1 else 0
theorem bi_t {P : Prop} [Decidable P] (h : P) : bi P = 1 := if_pos h
theorem bi_f {P : Prop} [Decidable P] (h : ¬ P) : bi P = 0 := if_neg h
theorem eqL_v {args : Array Value} {first s : State} {o : Option Outcome} {idx : List Nat} {t : Term} {k : Int64} (h : (Cond.eq t (.long k)).value args first o s idx = some true) : t.eval args first o idx s = some (.long k) := by
  obtain ⟨x, y, ev, ey, -, hk⟩ := cmp_v (Or.inl h)
  obtain rfl : Value.long k = y := Option.some.inj ey
  obtain ⟨z, rfl⟩ := hk
  obtain rfl : z = k := gotT (eq_L ev ey) h
  exact ev
theorem eqI_v {args : Array Value} {first s : State} {o : Option Outcome} {idx : List Nat} {t : Term} {k : Int32} (h : (Cond.eq t (.int k)).value args first o s idx = some true) : t.eval args first o idx s = some (.int k) := by
  obtain ⟨x, y, ev, ey, -, hk⟩ := cmp_v (Or.inl h)
  obtain rfl : Value.int k = y := Option.some.inj ey
  obtain ⟨z, rfl⟩ := hk
  have q : (Cond.eq t (.int k)).value args first o s idx = some (decide (z = k)) := by simp [Cond.value, ev, ey]
  obtain rfl : z = k := gotT q h
  exact ev
section
variable {p : Program} {l : Launch} {e : Env} {R : Room} {s : State} {m : MethodId} {args : Array Value} {below : List Frame} {meth : Method} {c : Code} {T : State} {locs : List Loc} {cells slots : Nat} {Z : State} {a0 : Array Value} {h : Heap}
theorem fin {Q : Option Value → Heap → List Loc → Prop} {kc ks : Nat} {v : Option Value} {S : State} (X : Stand p l e R s m args below meth c T locs cells slots) (hv : meth.sig.returnType = none → v = none) (hlk : meth.locks = false) (hq : Q v T.heap locs) (hc : cells ≤ kc) (hs : slots ≤ ks)
    (st : ∀ fs, (∀ (f : JFrame) (acts : List Action), f.method = m → f.locked = none → f.entered = [] → (doReturn e (T.setTop f) acts v).1 = T.setFrames fs) → Steps p.tables e below S (T.setFrames fs)) : Go p.tables e below (Fine s below Q kc ks) S := by
  obtain ⟨fs, hr, hrun, hended, hW, hsame⟩ := X.leave (v := v) hv hlk
  exact ⟨_, st fs hr, _, hrun, hended, v, locs, rfl, hq, ⟨_, rfl⟩, hW, hsame.mono hc hs⟩
/-- return of an int, a long, a reference (no narrowing) -/
theorem endW {Q : Option Value → Heap → List Loc → Prop} {kc ks : Nat} (X : Stand p l e R s m args below meth c T locs cells slots) (hx : p.tables.exec = Jvm.exec) (hlk : meth.locks = false) {pc : Nat} {Ls : Array Slot} {w : Value} {t : FieldType} {i : Instr} {rest : List Value} (hret : meth.sig.returnType = some t) (hn : narrow t w = w)
    (hi : (i = .ireturn ∧ (t = .int ∨ t = .boolean ∨ t = .byte ∨ t = .char ∨ t = .short) ∧ ∃ z, w = .int z) ∨ (i = .lreturn ∧ t = .long ∧ ∃ z, w = .long z) ∨ (i = .dreturn ∧ t = .double ∧ ∃ z, w = .double z) ∨ (i = .freturn ∧ t = .float ∧ ∃ z, w = .float z) ∨ (i = .areturn ∧ t.isReference = true ∧ w.isRef = true))
    (hd : decode c.code pc = .ok (i, 1)) (hq : Q (some w) T.heap locs) (hc : cells ≤ kc) (hs : slots ≤ ks) : Go p.tables e below (Fine s below Q kc ks) (T.setTop (mkF m pc Ls (w :: rest))) :=
  fin X (fun h => by rw [hret] at h; cases h) hlk hq hc hs fun fs hr => retOut X hx hret hn hi hd hr
theorem endI {Q : Option Value → Heap → List Loc → Prop} {kc ks : Nat} (X : Stand p l e R s m args below meth c T locs cells slots) (hx : p.tables.exec = Jvm.exec) (hlk : meth.locks = false) {pc : Nat} {Ls : Array Slot} {z : Int32} {rest : List Value} (hret : meth.sig.returnType = some .int)
    (hd : decode c.code pc = .ok (.ireturn, 1)) (hq : Q (some (.int z)) T.heap locs) (hc : cells ≤ kc) (hs : slots ≤ ks) : Go p.tables e below (Fine s below Q kc ks) (T.setTop (mkF m pc Ls (.int z :: rest))) :=
  endW X hx hlk hret rfl (Or.inl ⟨rfl, Or.inl rfl, z, rfl⟩) hd hq hc hs
theorem endJ {Q : Option Value → Heap → List Loc → Prop} {kc ks : Nat} (X : Stand p l e R s m args below meth c T locs cells slots) (hx : p.tables.exec = Jvm.exec) (hlk : meth.locks = false) {pc : Nat} {Ls : Array Slot} {z : Int64} {rest : List Value} (hret : meth.sig.returnType = some .long)
    (hd : decode c.code pc = .ok (.lreturn, 1)) (hq : Q (some (.long z)) T.heap locs) (hc : cells ≤ kc) (hs : slots ≤ ks) : Go p.tables e below (Fine s below Q kc ks) (T.setTop (mkF m pc Ls (.long z :: rest))) :=
  endW X hx hlk hret rfl (Or.inr (Or.inl ⟨rfl, rfl, z, rfl⟩)) hd hq hc hs
theorem endD {Q : Option Value → Heap → List Loc → Prop} {kc ks : Nat} (X : Stand p l e R s m args below meth c T locs cells slots) (hx : p.tables.exec = Jvm.exec) (hlk : meth.locks = false) {pc : Nat} {Ls : Array Slot} {z : UInt64} {rest : List Value} (hret : meth.sig.returnType = some .double)
    (hd : decode c.code pc = .ok (.dreturn, 1)) (hq : Q (some (.double z)) T.heap locs) (hc : cells ≤ kc) (hs : slots ≤ ks) : Go p.tables e below (Fine s below Q kc ks) (T.setTop (mkF m pc Ls (.double z :: rest))) :=
  endW X hx hlk hret rfl (Or.inr (Or.inr (Or.inl ⟨rfl, rfl, z, rfl⟩))) hd hq hc hs
theorem endR {Q : Option Value → Heap → List Loc → Prop} {kc ks : Nat} (X : Stand p l e R s m args below meth c T locs cells slots) (hx : p.tables.exec = Jvm.exec) (hlk : meth.locks = false) {pc : Nat} {Ls : Array Slot} {w : Value} {t : FieldType} {rest : List Value} (hret : meth.sig.returnType = some t) (ht : t.isReference = true) (hw : w.isRef = true)
    (hd : decode c.code pc = .ok (.areturn, 1)) (hq : Q (some w) T.heap locs) (hc : cells ≤ kc) (hs : slots ≤ ks) : Go p.tables e below (Fine s below Q kc ks) (T.setTop (mkF m pc Ls (w :: rest))) :=
  endW X hx hlk hret (by cases w <;> first | rfl | (cases t <;> first | rfl | cases ht) | cases hw) (Or.inr (Or.inr (Or.inr (Or.inr ⟨rfl, ht, hw⟩)))) hd hq hc hs
/-- return of a boolean, byte, char or short: narrowed -/
theorem endN {Q : Option Value → Heap → List Loc → Prop} {kc ks : Nat} (X : Stand p l e R s m args below meth c T locs cells slots) (hx : p.tables.exec = Jvm.exec) (hlk : meth.locks = false) {pc : Nat} {Ls : Array Slot} {z w : Int32} {t : FieldType} {rest : List Value} (hret : meth.sig.returnType = some t) (ht : t = .boolean ∨ t = .byte ∨ t = .char ∨ t = .short)
    (hd : decode c.code pc = .ok (.ireturn, 1)) (hz : nar t z = w) (hq : Q (some (.int w)) T.heap locs) (hc : cells ≤ kc) (hs : slots ≤ ks) : Go p.tables e below (Fine s below Q kc ks) (T.setTop (mkF m pc Ls (.int z :: rest))) := by
  subst hz
  exact fin X (fun h => by rw [hret] at h; cases h) hlk hq hc hs fun fs hr => retN X hx hret ht hd hr
theorem endV {Q : Option Value → Heap → List Loc → Prop} {kc ks : Nat} (X : Stand p l e R s m args below meth c T locs cells slots) (hx : p.tables.exec = Jvm.exec) (hlk : meth.locks = false) {pc : Nat} {Ls : Array Slot} (hret : meth.sig.returnType = none)
    (hd : decode c.code pc = .ok (.return_, 1)) (hq : Q none T.heap locs) (hc : cells ≤ kc) (hs : slots ≤ ks) : Go p.tables e below (Fine s below Q kc ks) (T.setTop (mkF m pc Ls [])) :=
  fin X (fun _ => rfl) hlk hq hc hs fun fs hr => X.returnOut hx hret hd hr
theorem lremM {g : JFrame} {target : State} (X : Stand p l e R s m args below meth c T locs cells slots) (hx : p.tables.exec = Jvm.exec) (hg : g.method = m) {x y : Int64} {rest : List Value} (hd : decode c.code g.pc = .ok (.lrem, 1)) (hs : g.stack = .long y :: .long x :: rest) (hy : y ≠ 0)
    (hr : Steps p.tables e below (T.setTop { g with pc := g.pc + 1, stack := .long (x % y) :: rest }) target) : Steps p.tables e below (T.setTop g) target := by
  have q : x - x / y * y = x % y := lrem_mod x y
  exact XS.lrem X.here hx hg hd hs hy (by rw [q]; exact hr)
/-- a static call by its contract -/
theorem callSt (X : Stand p l e R s m args below meth c T locs cells slots) (hx : p.tables.exec = Jvm.exec) (hZ : Z.Warmed39 s.vm) {own : String} {index : Nat} {y : MethodName} {bytes : ByteArray} {maxL : Nat} {ret : Option FieldType} {rm : Room} {Q : Option Value → Heap → List Loc → Prop} {argsL rest : List Value}
    (hown : s.vm.findClass own = some m.cls) (w1 : (Cond.methodLink own index y).before a0 Z = true) (w2 : (Cond.static y).before a0 Z = true) (w3 : (Cond.initialized y.cls).before a0 Z = true) (w4 : (Cond.code y bytes maxL ret).before a0 Z = true) (hy : y.cls ≠ "java/lang/invoke/MethodHandle" ∧ y.cls ≠ "java/lang/invoke/VarHandle")
    (hM : Con l Z y bytes maxL ret [] rm argsL.toArray h Q) (eT : T.heap = h) (W : Nat) (hf : rm.frames + 1 ≤ R.frames) (hl : W + (maxL + 11) + rm.locals ≤ R.locals) (hcc : cells + rm.cells ≤ R.cells) (hss : slots + rm.slots ≤ R.slots)
    {g : JFrame} (hg : g.method = m) (hsize : g.locals.size = c.maxLocals) (hlen : ∀ sig, parseMethodDescriptor y.desc = some sig → argsL.length = sig.parameters.length)
    (hstack : g.stack = argsL.reverse ++ rest) (hW : 2 * g.monitorRoom + (rest.map fun v => v.category).sum ≤ W) (hd : decode c.code g.pc = .ok (.invokestatic index, 3)) :
    ∃ v T' L, Stand p l e R s m args below meth c T' (locs ++ L) (cells + rm.cells) (slots + rm.slots) ∧ Q v T'.heap L ∧ ∀ target, Steps p.tables e below (T'.setTop { g with pc := g.pc + 3, stack := v.toList ++ rest }) target → Steps p.tables e below (T.setTop g) target := by
  obtain ⟨v, vm1, ⟨T', L', k', n'⟩, -, X', ⟨L, hQ, l1, l2, l3⟩, st⟩ := Jvm.LawKit.callS X hx hown (mvT hZ w1) (mvT hZ w2) (mvT hZ w3) (mvT hZ w4) hy (backOf (Q := Q) (W := W) hM hZ w4 w3 hf hl) hg hsize hlen hstack hW hd (fun _ _ => ⟨rfl, eT, hcc, hss⟩)
  (try dsimp only at X' l1 l2 l3 st hQ)
  subst l1 l2 l3
  exact ⟨v, T', L, X', hQ, st⟩
/-- a constructor by its contract -/
theorem callIn (X : Stand p l e R s m args below meth c T locs cells slots) (hx : p.tables.exec = Jvm.exec) (hZ : Z.Warmed39 s.vm) {own : String} {index : Nat} {y : MethodName} {bytes : ByteArray} {maxL : Nat} {rm : Room} {Q : Option Value → Heap → List Loc → Prop} {a : Addr} {argsL rest : List Value} (hy1 : y.name = "<init>")
    (hown : s.vm.findClass own = some m.cls) (w1 : (Cond.methodLink own index y).before a0 Z = true) (w2 : (Cond.instanceMethod y).before a0 Z = true) (w3 : (Cond.initialized y.cls).before a0 Z = true) (w4 : (Cond.code y bytes maxL none).before a0 Z = true) (hy : y.cls ≠ "java/lang/invoke/MethodHandle" ∧ y.cls ≠ "java/lang/invoke/VarHandle")
    (hM : Con l Z y bytes maxL none [] rm (.ref a :: argsL).toArray h Q) (eT : T.heap = h) (W : Nat) (hf : rm.frames + 1 ≤ R.frames) (hl : W + (maxL + 11) + rm.locals ≤ R.locals) (hcc : cells + rm.cells ≤ R.cells) (hss : slots + rm.slots ≤ R.slots)
    {g : JFrame} (hg : g.method = m) (hsize : g.locals.size = c.maxLocals) (hlen : ∀ sig, parseMethodDescriptor y.desc = some sig → argsL.length = sig.parameters.length)
    (hstack : g.stack = argsL.reverse ++ .ref a :: rest) (hW : 2 * g.monitorRoom + (rest.map fun v => v.category).sum ≤ W) (hd : decode c.code g.pc = .ok (.invokespecial index, 3)) :
    ∃ v T' L, Stand p l e R s m args below meth c T' (locs ++ L) (cells + rm.cells) (slots + rm.slots) ∧ Q v T'.heap L ∧ ∀ target, Steps p.tables e below (T'.setTop { g with pc := g.pc + 3, stack := v.toList ++ rest }) target → Steps p.tables e below (T.setTop g) target := by
  obtain ⟨v, vm1, ⟨T', L', k', n'⟩, -, X', ⟨L, hQ, l1, l2, l3⟩, st⟩ := X.specialBack hx hy1 hown (mvT hZ w1) (mvT hZ w2) (mvT hZ w4) hy (backOf (Q := Q) (W := W) hM hZ w4 w3 hf hl) hg hsize (Steps.refl _) hlen hstack hW hd (fun _ _ => ⟨rfl, eT, hcc, hss⟩)
  (try dsimp only at X' l1 l2 l3 st hQ)
  subst l1 l2 l3
  exact ⟨v, T', L, X', hQ, fun target k => st.trans k⟩
/-- an instance method by the contract of the body that the receiver's class selects -/
theorem callVi (X : Stand p l e R s m args below meth c T locs cells slots) (hx : p.tables.exec = Jvm.exec) (hZ : Z.Warmed39 s.vm) {own C : String} {index : Nat} {y z : MethodName} {bytes : ByteArray} {maxL : Nat} {ret : Option FieldType} {rm : Room} {Q : Option Value → Heap → List Loc → Prop} {a : Addr} {argsL rest : List Value}
    (hown : s.vm.findClass own = some m.cls) (w1 : (Cond.methodLink own index y).before a0 Z = true) (w2 : (Cond.declares y).before a0 Z = true) (nf : NotFace s y) (w3 : (Cond.selects C y z).before a0 Z = true) (w4 : (Cond.instanceMethod z).before a0 Z = true) (w5 : (Cond.initialized z.cls).before a0 Z = true) (w6 : (Cond.code z bytes maxL ret).before a0 Z = true) (hy : y.cls ≠ "java/lang/invoke/MethodHandle" ∧ y.cls ≠ "java/lang/invoke/VarHandle")
    (hyz : z.desc = y.desc) (E : Exa Z h a C) (hM : Con l Z z bytes maxL ret [] rm (.ref a :: argsL).toArray h Q) (eT : T.heap = h) (W : Nat) (hf : rm.frames + 1 ≤ R.frames) (hl : W + (maxL + 11) + rm.locals ≤ R.locals) (hcc : cells + rm.cells ≤ R.cells) (hss : slots + rm.slots ≤ R.slots)
    {g : JFrame} (hg : g.method = m) (hsize : g.locals.size = c.maxLocals) (hlen : ∀ sig, parseMethodDescriptor y.desc = some sig → argsL.length = sig.parameters.length)
    (hstack : g.stack = argsL.reverse ++ .ref a :: rest) (hW : 2 * g.monitorRoom + (rest.map fun v => v.category).sum ≤ W) (hd : decode c.code g.pc = .ok (.invokevirtual index, 3)) :
    ∃ v T' L, Stand p l e R s m args below meth c T' (locs ++ L) (cells + rm.cells) (slots + rm.slots) ∧ Q v T'.heap L ∧ ∀ target, Steps p.tables e below (T'.setTop { g with pc := g.pc + 3, stack := v.toList ++ rest }) target → Steps p.tables e below (T.setTop g) target := by
  obtain ⟨cq, kq, qa, qb, qc⟩ := isOf hZ eT E
  obtain ⟨v, vm1, ⟨T', L', k', n'⟩, -, X', ⟨L, hQ, l1, l2, l3⟩, st⟩ := X.virtualBack hx (y := y) (z := z) hown (mvT hZ w1) (mvT hZ w2) nf (mvT hZ w3) (mvT hZ w4) hy (backOf (Q := Q) (W := W) hM hZ w6 w5 hf hl) qa qc hg hsize (Steps.refl _) hlen hstack hW hd (fun _ _ => ⟨rfl, eT, hcc, hss⟩)
  (try dsimp only at X' l1 l2 l3 st hQ)
  subst l1 l2 l3
  exact ⟨v, T', L, X', hQ, fun target k => st.trans k⟩
/-- an array whose k-th element is f k -/
def Afn (Z : State) (h : Heap) (a : Addr) (ty : FieldType) (n : Int32) (f : Nat → Value) : Prop := ∃ c : Cell, Arr Z h a c ty ∧ c.slots.size = n.toNatClampNeg ∧ ¬ n < 0 ∧ ∀ k, k < n.toNatClampNeg → c.slots[k]? = some (f k) ∧ fits ty (f k) = true
theorem Afn.lt {h : Heap} {a : Addr} {ty : FieldType} {n : Int32} {f : Nat → Value} (F : Afn Z h a ty n f) : a < h.size := by obtain ⟨c, A, -⟩ := F; exact A.lt
theorem Afn.nn {h : Heap} {a : Addr} {ty : FieldType} {n : Int32} {f : Nat → Value} (F : Afn Z h a ty n f) : ¬ n < 0 := by obtain ⟨c, -, -, q, -⟩ := F; exact q
theorem Afn.ext {h h' : Heap} {a : Addr} {ty : FieldType} {n : Int32} {f : Nat → Value} (F : Afn Z h a ty n f) (E : Ext h h') : Afn Z h' a ty n f := by obtain ⟨c, A, r⟩ := F; exact ⟨c, A.ext E, r⟩
theorem Afn.other {h h' : Heap} {a b : Addr} {ty : FieldType} {n : Int32} {f : Nat → Value} {sl : Nat} {v : Value} (F : Afn Z h b ty n f) (W : Wr h h' a sl v) (q : b ≠ a) : Afn Z h' b ty n f := by obtain ⟨c, A, r⟩ := F; exact ⟨c, A.other W q, r⟩
theorem Afn.keep {h h' : Heap} {a : Addr} {ty : FieldType} {n : Int32} {f : Nat → Value} {ws : List Addr} (F : Afn Z h a ty n f) (K : Keep h h' ws) (q : a ∉ ws) : Afn Z h' a ty n f := by obtain ⟨c, A, r⟩ := F; exact ⟨c, ⟨K.2.1 a c A.1 q, A.2⟩, r⟩
theorem Afn.congr {h : Heap} {a : Addr} {ty : FieldType} {n : Int32} {f g : Nat → Value} (F : Afn Z h a ty n f) (q : ∀ k, k < n.toNatClampNeg → f k = g k) : Afn Z h a ty n g := by
  obtain ⟨c, A, s, m, r⟩ := F
  exact ⟨c, A, s, m, fun k hk => by rw [← q k hk]; exact r k hk⟩
theorem Afn.new {h : Heap} {a : Addr} {ty : FieldType} {n : Int32} {k : ClassId} (A : Arr Z h a (newA k ty n) ty) (q : ¬ n < 0) : Afn Z h a ty n (fun _ => defaultValue ty) := by
  obtain ⟨c, B, -, s, m, H, G⟩ := Arv.new A q
  exact ⟨c, B, s, m, fun j hj => ⟨by simpa using H j (by rw [s]; exact hj), by simpa using G j (by rw [s]; exact hj)⟩⟩
theorem Afn.set {h h' : Heap} {a : Addr} {ty : FieldType} {n : Int32} {f : Nat → Value} {c : Cell} {j : Int32} {v : Value} (A : Arr Z h a c ty) (s : c.slots.size = n.toNatClampNeg) (m : ¬ n < 0) (r : ∀ k, k < n.toNatClampNeg → c.slots[k]? = some (f k) ∧ fits ty (f k) = true) (hv : fits ty v = true) (W : Wr h h' a j.toNatClampNeg v) :
    Afn Z h' a ty n (fun k => if k = j.toNatClampNeg then v else f k) := by
  refine ⟨c.setSlot j.toNatClampNeg v, A.same W, by rw [sz_set]; exact s, m, fun k hk => ?_⟩
  dsimp only
  by_cases q : k = j.toNatClampNeg
  · rw [if_pos q]
    refine ⟨?_, hv⟩
    subst q
    simp [Cell.setSlot, s, hk]
  · rw [if_neg q]
    refine ⟨?_, (r k hk).2⟩
    show (c.slots.setIfInBounds _ _)[k]? = _
    rw [Array.getElem?_setIfInBounds_ne (Ne.symm q)]
    exact (r k hk).1
theorem inbN {n j : Int32} (q : ¬ j < 0 ∧ j < n) : j.toNatClampNeg < n.toNatClampNeg := by
  obtain ⟨h1, h2⟩ := q
  rw [Int32.lt_iff_toInt_lt] at h1 h2
  have e : (0 : Int32).toInt = 0 := rfl
  simp only [Int32.toNatClampNeg]
  omega
theorem Afn.of_arv {h : Heap} {a : Addr} {k : ClassId} {ty : FieldType} {n : Int32} {vs : List Value} {d : Value} (F : Arv Z h a k ty n vs d) : Afn Z h a ty n (fun i => vs.getD i d) := by
  obtain ⟨c, A, -, s, m, H, G⟩ := F
  exact ⟨c, A, s, m, fun i hi => ⟨H i (by rw [s]; exact hi), G i (by rw [s]; exact hi)⟩⟩
theorem ns_root {O K : String} {n : Nat} (w : (Cond.noSuperclass O).before a0 Z = true) (wk : (Cond.instantiable K n).before a0 Z = true) (hn : O ≠ K) : NS Z O K := by
  obtain ⟨c, k, h1, h2, h3, -, -⟩ := Cond.noSuperclass_spec w
  obtain ⟨t, kt, g1, -⟩ := Cond.instantiable_spec wk
  have ne := ids_ne h1 g1 hn
  refine ⟨c, t, h1, g1, fun fuel => ?_⟩
  cases fuel with
  | zero => rfl
  | succ f => simp [Vm.isSubclassAux, ne, h2, h3]
theorem ns_no {C S K : String} {n : Nat} (w : (Cond.superclass C S).before a0 Z = true) (wk : (Cond.instantiable K n).before a0 Z = true) (q : NS Z C K) (hn : C ≠ K) : ∃ c t, Z.vm.findClass C = some c ∧ Z.vm.findClass K = some t ∧ Z.vm.assignable c t = false := by
  obtain ⟨c, t, h0, g0, n3⟩ := q
  obtain ⟨p, k, kp, h1, h2, h3, h4, h5, -, h7⟩ := Cond.superclass_spec h0 w
  obtain ⟨t', kt, g1, g2, g3, g4, -⟩ := Cond.instantiable_spec wk
  cases g0.symm.trans g1
  have g5 : kt.isInterface = false := (Bool.or_eq_false_iff.mp g4).1
  have ne := ids_ne h0 g0 hn
  refine ⟨c, t, h0, g0, ?_⟩
  show Z.vm.assignableAux (255 + 1) c t = false
  simp [Vm.assignableAux, ne, h2, g2, h5, g3, g5, Vm.isSubclass, n3]
end
end Jvm.OwnKit
namespace Jvm.OwnKit
open Sem ClassFile Op Lib Jvm.Stand Jvm.Free Jvm.LawKit Jvm.RoadKit
/-- the invocation of s has returned, perhaps with new entries in the intern table; what the tables book for EL says its text -/
def FineW (Z : State) (EL : List (String × Nat)) (s : State) (below : List Frame) (Q : Option Value → Heap → List Loc → Prop) (kc ks : Nat) (t : State) : Prop := ∃ o, t.status = .running ∧ Ended t below o ∧ ∃ v L, o = .returned v ∧ Q v t.heap L ∧ CHr Z EL s.vm s.heap t.vm t.heap ∧ ReturnedEndW s o t L kc ks
/-- a contract of a method that may load String constants for the first time -/
def ConH (l : Launch) (Z : State) (EL : List (String × Nat)) (y : MethodName) (bytes : ByteArray) (maxL : Nat) (ret : Option FieldType) (ws : List Jvm.Cond) (rm : Room) (as : Array Value) (h0 : Heap) (Q : Option Value → Heap → List Loc → Prop) : Prop :=
  MetFree l y (head1 (Jvm.Cond.code y bytes maxL ret :: ws) rm) (fun a U => a = as ∧ Z.Warmed39 U.vm ∧ U.heap = h0 ∧ CHv Z EL U.vm h0) (fun _ _ _ _ _ => True) (fun _ U o U' => ∃ v L, o = .returned v ∧ Q v U'.heap L ∧ CHr Z EL U.vm U.heap U'.vm U'.heap ∧ ReturnedEndW U o U' L rm.cells rm.slots)
theorem ConH.of {l : Launch} {Z : State} {EL : List (String × Nat)} {y : MethodName} {bytes : ByteArray} {maxL : Nat} {ret : Option FieldType} {ws : List Jvm.Cond} {rm : Room} {as : Array Value} {h0 : Heap} {Q : Option Value → Heap → List Loc → Prop} (hpl : plainFor y = true)
    (body : ∀ (p : Program) (e : Env) (s : State) (m : MethodId) (below : List Frame) (meth : Method) (c : Code) (s₁ : State) (vm0 : Vm) (k0 : Nat), Z.Warmed39 vm0 → s₁.heap = h0 → Stand p l e rm (s.setVm vm0) m as below meth c s₁ [] 0 0 → p.tables.exec = Jvm.exec → c.code = bytes → c.maxLocals = maxL → vm0.findClass y.cls = some m.cls → meth.name = y.name → meth.sig.returnType = ret → meth.locks = false →
      s.Since vm0 k0 → k0 ≤ h0.size → CHv Z EL vm0 h0 → CHr Z EL s.vm s.heap vm0 h0 → Go p.tables e below (FineW Z EL s below Q rm.cells rm.slots) (s₁.setTop (entryFrame m as maxL))) : ConH l Z EL y bytes maxL ret ws rm as h0 Q := by
  refine MetFree.of_bodySF hpl hisR ?_
  intro p e s m args below meth c s₁ Bd hml hP hK
  obtain ⟨rfl, hZ, hh, hCH⟩ := hP
  have e0 : s₁.heap = h0 := by rw [← hh, Bd.state]; rfl
  have X0 : Stand p l e rm (s.setVm s.vm) m args below meth c s₁ [] 0 0 := by rw [State.setVm_self]; exact Stand.of_body Bd
  obtain ⟨t, h1, o, h2, h3, h4⟩ := body p e s m below meth c s₁ s.vm h0.size hZ e0 X0 Bd.exec Bd.bytes hml (findClass_of_methodNamed Bd.named) (name_of_methodNamed Bd.named Bd.method).1 Bd.returns Bd.notSynchronized ((State.WarmedH.refl s).since _) (Nat.le_refl _) hCH (by rw [hh]; exact CHr.refl hCH)
  exact ⟨t, o, h1, h2, h3, h4⟩
section
variable {p : Program} {l : Launch} {e : Env} {R : Room} {s : State} {m : MethodId} {args : Array Value} {below : List Frame} {meth : Method} {c : Code} {T : State} {locs : List Loc} {cells slots : Nat} {Z : State} {a0 : Array Value} {h : Heap} {vm0 : Vm} {k0 : Nat} {EL : List (String × Nat)}
theorem finW {Q : Option Value → Heap → List Loc → Prop} {kc ks : Nat} {v : Option Value} {S : State} (X : Stand p l e R (s.setVm vm0) m args below meth c T locs cells slots) (hZ : Z.Warmed39 vm0) (hS : s.Since vm0 k0) (eT : T.heap = h) (hk : k0 ≤ h.size) (hEL : EW Z a0 EL) (CH : CHv Z EL vm0 h) (CR : CHr Z EL s.vm s.heap vm0 h)
    (hv : meth.sig.returnType = none → v = none) (hlk : meth.locks = false) (hq : Q v T.heap locs) (hc : cells ≤ kc) (hs : slots ≤ ks)
    (st : ∀ fs, (∀ (f : JFrame) (acts : List Action), f.method = m → f.locked = none → f.entered = [] → (doReturn e (T.setTop f) acts v).1 = T.setFrames fs) → Steps p.tables e below S (T.setFrames fs)) : Go p.tables e below (FineW Z EL s below Q kc ks) S := by
  obtain ⟨fs, hr, hrun, hended, hRE⟩ := X.leaveW hS (by rw [eT]; exact hk) hv hlk
  refine ⟨_, st fs hr, _, hrun, hended, v, locs, rfl, hq, ?_, hRE.1, hRE.2.1, hRE.2.2.1, hRE.2.2.2.mono hc hs⟩
  have q := CR.trans (CHv.at X hZ hEL CH)
  rw [← eT] at q
  exact q
theorem endWW {Q : Option Value → Heap → List Loc → Prop} {kc ks : Nat} (X : Stand p l e R (s.setVm vm0) m args below meth c T locs cells slots) (hx : p.tables.exec = Jvm.exec) (hlk : meth.locks = false) (hZ : Z.Warmed39 vm0) (hS : s.Since vm0 k0) (eT : T.heap = h) (hk : k0 ≤ h.size) (hEL : EW Z a0 EL) (CH : CHv Z EL vm0 h) (CR : CHr Z EL s.vm s.heap vm0 h) {pc : Nat} {Ls : Array Slot} {w : Value} {t : FieldType} {i : Instr} {rest : List Value} (hret : meth.sig.returnType = some t) (hn : narrow t w = w)
    (hi : (i = .ireturn ∧ (t = .int ∨ t = .boolean ∨ t = .byte ∨ t = .char ∨ t = .short) ∧ ∃ z, w = .int z) ∨ (i = .lreturn ∧ t = .long ∧ ∃ z, w = .long z) ∨ (i = .dreturn ∧ t = .double ∧ ∃ z, w = .double z) ∨ (i = .freturn ∧ t = .float ∧ ∃ z, w = .float z) ∨ (i = .areturn ∧ t.isReference = true ∧ w.isRef = true))
    (hd : decode c.code pc = .ok (i, 1)) (hq : Q (some w) T.heap locs) (hc : cells ≤ kc) (hs : slots ≤ ks) : Go p.tables e below (FineW Z EL s below Q kc ks) (T.setTop (mkF m pc Ls (w :: rest))) :=
  finW X hZ hS eT hk hEL CH CR (fun h => by rw [hret] at h; cases h) hlk hq hc hs fun fs hr => retOut X hx hret hn hi hd hr
theorem endIW {Q : Option Value → Heap → List Loc → Prop} {kc ks : Nat} (X : Stand p l e R (s.setVm vm0) m args below meth c T locs cells slots) (hx : p.tables.exec = Jvm.exec) (hlk : meth.locks = false) (hZ : Z.Warmed39 vm0) (hS : s.Since vm0 k0) (eT : T.heap = h) (hk : k0 ≤ h.size) (hEL : EW Z a0 EL) (CH : CHv Z EL vm0 h) (CR : CHr Z EL s.vm s.heap vm0 h) {pc : Nat} {Ls : Array Slot} {z : Int32} {rest : List Value} (hret : meth.sig.returnType = some .int)
    (hd : decode c.code pc = .ok (.ireturn, 1)) (hq : Q (some (.int z)) T.heap locs) (hc : cells ≤ kc) (hs : slots ≤ ks) : Go p.tables e below (FineW Z EL s below Q kc ks) (T.setTop (mkF m pc Ls (.int z :: rest))) :=
  endWW X hx hlk hZ hS eT hk hEL CH CR hret rfl (Or.inl ⟨rfl, Or.inl rfl, z, rfl⟩) hd hq hc hs
theorem endRW {Q : Option Value → Heap → List Loc → Prop} {kc ks : Nat} (X : Stand p l e R (s.setVm vm0) m args below meth c T locs cells slots) (hx : p.tables.exec = Jvm.exec) (hlk : meth.locks = false) (hZ : Z.Warmed39 vm0) (hS : s.Since vm0 k0) (eT : T.heap = h) (hk : k0 ≤ h.size) (hEL : EW Z a0 EL) (CH : CHv Z EL vm0 h) (CR : CHr Z EL s.vm s.heap vm0 h) {pc : Nat} {Ls : Array Slot} {w : Value} {t : FieldType} {rest : List Value} (hret : meth.sig.returnType = some t) (ht : t.isReference = true) (hw : w.isRef = true)
    (hd : decode c.code pc = .ok (.areturn, 1)) (hq : Q (some w) T.heap locs) (hc : cells ≤ kc) (hs : slots ≤ ks) : Go p.tables e below (FineW Z EL s below Q kc ks) (T.setTop (mkF m pc Ls (w :: rest))) :=
  endWW X hx hlk hZ hS eT hk hEL CH CR hret (by cases w <;> first | rfl | (cases t <;> first | rfl | cases ht) | cases hw) (Or.inr (Or.inr (Or.inr (Or.inr ⟨rfl, ht, hw⟩)))) hd hq hc hs
theorem endNW {Q : Option Value → Heap → List Loc → Prop} {kc ks : Nat} (X : Stand p l e R (s.setVm vm0) m args below meth c T locs cells slots) (hx : p.tables.exec = Jvm.exec) (hlk : meth.locks = false) (hZ : Z.Warmed39 vm0) (hS : s.Since vm0 k0) (eT : T.heap = h) (hk : k0 ≤ h.size) (hEL : EW Z a0 EL) (CH : CHv Z EL vm0 h) (CR : CHr Z EL s.vm s.heap vm0 h) {pc : Nat} {Ls : Array Slot} {z w : Int32} {t : FieldType} {rest : List Value} (hret : meth.sig.returnType = some t) (ht : t = .boolean ∨ t = .byte ∨ t = .char ∨ t = .short)
    (hd : decode c.code pc = .ok (.ireturn, 1)) (hz : nar t z = w) (hq : Q (some (.int w)) T.heap locs) (hc : cells ≤ kc) (hs : slots ≤ ks) : Go p.tables e below (FineW Z EL s below Q kc ks) (T.setTop (mkF m pc Ls (.int z :: rest))) := by
  subst hz
  exact finW X hZ hS eT hk hEL CH CR (fun h => by rw [hret] at h; cases h) hlk hq hc hs fun fs hr => retN X hx hret ht hd hr
theorem endVW {Q : Option Value → Heap → List Loc → Prop} {kc ks : Nat} (X : Stand p l e R (s.setVm vm0) m args below meth c T locs cells slots) (hx : p.tables.exec = Jvm.exec) (hlk : meth.locks = false) (hZ : Z.Warmed39 vm0) (hS : s.Since vm0 k0) (eT : T.heap = h) (hk : k0 ≤ h.size) (hEL : EW Z a0 EL) (CH : CHv Z EL vm0 h) (CR : CHr Z EL s.vm s.heap vm0 h) {pc : Nat} {Ls : Array Slot} (hret : meth.sig.returnType = none)
    (hd : decode c.code pc = .ok (.return_, 1)) (hq : Q none T.heap locs) (hc : cells ≤ kc) (hs : slots ≤ ks) : Go p.tables e below (FineW Z EL s below Q kc ks) (T.setTop (mkF m pc Ls [])) :=
  finW X hZ hS eT hk hEL CH CR (fun _ => rfl) hlk hq hc hs fun fs hr => X.returnOut hx hret hd hr
theorem callStW (X : Stand p l e R (s.setVm vm0) m args below meth c T locs cells slots) (hx : p.tables.exec = Jvm.exec) (hZ : Z.Warmed39 vm0) {own : String} {index : Nat} {y : MethodName} {bytes : ByteArray} {maxL : Nat} {ret : Option FieldType} {rm : Room} {Q : Option Value → Heap → List Loc → Prop} {argsL rest : List Value}
    (hown : vm0.findClass own = some m.cls) (w1 : (Cond.methodLink own index y).before a0 Z = true) (w2 : (Cond.static y).before a0 Z = true) (w3 : (Cond.initialized y.cls).before a0 Z = true) (w4 : (Cond.code y bytes maxL ret).before a0 Z = true) (hy : y.cls ≠ "java/lang/invoke/MethodHandle" ∧ y.cls ≠ "java/lang/invoke/VarHandle")
    (hM : ConH l Z EL y bytes maxL ret [] rm argsL.toArray h Q) (eT : T.heap = h) (hEL : EW Z a0 EL) (CH : CHv Z EL vm0 h) (hS : s.Since vm0 k0) (hk : k0 ≤ h.size) (W : Nat) (hf : rm.frames + 1 ≤ R.frames) (hl : W + (maxL + 11) + rm.locals ≤ R.locals) (hcc : cells + rm.cells ≤ R.cells) (hss : slots + rm.slots ≤ R.slots)
    {g : JFrame} (hg : g.method = m) (hsize : g.locals.size = c.maxLocals) (hlen : ∀ sig, parseMethodDescriptor y.desc = some sig → argsL.length = sig.parameters.length)
    (hstack : g.stack = argsL.reverse ++ rest) (hW : 2 * g.monitorRoom + (rest.map fun v => v.category).sum ≤ W) (hd : decode c.code g.pc = .ok (.invokestatic index, 3)) :
    ∃ v T' L, Stand p l e R (s.setVm T'.vm) m args below meth c T' (locs ++ L) (cells + rm.cells) (slots + rm.slots) ∧ Q v T'.heap L ∧ CHr Z EL vm0 h T'.vm T'.heap ∧ s.Since T'.vm T'.heap.size ∧ Z.Warmed39 T'.vm ∧ T'.vm.findClass own = some m.cls ∧ ∀ target, Steps p.tables e below (T'.setTop { g with pc := g.pc + 3, stack := v.toList ++ rest }) target → Steps p.tables e below (T.setTop g) target := by
  obtain ⟨v, vm1, ⟨T', L', k', n'⟩, -, X', hS2, hgr, ⟨L, hQ, l1, l2, l3, hC⟩, st⟩ := callSS X hx hown (mvT (s := s.setVm vm0) hZ w1) (mvT (s := s.setVm vm0) hZ w2) (mvT (s := s.setVm vm0) hZ w3) (mvT (s := s.setVm vm0) hZ w4) hy (backOfSH (Q := Q) (W := W) hM hZ w4 w3 hf hl hEL CH) hg hsize hlen hstack hW hd (fun _ _ => ⟨rfl, eT, hcc, hss⟩)
  (try dsimp only at X' l1 l2 l3 st hQ hC hS2 hgr)
  subst l1 l2 l3
  obtain ⟨Y, hS3, hZ3, hown3⟩ := rebS hS (n1 := T.heap.size) (by rw [eT]; exact hk) X' hS2 hgr hZ hown
  exact ⟨v, T', L, Y, hQ, hC, hS3, hZ3, hown3, fun target k => st.trans k⟩
theorem callInW (X : Stand p l e R (s.setVm vm0) m args below meth c T locs cells slots) (hx : p.tables.exec = Jvm.exec) (hZ : Z.Warmed39 vm0) {own : String} {index : Nat} {y : MethodName} {bytes : ByteArray} {maxL : Nat} {rm : Room} {Q : Option Value → Heap → List Loc → Prop} {a : Addr} {argsL rest : List Value} (hy1 : y.name = "<init>")
    (hown : vm0.findClass own = some m.cls) (w1 : (Cond.methodLink own index y).before a0 Z = true) (w2 : (Cond.instanceMethod y).before a0 Z = true) (w3 : (Cond.initialized y.cls).before a0 Z = true) (w4 : (Cond.code y bytes maxL none).before a0 Z = true) (hy : y.cls ≠ "java/lang/invoke/MethodHandle" ∧ y.cls ≠ "java/lang/invoke/VarHandle")
    (hM : ConH l Z EL y bytes maxL none [] rm (.ref a :: argsL).toArray h Q) (eT : T.heap = h) (hEL : EW Z a0 EL) (CH : CHv Z EL vm0 h) (hS : s.Since vm0 k0) (hk : k0 ≤ h.size) (W : Nat) (hf : rm.frames + 1 ≤ R.frames) (hl : W + (maxL + 11) + rm.locals ≤ R.locals) (hcc : cells + rm.cells ≤ R.cells) (hss : slots + rm.slots ≤ R.slots)
    {g : JFrame} (hg : g.method = m) (hsize : g.locals.size = c.maxLocals) (hlen : ∀ sig, parseMethodDescriptor y.desc = some sig → argsL.length = sig.parameters.length)
    (hstack : g.stack = argsL.reverse ++ .ref a :: rest) (hW : 2 * g.monitorRoom + (rest.map fun v => v.category).sum ≤ W) (hd : decode c.code g.pc = .ok (.invokespecial index, 3)) :
    ∃ v T' L, Stand p l e R (s.setVm T'.vm) m args below meth c T' (locs ++ L) (cells + rm.cells) (slots + rm.slots) ∧ Q v T'.heap L ∧ CHr Z EL vm0 h T'.vm T'.heap ∧ s.Since T'.vm T'.heap.size ∧ Z.Warmed39 T'.vm ∧ T'.vm.findClass own = some m.cls ∧ ∀ target, Steps p.tables e below (T'.setTop { g with pc := g.pc + 3, stack := v.toList ++ rest }) target → Steps p.tables e below (T.setTop g) target := by
  obtain ⟨v, vm1, ⟨T', L', k', n'⟩, -, X', hS2, hgr, ⟨L, hQ, l1, l2, l3, hC⟩, st⟩ := X.specialBackS hx hy1 hown (mvT (s := s.setVm vm0) hZ w1) (mvT (s := s.setVm vm0) hZ w2) (mvT (s := s.setVm vm0) hZ w4) hy (backOfSH (Q := Q) (W := W) hM hZ w4 w3 hf hl hEL CH) hg hsize (Steps.refl _) hlen hstack hW hd (fun _ _ => ⟨rfl, eT, hcc, hss⟩)
  (try dsimp only at X' l1 l2 l3 st hQ hC hS2 hgr)
  subst l1 l2 l3
  obtain ⟨Y, hS3, hZ3, hown3⟩ := rebS hS (n1 := T.heap.size) (by rw [eT]; exact hk) X' hS2 hgr hZ hown
  exact ⟨v, T', L, Y, hQ, hC, hS3, hZ3, hown3, fun target k => st.trans k⟩
theorem callViW (X : Stand p l e R (s.setVm vm0) m args below meth c T locs cells slots) (hx : p.tables.exec = Jvm.exec) (hZ : Z.Warmed39 vm0) {own C : String} {index : Nat} {y z : MethodName} {bytes : ByteArray} {maxL : Nat} {ret : Option FieldType} {rm : Room} {Q : Option Value → Heap → List Loc → Prop} {a : Addr} {argsL rest : List Value}
    (hown : vm0.findClass own = some m.cls) (w1 : (Cond.methodLink own index y).before a0 Z = true) (w2 : (Cond.declares y).before a0 Z = true) (nf : NotFace (s.setVm vm0) y) (w3 : (Cond.selects C y z).before a0 Z = true) (w4 : (Cond.instanceMethod z).before a0 Z = true) (w5 : (Cond.initialized z.cls).before a0 Z = true) (w6 : (Cond.code z bytes maxL ret).before a0 Z = true) (hy : y.cls ≠ "java/lang/invoke/MethodHandle" ∧ y.cls ≠ "java/lang/invoke/VarHandle")
    (hyz : z.desc = y.desc) (E : Exa Z h a C) (hM : ConH l Z EL z bytes maxL ret [] rm (.ref a :: argsL).toArray h Q) (eT : T.heap = h) (hEL : EW Z a0 EL) (CH : CHv Z EL vm0 h) (hS : s.Since vm0 k0) (hk : k0 ≤ h.size) (W : Nat) (hf : rm.frames + 1 ≤ R.frames) (hl : W + (maxL + 11) + rm.locals ≤ R.locals) (hcc : cells + rm.cells ≤ R.cells) (hss : slots + rm.slots ≤ R.slots)
    {g : JFrame} (hg : g.method = m) (hsize : g.locals.size = c.maxLocals) (hlen : ∀ sig, parseMethodDescriptor y.desc = some sig → argsL.length = sig.parameters.length)
    (hstack : g.stack = argsL.reverse ++ .ref a :: rest) (hW : 2 * g.monitorRoom + (rest.map fun v => v.category).sum ≤ W) (hd : decode c.code g.pc = .ok (.invokevirtual index, 3)) :
    ∃ v T' L, Stand p l e R (s.setVm T'.vm) m args below meth c T' (locs ++ L) (cells + rm.cells) (slots + rm.slots) ∧ Q v T'.heap L ∧ CHr Z EL vm0 h T'.vm T'.heap ∧ s.Since T'.vm T'.heap.size ∧ Z.Warmed39 T'.vm ∧ T'.vm.findClass own = some m.cls ∧ ∀ target, Steps p.tables e below (T'.setTop { g with pc := g.pc + 3, stack := v.toList ++ rest }) target → Steps p.tables e below (T.setTop g) target := by
  obtain ⟨cq, kq, qa, qb, qc⟩ := isOf (s := s.setVm vm0) hZ eT E
  obtain ⟨v, vm1, ⟨T', L', k', n'⟩, -, X', hS2, hgr, ⟨L, hQ, l1, l2, l3, hC⟩, st⟩ := X.virtualBackS hx (y := y) (z := z) hown (mvT (s := s.setVm vm0) hZ w1) (mvT (s := s.setVm vm0) hZ w2) nf (mvT (s := s.setVm vm0) hZ w3) (mvT (s := s.setVm vm0) hZ w4) hy (backOfSH (Q := Q) (W := W) hM hZ w6 w5 hf hl hEL CH) qa qc hg hsize (Steps.refl _) hlen hstack hW hd (fun _ _ => ⟨rfl, eT, hcc, hss⟩)
  (try dsimp only at X' l1 l2 l3 st hQ hC hS2 hgr)
  subst l1 l2 l3
  obtain ⟨Y, hS3, hZ3, hown3⟩ := rebS hS (n1 := T.heap.size) (by rw [eT]; exact hk) X' hS2 hgr hZ hown
  exact ⟨v, T', L, Y, hQ, hC, hS3, hZ3, hown3, fun target k => st.trans k⟩
end
end Jvm.OwnKit
namespace Jvm.Pilot.@@N@@
open Jvm Jvm.ClassFile Sem Op Lib Jvm.Free Jvm.Stand Jvm.LawKit Jvm.RoadKit Jvm.OwnKit Bundle Jvm.Pilot.@@N@@.Jvm.D
theorem own_nar (x : Int32) (h : 0 ≤ x.toInt ∧ x.toInt ≤ 255) : nar .char x = x := by
  have q := c_i2c x
  apply Int32.toInt_inj.mp
  show (x.toUInt32.toUInt16.toUInt32.toInt32).toInt = x.toInt
  omega
theorem own_inc (n i : Int32) (h0 : ¬ i < (0 : Int32)) (h : i < n) : ¬ (i + (1 : Int32)) < (0 : Int32) ∧ ¬ n < (i + (1 : Int32)) ∧ (i + (1 : Int32)).toNatClampNeg = i.toNatClampNeg + 1 ∧ i.toNatClampNeg < n.toNatClampNeg := by
  have q := c_iadd i 1
  have r := rng32 (i + 1)
  have r2 := rng32 n
  have e1 : (1 : Int32).toInt = 1 := rfl
  have e0 : (0 : Int32).toInt = 0 := rfl
  simp only [Int32.lt_iff_toInt_lt, Int32.toNatClampNeg] at *
  omega
theorem own_b8 (x : Int32) : (x.toInt8.toInt32).toInt8.toInt32 = x.toInt8.toInt32 := by rw [Int8.toInt8_toInt32]
theorem own_lf (cf : Nat → Int32) (i : Int32) (k : Nat) : (if k = i.toNatClampNeg then Value.int (((cf i.toNatClampNeg).toInt8.toInt32).toInt8.toInt32) else Value.int (if k < i.toNatClampNeg then (cf k).toInt8.toInt32 else 0)) = Value.int (if k < i.toNatClampNeg + 1 then (cf k).toInt8.toInt32 else 0) := by
  by_cases z : k = i.toNatClampNeg
  · subst z
    simp [own_b8]
  · have q : (k < i.toNatClampNeg + 1) = (k < i.toNatClampNeg) := by simp only [eq_iff_iff]; omega
    simp [z, q]
theorem d15_0 : decode jdk_52_method_21_code 0 = .ok (.iconst 0, 1) := by decide +kernel
theorem d15_1 : decode jdk_52_method_21_code 1 = .ok (.istore 5, 2) := by decide +kernel
theorem d15_3 : decode jdk_52_method_21_code 3 = .ok (.iload 5, 2) := by decide +kernel
theorem d15_5 : decode jdk_52_method_21_code 5 = .ok (.iload 4, 2) := by decide +kernel
theorem d15_7 : decode jdk_52_method_21_code 7 = .ok (.if_icmp .ge 37, 3) := by decide +kernel
theorem d15_10 : decode jdk_52_method_21_code 10 = .ok (.aload_n 0, 1) := by decide +kernel
theorem d15_11 : decode jdk_52_method_21_code 11 = .ok (.iload_n 1, 1) := by decide +kernel
theorem d15_12 : decode jdk_52_method_21_code 12 = .ok (.caload, 1) := by decide +kernel
theorem d15_13 : decode jdk_52_method_21_code 13 = .ok (.istore 6, 2) := by decide +kernel
theorem d15_15 : decode jdk_52_method_21_code 15 = .ok (.iload 6, 2) := by decide +kernel
theorem d15_17 : decode jdk_52_method_21_code 17 = .ok (.sipush 255, 3) := by decide +kernel
theorem d15_20 : decode jdk_52_method_21_code 20 = .ok (.if_icmp .le 6, 3) := by decide +kernel
theorem d15_23 : decode jdk_52_method_21_code 23 = .ok (.iload 5, 2) := by decide +kernel
theorem d15_25 : decode jdk_52_method_21_code 25 = .ok (.ireturn, 1) := by decide +kernel
theorem d15_26 : decode jdk_52_method_21_code 26 = .ok (.aload_n 2, 1) := by decide +kernel
theorem d15_27 : decode jdk_52_method_21_code 27 = .ok (.iload_n 3, 1) := by decide +kernel
theorem d15_28 : decode jdk_52_method_21_code 28 = .ok (.iload 6, 2) := by decide +kernel
theorem d15_30 : decode jdk_52_method_21_code 30 = .ok (.i2b, 1) := by decide +kernel
theorem d15_31 : decode jdk_52_method_21_code 31 = .ok (.bastore, 1) := by decide +kernel
theorem d15_32 : decode jdk_52_method_21_code 32 = .ok (.iinc 1 1, 3) := by decide +kernel
theorem d15_35 : decode jdk_52_method_21_code 35 = .ok (.iinc 3 1, 3) := by decide +kernel
theorem d15_38 : decode jdk_52_method_21_code 38 = .ok (.iinc 5 1, 3) := by decide +kernel
theorem d15_41 : decode jdk_52_method_21_code 41 = .ok (.goto (-38), 3) := by decide +kernel
theorem d15_44 : decode jdk_52_method_21_code 44 = .ok (.iload 4, 2) := by decide +kernel
theorem d15_46 : decode jdk_52_method_21_code 46 = .ok (.ireturn, 1) := by decide +kernel
theorem pn_rm15 : plainName "java/lang/StringUTF16" = true := by first | (simp [plainName, overriddenIn]; done) | decide +kernel
theorem ef_rm15 (m : MethodId) (a1 : Addr) (a3 : Addr) (n : Int32) : entryFrame m #[(.ref a1), (.int (0 : Int32)), (.ref a3), (.int (0 : Int32)), (.int n)] 7 = mkF m 0 #[.val (.ref a1), .val (.int (0 : Int32)), .val (.ref a3), .val (.int (0 : Int32)), .val (.int n), .unset, .unset] [] := by first | (simp [entryFrame, mkF, argsToLocals, Value.category]; done) | rfl
def Q15 (Z : State) (a1 : Addr) (a3 : Addr) (n : Int32) (cf : Nat → Int32) (h0 : Heap) (n0 : Nat) (v : Option Value) (h : Heap) (L : List Loc) : Prop := v = some (.int n) ∧ Fr n0 L ∧ Keep h0 h [a3] ∧ Afn Z h a3 .byte n (fun k => .int ((cf k).toInt8.toInt32))
set_option maxRecDepth 65536 in
set_option maxHeartbeats 40000000 in
theorem rm15 (l : Launch) (Z : State) (a0 : Array Value) (hw : ∀ d ∈ tables_1, d.before a0 Z = true) (ws : List Jvm.Cond) (a1 : Addr) (a3 : Addr) (n : Int32) (cf : Nat → Int32) (h0 : Heap) (n0 : Nat) (Z0 : n0 ≤ h0.size) (V1 : Afn Z h0 a1 .char n (fun k => .int (cf k))) (V3 : Afn Z h0 a3 .byte n (fun _ => .int (0 : Int32))) (hcb : ∀ k, k < n.toNatClampNeg → ¬ cf k < (0 : Int32) ∧ ¬ (255 : Int32) < cf k) (hne : a1 ≠ a3) (g3 : n0 ≤ a3) :
    Con l Z (⟨"java/lang/StringUTF16", "compress", "([CI[BII)I"⟩ : MethodName) jdk_52_method_21_code 7 (some .int) ws ({ frames := 0, cells := 0, slots := 0, locals := 0 } : Room) #[(.ref a1), (.int (0 : Int32)), (.ref a3), (.int (0 : Int32)), (.int n)] h0 (Q15 Z a1 a3 n cf h0 n0) := by
  refine Con.of (plainFor_of_name pn_rm15) ?_
  intro p e s m below meth c s₁ hZ e0 X0 hx hby hml hown hnm hret hlk
  replace hml : c.maxLocals = 7 := hml
  have hown : s.vm.findClass "java/lang/StringUTF16" = some m.cls := hown
  have N0 : Fr n0 [] := Fr.nil n0
  obtain ⟨PP, hPP⟩ : ∃ P, P = Fine s below (Q15 Z a1 a3 n cf h0 n0) ({ frames := 0, cells := 0, slots := 0, locals := 0 } : Room).cells ({ frames := 0, cells := 0, slots := 0, locals := 0 } : Room).slots := ⟨_, rfl⟩
  rw [← hPP]
  refine Go.cast (ef_rm15 m a1 a3 n) ?_
  have K : Keep h0 h0 [a3] := Keep.refl h0 _
  have Zn : n0 ≤ h0.size := Z0
  show Go p.tables e below PP (s₁.setTop (mkF m 0 #[.val (.ref a1), .val (.int (0 : Int32)), .val (.ref a3), .val (.int (0 : Int32)), .val (.int n), .unset, .unset] []))
  refine Go.st (fun t k => XS.iconst X0.here hx rfl (hb hby d15_0) k) ?_
  show Go p.tables e below PP (s₁.setTop (mkF m 1 #[.val (.ref a1), .val (.int (0 : Int32)), .val (.ref a3), .val (.int (0 : Int32)), .val (.int n), .unset, .unset] [(.int (0 : Int32))]))
  refine Go.st (fun t k => XS.istore X0.here hx rfl (hb hby d15_1) rfl (l' := #[.val (.ref a1), .val (.int (0 : Int32)), .val (.ref a3), .val (.int (0 : Int32)), .val (.int n), .val (.int (0 : Int32)), .unset]) rfl k) ?_
  have J3 : ∀ (d1 : Nat) (T1 : State) (L1 : List Loc) (h1 : Heap) (i : Int32) (s6 : Slot), Stand p l e ({ frames := 0, cells := 0, slots := 0, locals := 0 } : Room) s m #[(.ref a1), (.int (0 : Int32)), (.ref a3), (.int (0 : Int32)), (.int n)] below meth c T1 L1 0 0 → T1.heap = h1 → Fr n0 L1 → Afn Z h1 a1 .char n (fun k => .int (cf k)) → Afn Z h1 a3 .byte n (fun k => .int (if k < i.toNatClampNeg then (cf k).toInt8.toInt32 else 0)) → Keep h0 h1 [a3] → n0 ≤ h1.size → (¬ i < (0 : Int32) ∧ ¬ n < i ∧ (s6 = .unset ∨ ∃ z, s6 = .val (.int z))) → n.toNatClampNeg - i.toNatClampNeg = d1 → Go p.tables e below PP (T1.setTop (mkF m 3 #[.val (.ref a1), .val (.int i), .val (.ref a3), .val (.int i), .val (.int n), .val (.int i), s6] [])) := by
    clear V1
    clear V3
    clear Zn K
    intro d1
    induction d1 using Nat.strongRecOn with
    | _ d1 ih1 =>
      intro T1 L1 h1 i s6 X1 e1 N1 V1 V3 K Zn hJ3 hd1
      show Go p.tables e below PP (T1.setTop (mkF m 3 #[.val (.ref a1), .val (.int i), .val (.ref a3), .val (.int i), .val (.int n), .val (.int i), s6] []))
      refine Go.st (fun t k => XS.iload X1.here hx rfl (hb hby d15_3) rfl k) ?_
      show Go p.tables e below PP (T1.setTop (mkF m 5 #[.val (.ref a1), .val (.int i), .val (.ref a3), .val (.int i), .val (.int n), .val (.int i), s6] [(.int i)]))
      refine Go.st (fun t k => XS.iload X1.here hx rfl (hb hby d15_5) rfl k) ?_
      show Go p.tables e below PP (T1.setTop (mkF m 7 #[.val (.ref a1), .val (.int i), .val (.ref a3), .val (.int i), .val (.int n), .val (.int i), s6] [(.int n), (.int i)]))
      by_cases hc7 : i < n
      · --
        refine Go.st (fun t k => XS.icmpNo X1.here hx rfl (hb hby d15_7) rfl (XT.ii_ge_f hc7) k) ?_
        show Go p.tables e below PP (T1.setTop (mkF m 10 #[.val (.ref a1), .val (.int i), .val (.ref a3), .val (.int i), .val (.int n), .val (.int i), s6] []))
        refine Go.st (fun t k => XS.aloadN X1.here hx rfl (hb hby d15_10) rfl rfl k) ?_
        show Go p.tables e below PP (T1.setTop (mkF m 11 #[.val (.ref a1), .val (.int i), .val (.ref a3), .val (.int i), .val (.int n), .val (.int i), s6] [(.ref a1)]))
        refine Go.st (fun t k => XS.iloadN X1.here hx rfl (hb hby d15_11) rfl k) ?_
        show Go p.tables e below PP (T1.setTop (mkF m 12 #[.val (.ref a1), .val (.int i), .val (.ref a3), .val (.int i), .val (.int n), .val (.int i), s6] [(.int i), (.ref a1)]))
        obtain ⟨cl2, Ar2, S2, Nn2, H2⟩ := id V1
        have hin2 : ¬ (i < 0 ∨ cl2.slots.size ≤ (i).toNatClampNeg) := inb_of S2 ⟨hJ3.1, hc7⟩
        refine Go.st (fun t k => X1.caload hx (j := i) (v := (.int (cf i.toNatClampNeg))) (by rw [e1]; exact Ar2.1) (State.isArrayOf_alike hZ.alike Ar2.2.1) Ar2.2.2 hin2 ((H2 _ (inbN ⟨hJ3.1, hc7⟩)).1.trans (congrArg some (rfl))) (g := (mkF m 12 #[.val (.ref a1), .val (.int i), .val (.ref a3), .val (.int i), .val (.int n), .val (.int i), s6] [(.int i), (.ref a1)])) rfl rfl (hb hby d15_12) _ k) ?_
        show Go p.tables e below PP (T1.setTop (mkF m 13 #[.val (.ref a1), .val (.int i), .val (.ref a3), .val (.int i), .val (.int n), .val (.int i), s6] [(.int (cf i.toNatClampNeg))]))
        refine Go.st (fun t k => XS.istore X1.here hx rfl (hb hby d15_13) rfl (l' := #[.val (.ref a1), .val (.int i), .val (.ref a3), .val (.int i), .val (.int n), .val (.int i), .val (.int (cf i.toNatClampNeg))]) (by rcases hJ3.2.2 with rfl | ⟨z, rfl⟩ <;> rfl) k) ?_
        show Go p.tables e below PP (T1.setTop (mkF m 15 #[.val (.ref a1), .val (.int i), .val (.ref a3), .val (.int i), .val (.int n), .val (.int i), .val (.int (cf i.toNatClampNeg))] []))
        refine Go.st (fun t k => XS.iload X1.here hx rfl (hb hby d15_15) rfl k) ?_
        show Go p.tables e below PP (T1.setTop (mkF m 17 #[.val (.ref a1), .val (.int i), .val (.ref a3), .val (.int i), .val (.int n), .val (.int i), .val (.int (cf i.toNatClampNeg))] [(.int (cf i.toNatClampNeg))]))
        refine Go.st (fun t k => XS.sipush X1.here hx rfl (hb hby d15_17) k) ?_
        show Go p.tables e below PP (T1.setTop (mkF m 20 #[.val (.ref a1), .val (.int i), .val (.ref a3), .val (.int i), .val (.int n), .val (.int i), .val (.int (cf i.toNatClampNeg))] [(.int (255 : Int32)), (.int (cf i.toNatClampNeg))]))
        refine Go.st (fun t k => XS.icmpYes X1.here hx rfl (pc0 := 20) (pc' := 26) rfl (hb hby d15_20) rfl (XT.ii_le_t (hcb _ (inbN ⟨hJ3.1, hc7⟩)).2) (by decide) (by decide) k) ?_
        show Go p.tables e below PP (T1.setTop (mkF m 26 #[.val (.ref a1), .val (.int i), .val (.ref a3), .val (.int i), .val (.int n), .val (.int i), .val (.int (cf i.toNatClampNeg))] []))
        refine Go.st (fun t k => XS.aloadN X1.here hx rfl (hb hby d15_26) rfl rfl k) ?_
        show Go p.tables e below PP (T1.setTop (mkF m 27 #[.val (.ref a1), .val (.int i), .val (.ref a3), .val (.int i), .val (.int n), .val (.int i), .val (.int (cf i.toNatClampNeg))] [(.ref a3)]))
        refine Go.st (fun t k => XS.iloadN X1.here hx rfl (hb hby d15_27) rfl k) ?_
        show Go p.tables e below PP (T1.setTop (mkF m 28 #[.val (.ref a1), .val (.int i), .val (.ref a3), .val (.int i), .val (.int n), .val (.int i), .val (.int (cf i.toNatClampNeg))] [(.int i), (.ref a3)]))
        refine Go.st (fun t k => XS.iload X1.here hx rfl (hb hby d15_28) rfl k) ?_
        show Go p.tables e below PP (T1.setTop (mkF m 30 #[.val (.ref a1), .val (.int i), .val (.ref a3), .val (.int i), .val (.int n), .val (.int i), .val (.int (cf i.toNatClampNeg))] [(.int (cf i.toNatClampNeg)), (.int i), (.ref a3)]))
        refine Go.st (fun t k => XS.i2b X1.here hx rfl (hb hby d15_30) rfl k) ?_
        show Go p.tables e below PP (T1.setTop (mkF m 31 #[.val (.ref a1), .val (.int i), .val (.ref a3), .val (.int i), .val (.int n), .val (.int i), .val (.int (cf i.toNatClampNeg))] [(.int ((cf i.toNatClampNeg).toInt8.toInt32)), (.int i), (.ref a3)]))
        obtain ⟨cl3, Ar3, S3, Nn3, H3⟩ := id V3
        have hin3 : ¬ (i < 0 ∨ cl3.slots.size ≤ (i).toNatClampNeg) := inb_of S3 ⟨hJ3.1, hc7⟩
        obtain ⟨T3, h3, X3, e3, W3, st3⟩ := stB X1 hx hZ e1 Ar3 (j := i) hin3 (g := (mkF m 31 #[.val (.ref a1), .val (.int i), .val (.ref a3), .val (.int i), .val (.int n), .val (.int i), .val (.int (cf i.toNatClampNeg))] [(.int ((cf i.toNatClampNeg).toInt8.toInt32)), (.int i), (.ref a3)])) rfl rfl (hb hby d15_31)
        refine Go.st st3 ?_
        have N3 := Fr.snoc X3 N1 g3
        replace V1 := V1.other W3 hne
        replace K := K.wr W3 (Or.inl (List.mem_of_getElem? (i := 0) rfl))
        replace Zn : n0 ≤ h3.size := by rw [W3.size]; exact Zn
        replace V3 := Afn.set Ar3 S3 Nn3 H3 (fits_nar_byte _) W3
        show Go p.tables e below PP (T3.setTop (mkF m 32 #[.val (.ref a1), .val (.int i), .val (.ref a3), .val (.int i), .val (.int n), .val (.int i), .val (.int (cf i.toNatClampNeg))] []))
        refine Go.st (fun t k => XS.iinc X3.here hx rfl (hb hby d15_32) rfl (l' := #[.val (.ref a1), .val (.int (i + (1 : Int32))), .val (.ref a3), .val (.int i), .val (.int n), .val (.int i), .val (.int (cf i.toNatClampNeg))]) rfl k) ?_
        show Go p.tables e below PP (T3.setTop (mkF m 35 #[.val (.ref a1), .val (.int (i + (1 : Int32))), .val (.ref a3), .val (.int i), .val (.int n), .val (.int i), .val (.int (cf i.toNatClampNeg))] []))
        refine Go.st (fun t k => XS.iinc X3.here hx rfl (hb hby d15_35) rfl (l' := #[.val (.ref a1), .val (.int (i + (1 : Int32))), .val (.ref a3), .val (.int (i + (1 : Int32))), .val (.int n), .val (.int i), .val (.int (cf i.toNatClampNeg))]) rfl k) ?_
        show Go p.tables e below PP (T3.setTop (mkF m 38 #[.val (.ref a1), .val (.int (i + (1 : Int32))), .val (.ref a3), .val (.int (i + (1 : Int32))), .val (.int n), .val (.int i), .val (.int (cf i.toNatClampNeg))] []))
        refine Go.st (fun t k => XS.iinc X3.here hx rfl (hb hby d15_38) rfl (l' := #[.val (.ref a1), .val (.int (i + (1 : Int32))), .val (.ref a3), .val (.int (i + (1 : Int32))), .val (.int n), .val (.int (i + (1 : Int32))), .val (.int (cf i.toNatClampNeg))]) rfl k) ?_
        show Go p.tables e below PP (T3.setTop (mkF m 41 #[.val (.ref a1), .val (.int (i + (1 : Int32))), .val (.ref a3), .val (.int (i + (1 : Int32))), .val (.int n), .val (.int (i + (1 : Int32))), .val (.int (cf i.toNatClampNeg))] []))
        refine Go.st (fun t k => XS.goto X3.here hx rfl (pc0 := 41) (pc' := 3) rfl (hb hby d15_41) (by decide) (by decide) k) ?_
        show Go p.tables e below PP (T3.setTop (mkF m 3 #[.val (.ref a1), .val (.int (i + (1 : Int32))), .val (.ref a3), .val (.int (i + (1 : Int32))), .val (.int n), .val (.int (i + (1 : Int32))), .val (.int (cf i.toNatClampNeg))] []))
        exact ih1 _ (by have q := own_inc _ _ hJ3.1 hc7; omega) _ _ _ _ _ X3 e3 N3 (V1) (V3.congr (fun k _ => by have q := (own_inc _ _ hJ3.1 hc7).2.2.1; rw [q]; exact own_lf cf i k)) K Zn (⟨(own_inc _ _ hJ3.1 hc7).1, (own_inc _ _ hJ3.1 hc7).2.1, Or.inr ⟨_, rfl⟩⟩) rfl
      · --
        refine Go.st (fun t k => XS.icmpYes X1.here hx rfl (pc0 := 7) (pc' := 44) rfl (hb hby d15_7) rfl (XT.ii_ge_t hc7) (by decide) (by decide) k) ?_
        show Go p.tables e below PP (T1.setTop (mkF m 44 #[.val (.ref a1), .val (.int i), .val (.ref a3), .val (.int i), .val (.int n), .val (.int i), s6] []))
        refine Go.st (fun t k => XS.iload X1.here hx rfl (hb hby d15_44) rfl k) ?_
        show Go p.tables e below PP (T1.setTop (mkF m 46 #[.val (.ref a1), .val (.int i), .val (.ref a3), .val (.int i), .val (.int n), .val (.int i), s6] [(.int n)]))
        rw [hPP]
        refine endI X1 hx hlk hret (hb hby d15_46) ?_ (by decide) (by decide)
        show Q15 Z a1 a3 n cf h0 n0 (some (.int n)) T1.heap _
        rw [e1]
        exact ⟨rfl, N1, K, V3.congr (fun k hk => by have q : i = n := Int32.toInt_inj.mp (by have a := hJ3.2.1; rw [Int32.lt_iff_toInt_lt] at a hc7; omega); subst q; simp [hk])⟩
  show Go p.tables e below PP (s₁.setTop (mkF m 3 #[.val (.ref a1), .val (.int (0 : Int32)), .val (.ref a3), .val (.int (0 : Int32)), .val (.int n), .val (.int (0 : Int32)), .unset] []))
  exact J3 _ _ _ _ _ _ X0 e0 N0 (V1) (V3.congr (fun k _ => by simp [Int32.toNatClampNeg])) K Zn (⟨by decide, V1.nn, Or.inl rfl⟩) rfl
theorem d14_0 : decode jdk_52_method_16_code 0 = .ok (.iload_n 2, 1) := by decide +kernel
theorem d14_1 : decode jdk_52_method_16_code 1 = .ok (.newarray .byte, 2) := by decide +kernel
theorem d14_3 : decode jdk_52_method_16_code 3 = .ok (.astore_n 3, 1) := by decide +kernel
theorem d14_4 : decode jdk_52_method_16_code 4 = .ok (.aload_n 0, 1) := by decide +kernel
theorem d14_5 : decode jdk_52_method_16_code 5 = .ok (.iload_n 1, 1) := by decide +kernel
theorem d14_6 : decode jdk_52_method_16_code 6 = .ok (.aload_n 3, 1) := by decide +kernel
theorem d14_7 : decode jdk_52_method_16_code 7 = .ok (.iconst 0, 1) := by decide +kernel
theorem d14_8 : decode jdk_52_method_16_code 8 = .ok (.iload_n 2, 1) := by decide +kernel
theorem d14_9 : decode jdk_52_method_16_code 9 = .ok (.invokestatic 115, 3) := by decide +kernel
theorem d14_12 : decode jdk_52_method_16_code 12 = .ok (.istore 4, 2) := by decide +kernel
theorem d14_14 : decode jdk_52_method_16_code 14 = .ok (.iload 4, 2) := by decide +kernel
theorem d14_16 : decode jdk_52_method_16_code 16 = .ok (.iload_n 2, 1) := by decide +kernel
theorem d14_17 : decode jdk_52_method_16_code 17 = .ok (.if_icmp .eq 40, 3) := by decide +kernel
theorem d14_20 : decode jdk_52_method_16_code 20 = .ok (.aload_n 0, 1) := by decide +kernel
theorem d14_21 : decode jdk_52_method_16_code 21 = .ok (.iload_n 1, 1) := by decide +kernel
theorem d14_22 : decode jdk_52_method_16_code 22 = .ok (.iload_n 2, 1) := by decide +kernel
theorem d14_23 : decode jdk_52_method_16_code 23 = .ok (.invokestatic 119, 3) := by decide +kernel
theorem d14_26 : decode jdk_52_method_16_code 26 = .ok (.astore 5, 2) := by decide +kernel
theorem d14_28 : decode jdk_52_method_16_code 28 = .ok (.aload 5, 2) := by decide +kernel
theorem d14_30 : decode jdk_52_method_16_code 30 = .ok (.iload 4, 2) := by decide +kernel
theorem d14_32 : decode jdk_52_method_16_code 32 = .ok (.invokestatic 71, 3) := by decide +kernel
theorem d14_35 : decode jdk_52_method_16_code 35 = .ok (.sipush 255, 3) := by decide +kernel
theorem d14_38 : decode jdk_52_method_16_code 38 = .ok (.if_icmp .gt 16, 3) := by decide +kernel
theorem d14_41 : decode jdk_52_method_16_code 41 = .ok (.aload 5, 2) := by decide +kernel
theorem d14_43 : decode jdk_52_method_16_code 43 = .ok (.iconst 0, 1) := by decide +kernel
theorem d14_44 : decode jdk_52_method_16_code 44 = .ok (.aload_n 3, 1) := by decide +kernel
theorem d14_45 : decode jdk_52_method_16_code 45 = .ok (.iconst 0, 1) := by decide +kernel
theorem d14_46 : decode jdk_52_method_16_code 46 = .ok (.iload_n 2, 1) := by decide +kernel
theorem d14_47 : decode jdk_52_method_16_code 47 = .ok (.invokestatic 123, 3) := by decide +kernel
theorem d14_50 : decode jdk_52_method_16_code 50 = .ok (.iload_n 2, 1) := by decide +kernel
theorem d14_51 : decode jdk_52_method_16_code 51 = .ok (.if_icmp .eq 6, 3) := by decide +kernel
theorem d14_54 : decode jdk_52_method_16_code 54 = .ok (.aload 5, 2) := by decide +kernel
theorem d14_56 : decode jdk_52_method_16_code 56 = .ok (.areturn, 1) := by decide +kernel
theorem d14_57 : decode jdk_52_method_16_code 57 = .ok (.aload_n 3, 1) := by decide +kernel
theorem d14_58 : decode jdk_52_method_16_code 58 = .ok (.areturn, 1) := by decide +kernel
theorem pn_rm14 : plainName "java/lang/StringUTF16" = true := by first | (simp [plainName, overriddenIn]; done) | decide +kernel
theorem ef_rm14 (m : MethodId) (a1 : Addr) (n : Int32) : entryFrame m #[(.ref a1), (.int (0 : Int32)), (.int n)] 6 = mkF m 0 #[.val (.ref a1), .val (.int (0 : Int32)), .val (.int n), .unset, .unset, .unset] [] := by first | (simp [entryFrame, mkF, argsToLocals, Value.category]; done) | rfl
def Q14 (Z : State) (a1 : Addr) (n : Int32) (cf : Nat → Int32) (h0 : Heap) (n0 : Nat) (v : Option Value) (h : Heap) (L : List Loc) : Prop := (∃ b : Addr, v = some (.ref b) ∧ h0.size ≤ b ∧ Afn Z h b .byte n (fun k => .int ((cf k).toInt8.toInt32))) ∧ Fr n0 L ∧ Keep h0 h []
theorem pd_0 : parseMethodDescriptor "([CI[BII)I" = some ⟨[(.array .char), .int, (.array .byte), .int, .int], some .int⟩ := by decide +kernel
set_option maxRecDepth 65536 in
set_option maxHeartbeats 40000000 in
theorem rm14 (l : Launch) (Z : State) (a0 : Array Value) (hw : ∀ d ∈ tables_1, d.before a0 Z = true) (ws : List Jvm.Cond) (a1 : Addr) (n : Int32) (cf : Nat → Int32) (h0 : Heap) (n0 : Nat) (Z0 : n0 ≤ h0.size) (V1 : Afn Z h0 a1 .char n (fun k => .int (cf k))) (hcb : ∀ k, k < n.toNatClampNeg → ¬ cf k < (0 : Int32) ∧ ¬ (255 : Int32) < cf k) (hcap : n.toNatClampNeg ≤ 7) :
    Con l Z (⟨"java/lang/StringUTF16", "compress", "([CII)[B"⟩ : MethodName) jdk_52_method_16_code 6 (some (.array .byte)) ws ({ frames := 1, cells := 1, slots := 7, locals := 20 } : Room) #[(.ref a1), (.int (0 : Int32)), (.int n)] h0 (Q14 Z a1 n cf h0 n0) := by
  refine Con.of (plainFor_of_name pn_rm14) ?_
  intro p e s m below meth c s₁ hZ e0 X0 hx hby hml hown hnm hret hlk
  replace hml : c.maxLocals = 6 := hml
  have hown : s.vm.findClass "java/lang/StringUTF16" = some m.cls := hown
  have N0 : Fr n0 [] := Fr.nil n0
  obtain ⟨PP, hPP⟩ : ∃ P, P = Fine s below (Q14 Z a1 n cf h0 n0) ({ frames := 1, cells := 1, slots := 7, locals := 20 } : Room).cells ({ frames := 1, cells := 1, slots := 7, locals := 20 } : Room).slots := ⟨_, rfl⟩
  rw [← hPP]
  refine Go.cast (ef_rm14 m a1 n) ?_
  have K : Keep h0 h0 [] := Keep.refl h0 _
  have Zn : n0 ≤ h0.size := Z0
  show Go p.tables e below PP (s₁.setTop (mkF m 0 #[.val (.ref a1), .val (.int (0 : Int32)), .val (.int n), .unset, .unset, .unset] []))
  refine Go.st (fun t k => XS.iloadN X0.here hx rfl (hb hby d14_0) rfl k) ?_
  show Go p.tables e below PP (s₁.setTop (mkF m 1 #[.val (.ref a1), .val (.int (0 : Int32)), .val (.int n), .unset, .unset, .unset] [(.int n)]))
  obtain ⟨T1, h1, k1, X1, e1, E1, A1, st1⟩ := newP X0 hx hZ (hw _ (List.mem_of_getElem? (i := 21) rfl)) e0 (g := (mkF m 1 #[.val (.ref a1), .val (.int (0 : Int32)), .val (.int n), .unset, .unset, .unset] [(.int n)])) rfl (hb hby d14_1) rfl V1.nn (cap := 7) hcap (by decide) (by decide) (by decide)
  obtain ⟨b1, gz1⟩ : ∃ z, z = h0.size := ⟨_, rfl⟩
  rw [← gz1] at A1 st1
  have ne_a1_b1 : a1 ≠ b1 := Nat.ne_of_lt (Nat.lt_of_lt_of_le V1.lt (Nat.le_of_eq gz1.symm))
  have g_b1 : n0 ≤ b1 := Nat.le_trans Zn (Nat.le_of_eq gz1.symm)
  have sz_b1 : h0.size ≤ b1 := Nat.le_trans K.1 (Nat.le_of_eq gz1.symm)
  refine Go.st st1 ?_
  replace V1 := V1.ext E1
  replace K := K.ext E1
  replace Zn := Nat.le_trans Zn E1.1
  have V_b1 : Afn Z h1 b1 .byte n (fun _ => (.int (0 : Int32))) := Afn.new A1 V1.nn
  show Go p.tables e below PP (T1.setTop (mkF m 3 #[.val (.ref a1), .val (.int (0 : Int32)), .val (.int n), .unset, .unset, .unset] [(.ref b1)]))
  refine Go.st (fun t k => XS.astoreN X1.here hx rfl (hb hby d14_3) rfl rfl (l' := #[.val (.ref a1), .val (.int (0 : Int32)), .val (.int n), .val (.ref b1), .unset, .unset]) rfl k) ?_
  show Go p.tables e below PP (T1.setTop (mkF m 4 #[.val (.ref a1), .val (.int (0 : Int32)), .val (.int n), .val (.ref b1), .unset, .unset] []))
  refine Go.st (fun t k => XS.aloadN X1.here hx rfl (hb hby d14_4) rfl rfl k) ?_
  show Go p.tables e below PP (T1.setTop (mkF m 5 #[.val (.ref a1), .val (.int (0 : Int32)), .val (.int n), .val (.ref b1), .unset, .unset] [(.ref a1)]))
  refine Go.st (fun t k => XS.iloadN X1.here hx rfl (hb hby d14_5) rfl k) ?_
  show Go p.tables e below PP (T1.setTop (mkF m 6 #[.val (.ref a1), .val (.int (0 : Int32)), .val (.int n), .val (.ref b1), .unset, .unset] [(.int (0 : Int32)), (.ref a1)]))
  refine Go.st (fun t k => XS.aloadN X1.here hx rfl (hb hby d14_6) rfl rfl k) ?_
  show Go p.tables e below PP (T1.setTop (mkF m 7 #[.val (.ref a1), .val (.int (0 : Int32)), .val (.int n), .val (.ref b1), .unset, .unset] [(.ref b1), (.int (0 : Int32)), (.ref a1)]))
  refine Go.st (fun t k => XS.iconst X1.here hx rfl (hb hby d14_7) k) ?_
  show Go p.tables e below PP (T1.setTop (mkF m 8 #[.val (.ref a1), .val (.int (0 : Int32)), .val (.int n), .val (.ref b1), .unset, .unset] [(.int (0 : Int32)), (.ref b1), (.int (0 : Int32)), (.ref a1)]))
  refine Go.st (fun t k => XS.iloadN X1.here hx rfl (hb hby d14_8) rfl k) ?_
  show Go p.tables e below PP (T1.setTop (mkF m 9 #[.val (.ref a1), .val (.int (0 : Int32)), .val (.int n), .val (.ref b1), .unset, .unset] [(.int n), (.int (0 : Int32)), (.ref b1), (.int (0 : Int32)), (.ref a1)]))
  obtain ⟨v2, T2, L2, X2, hQ2, st2⟩ := callSt X1 hx hZ (y := (⟨"java/lang/StringUTF16", "compress", "([CI[BII)I"⟩ : MethodName)) (argsL := [(.ref a1), (.int (0 : Int32)), (.ref b1), (.int (0 : Int32)), (.int n)]) (rest := []) hown (hw _ (List.mem_of_getElem? (i := 73) rfl)) (hw _ (List.mem_of_getElem? (i := 74) rfl)) (hw _ (List.mem_of_getElem? (i := 71) rfl)) (hw _ (List.mem_of_getElem? (i := 75) rfl)) (by decide) (rm15 l Z a0 hw [] a1 b1 n cf h1 n0 Zn V1 V_b1 hcb ne_a1_b1 g_b1) e1 0 (by decide) (by decide) (by decide) (by decide) (g := (mkF m 9 #[.val (.ref a1), .val (.int (0 : Int32)), .val (.int n), .val (.ref b1), .unset, .unset] [(.int n), (.int (0 : Int32)), (.ref b1), (.int (0 : Int32)), (.ref a1)])) rfl (by rw [hml]; rfl) (lenOf pd_0 rfl) rfl (by show 2 * 0 + _ ≤ _; exact Nat.le_of_eq rfl) (hb hby d14_9)
  obtain ⟨h2, e2⟩ : ∃ z, T2.heap = z := ⟨_, rfl⟩
  rw [e2] at hQ2
  obtain ⟨rfl, Nq2, Kq2, Vq2⟩ := hQ2
  have N2 := Fr.app N0 Nq2
  replace V1 := V1.keep Kq2 (ninS ne_a1_b1 nin0)
  clear V_b1
  replace K := K.trans Kq2 (allS (Or.inr sz_b1) all0)
  replace Zn := Nat.le_trans Zn Kq2.1
  have V_b1 := Vq2
  refine Go.st st2 ?_
  show Go p.tables e below PP (T2.setTop (mkF m 12 #[.val (.ref a1), .val (.int (0 : Int32)), .val (.int n), .val (.ref b1), .unset, .unset] [(.int n)]))
  refine Go.st (fun t k => XS.istore X2.here hx rfl (hb hby d14_12) rfl (l' := #[.val (.ref a1), .val (.int (0 : Int32)), .val (.int n), .val (.ref b1), .val (.int n), .unset]) rfl k) ?_
  show Go p.tables e below PP (T2.setTop (mkF m 14 #[.val (.ref a1), .val (.int (0 : Int32)), .val (.int n), .val (.ref b1), .val (.int n), .unset] []))
  refine Go.st (fun t k => XS.iload X2.here hx rfl (hb hby d14_14) rfl k) ?_
  show Go p.tables e below PP (T2.setTop (mkF m 16 #[.val (.ref a1), .val (.int (0 : Int32)), .val (.int n), .val (.ref b1), .val (.int n), .unset] [(.int n)]))
  refine Go.st (fun t k => XS.iloadN X2.here hx rfl (hb hby d14_16) rfl k) ?_
  show Go p.tables e below PP (T2.setTop (mkF m 17 #[.val (.ref a1), .val (.int (0 : Int32)), .val (.int n), .val (.ref b1), .val (.int n), .unset] [(.int n), (.int n)]))
  refine Go.st (fun t k => XS.icmpYes X2.here hx rfl (pc0 := 17) (pc' := 57) rfl (hb hby d14_17) rfl (XT.ii_eq_t rfl) (by decide) (by decide) k) ?_
  show Go p.tables e below PP (T2.setTop (mkF m 57 #[.val (.ref a1), .val (.int (0 : Int32)), .val (.int n), .val (.ref b1), .val (.int n), .unset] []))
  refine Go.st (fun t k => XS.aloadN X2.here hx rfl (hb hby d14_57) rfl rfl k) ?_
  show Go p.tables e below PP (T2.setTop (mkF m 58 #[.val (.ref a1), .val (.int (0 : Int32)), .val (.int n), .val (.ref b1), .val (.int n), .unset] [(.ref b1)]))
  rw [hPP]
  refine endR X2 hx hlk hret rfl rfl (hb hby d14_58) ?_ (by decide) (by decide)
  show Q14 Z a1 n cf h0 n0 (some (.ref b1)) T2.heap _
  rw [e2]
  exact ⟨⟨_, rfl, sz_b1, V_b1⟩, N2, K⟩
theorem d16_0 : decode jdk_52_method_15_code 0 = .ok (.iload_n 1, 1) := by decide +kernel
theorem d16_1 : decode jdk_52_method_15_code 1 = .ok (.aload_n 0, 1) := by decide +kernel
theorem d16_2 : decode jdk_52_method_15_code 2 = .ok (.arraylength, 1) := by decide +kernel
theorem d16_3 : decode jdk_52_method_15_code 3 = .ok (.isub, 1) := by decide +kernel
theorem d16_4 : decode jdk_52_method_15_code 4 = .ok (.bipush 31, 2) := by decide +kernel
theorem d16_6 : decode jdk_52_method_15_code 6 = .ok (.iushr, 1) := by decide +kernel
theorem d16_7 : decode jdk_52_method_15_code 7 = .ok (.i2b, 1) := by decide +kernel
theorem d16_8 : decode jdk_52_method_15_code 8 = .ok (.ireturn, 1) := by decide +kernel
theorem pn_rm16 : plainName "java/lang/StringUTF16" = true := by first | (simp [plainName, overriddenIn]; done) | decide +kernel
theorem ef_rm16 (m : MethodId) (a1 : Addr) (n : Int32) : entryFrame m #[(.ref a1), (.int n)] 2 = mkF m 0 #[.val (.ref a1), .val (.int n)] [] := by first | (simp [entryFrame, mkF, argsToLocals, Value.category]; done) | rfl
def Q16 (Z : State) (a1 : Addr) (n : Int32) (f : Nat → Value) (h0 : Heap) (n0 : Nat) (v : Option Value) (h : Heap) (L : List Loc) : Prop := v = some (.int (0 : Int32)) ∧ L = [] ∧ h = h0
set_option maxRecDepth 65536 in
set_option maxHeartbeats 40000000 in
theorem rm16 (l : Launch) (Z : State) (a0 : Array Value) (hw : ∀ d ∈ tables_1, d.before a0 Z = true) (ws : List Jvm.Cond) (a1 : Addr) (n : Int32) (f : Nat → Value) (h0 : Heap) (n0 : Nat) (Z0 : n0 ≤ h0.size) (V1 : Afn Z h0 a1 .byte n f) :
    Con l Z (⟨"java/lang/StringUTF16", "coderFromArrayLen", "([BI)B"⟩ : MethodName) jdk_52_method_15_code 2 (some .byte) ws ({ frames := 0, cells := 0, slots := 0, locals := 0 } : Room) #[(.ref a1), (.int n)] h0 (Q16 Z a1 n f h0 n0) := by
  refine Con.of (plainFor_of_name pn_rm16) ?_
  intro p e s m below meth c s₁ hZ e0 X0 hx hby hml hown hnm hret hlk
  replace hml : c.maxLocals = 2 := hml
  have hown : s.vm.findClass "java/lang/StringUTF16" = some m.cls := hown
  have N0 : Fr n0 [] := Fr.nil n0
  obtain ⟨PP, hPP⟩ : ∃ P, P = Fine s below (Q16 Z a1 n f h0 n0) ({ frames := 0, cells := 0, slots := 0, locals := 0 } : Room).cells ({ frames := 0, cells := 0, slots := 0, locals := 0 } : Room).slots := ⟨_, rfl⟩
  rw [← hPP]
  refine Go.cast (ef_rm16 m a1 n) ?_
  have Zn : n0 ≤ h0.size := Z0
  show Go p.tables e below PP (s₁.setTop (mkF m 0 #[.val (.ref a1), .val (.int n)] []))
  refine Go.st (fun t k => XS.iloadN X0.here hx rfl (hb hby d16_0) rfl k) ?_
  show Go p.tables e below PP (s₁.setTop (mkF m 1 #[.val (.ref a1), .val (.int n)] [(.int n)]))
  refine Go.st (fun t k => XS.aloadN X0.here hx rfl (hb hby d16_1) rfl rfl k) ?_
  show Go p.tables e below PP (s₁.setTop (mkF m 2 #[.val (.ref a1), .val (.int n)] [(.ref a1), (.int n)]))
  obtain ⟨cl1, Ar1, S1, Nn1, -⟩ := id V1
  refine Go.st (fun t k => X0.arraylength hx (by rw [e0]; exact Ar1.1) (State.isArrayOf_alike hZ.alike Ar1.2.1) (g := (mkF m 2 #[.val (.ref a1), .val (.int n)] [(.ref a1), (.int n)])) rfl rfl (hb hby d16_2) _ k) ?_
  rw [len_of S1 Nn1]
  show Go p.tables e below PP (s₁.setTop (mkF m 3 #[.val (.ref a1), .val (.int n)] [(.int n), (.int n)]))
  refine Go.st (fun t k => XS.isub X0.here hx rfl (hb hby d16_3) rfl k) ?_
  show Go p.tables e below PP (s₁.setTop (mkF m 4 #[.val (.ref a1), .val (.int n)] [(.int (n - n))]))
  refine Go.st (fun t k => XS.bipush X0.here hx rfl (hb hby d16_4) k) ?_
  show Go p.tables e below PP (s₁.setTop (mkF m 6 #[.val (.ref a1), .val (.int n)] [(.int (31 : Int32)), (.int (n - n))]))
  refine Go.st (fun t k => XS.iushr X0.here hx rfl (hb hby d16_6) rfl k) ?_
  show Go p.tables e below PP (s₁.setTop (mkF m 7 #[.val (.ref a1), .val (.int n)] [(.int (((n - n).toUInt32 >>> ((31 : Int32) &&& 31).toUInt32).toInt32))]))
  refine Go.st (fun t k => XS.i2b X0.here hx rfl (hb hby d16_7) rfl k) ?_
  show Go p.tables e below PP (s₁.setTop (mkF m 8 #[.val (.ref a1), .val (.int n)] [(.int ((((n - n).toUInt32 >>> ((31 : Int32) &&& 31).toUInt32).toInt32).toInt8.toInt32))]))
  rw [hPP]
  refine endN X0 hx hlk (t := .byte) hret (by simp) (hb hby d16_8) (w := (0 : Int32)) (by rw [Int32.sub_self]; rfl) ?_ (by decide) (by decide)
  show Q16 Z a1 n f h0 n0 (some (.int (0 : Int32))) s₁.heap _
  rw [e0]
  exact ⟨rfl, rfl, rfl⟩
theorem strA {Z : State} {a0 : Array Value} (hw : ∀ d ∈ tables_1, d.before a0 Z = true) : ∀ d ∈ Bundle.stringAtoms, d.before a0 Z = true := by
  intro d hd
  simp only [Bundle.stringAtoms, List.mem_cons, List.not_mem_nil, or_false] at hd
  rcases hd with rfl | rfl | rfl | rfl | rfl | rfl | rfl
  · exact (hw _ (List.mem_of_getElem? (i := 9) rfl))
  · exact (hw _ (List.mem_of_getElem? (i := 8) rfl))
  · exact (hw _ (List.mem_of_getElem? (i := 21) rfl))
  · exact (hw _ (List.mem_of_getElem? (i := 22) rfl))
  · exact (hw _ (List.mem_of_getElem? (i := 23) rfl))
  · exact (hw _ (List.mem_of_getElem? (i := 24) rfl))
  · exact (hw _ (List.mem_of_getElem? (i := 25) rfl))
theorem safe_str {Z : State} {EL : List (String × Nat)} {vm : Vm} {h : Heap} {a : Addr} (hal : Z.vm.Alike vm) (E : Exa Z h a "java/lang/String") (F : Fld Z h a "java/lang/String" "value" "[B" .null) : Safe Z EL vm h a := by
  rintro ⟨p, hp, u, a', hb, q, hq, B, hy⟩
  obtain ⟨cell, cf, kf, i, f, f1, f2, f3, f4, f5, f6, f7⟩ := F
  obtain ⟨cE, kE, e1, e2, e3, e4, e5⟩ := E
  cases f1.symm.trans e1
  rcases hy with rfl | rfl
  · have ha := B.ha
    obtain ⟨cS, ⟨⟨-, -, -, ⟨c1, k1, i1, g1, -⟩, -, -, -, v1, -⟩, -⟩, -⟩ := B
    have ha' : h[q.sa]? = some q.sC := ha
    cases f1.symm.trans ha'
    obtain ⟨k3, e6, -⟩ := State.fieldFound?_setVm (s := Z) hal f2
    have e7 := (show (Wst Z vm h).fieldFound? _ _ _ = _ from e6).symm.trans g1
    simp only [Option.some.injEq, Prod.mk.injEq] at e7
    rw [← e7.2.2.2, f7] at v1
    cases v1
  · have hd := B.hd
    obtain ⟨cS, -, -, h4, -⟩ := B
    have hd' : h[q.sd]? = some q.SA := hd
    cases f1.symm.trans hd'
    have h5 : vm.findClass "[B" = some q.SA.cls := h4
    rw [hal.findClass] at h5
    exact ids_ne e2 h5 (by decide) rfl
theorem d3_0 : decode jdk_42_method_149_code 0 = .ok (.aload_n 0, 1) := by decide +kernel
theorem d3_1 : decode jdk_42_method_149_code 1 = .ok (.invokespecial 1, 3) := by decide +kernel
theorem d3_4 : decode jdk_42_method_149_code 4 = .ok (.iload_n 3, 1) := by decide +kernel
theorem d3_5 : decode jdk_42_method_149_code 5 = .ok (.ifCond .ne 22, 3) := by decide +kernel
theorem d3_8 : decode jdk_42_method_149_code 8 = .ok (.aload_n 0, 1) := by decide +kernel
theorem d3_9 : decode jdk_42_method_149_code 9 = .ok (.ldc 7, 2) := by decide +kernel
theorem d3_11 : decode jdk_42_method_149_code 11 = .ok (.getfield 9, 3) := by decide +kernel
theorem d3_14 : decode jdk_42_method_149_code 14 = .ok (.putfield 9, 3) := by decide +kernel
theorem d3_17 : decode jdk_42_method_149_code 17 = .ok (.aload_n 0, 1) := by decide +kernel
theorem d3_18 : decode jdk_42_method_149_code 18 = .ok (.ldc 7, 2) := by decide +kernel
theorem d3_20 : decode jdk_42_method_149_code 20 = .ok (.getfield 15, 3) := by decide +kernel
theorem d3_23 : decode jdk_42_method_149_code 23 = .ok (.putfield 15, 3) := by decide +kernel
theorem d3_26 : decode jdk_42_method_149_code 26 = .ok (.return_, 1) := by decide +kernel
theorem d3_27 : decode jdk_42_method_149_code 27 = .ok (.getstatic 38, 3) := by decide +kernel
theorem d3_30 : decode jdk_42_method_149_code 30 = .ok (.ifCond .eq 28, 3) := by decide +kernel
theorem d3_33 : decode jdk_42_method_149_code 33 = .ok (.aload_n 1, 1) := by decide +kernel
theorem d3_34 : decode jdk_42_method_149_code 34 = .ok (.iload_n 2, 1) := by decide +kernel
theorem d3_35 : decode jdk_42_method_149_code 35 = .ok (.iload_n 3, 1) := by decide +kernel
theorem d3_36 : decode jdk_42_method_149_code 36 = .ok (.invokestatic 177, 3) := by decide +kernel
theorem d3_39 : decode jdk_42_method_149_code 39 = .ok (.astore 5, 2) := by decide +kernel
theorem d3_41 : decode jdk_42_method_149_code 41 = .ok (.aload_n 0, 1) := by decide +kernel
theorem d3_42 : decode jdk_42_method_149_code 42 = .ok (.aload 5, 2) := by decide +kernel
theorem d3_44 : decode jdk_42_method_149_code 44 = .ok (.iload_n 3, 1) := by decide +kernel
theorem d3_45 : decode jdk_42_method_149_code 45 = .ok (.invokestatic 47, 3) := by decide +kernel
theorem d3_48 : decode jdk_42_method_149_code 48 = .ok (.putfield 15, 3) := by decide +kernel
theorem d3_51 : decode jdk_42_method_149_code 51 = .ok (.aload_n 0, 1) := by decide +kernel
theorem d3_52 : decode jdk_42_method_149_code 52 = .ok (.aload 5, 2) := by decide +kernel
theorem d3_54 : decode jdk_42_method_149_code 54 = .ok (.putfield 9, 3) := by decide +kernel
theorem d3_57 : decode jdk_42_method_149_code 57 = .ok (.return_, 1) := by decide +kernel
theorem d3_58 : decode jdk_42_method_149_code 58 = .ok (.aload_n 0, 1) := by decide +kernel
theorem d3_59 : decode jdk_42_method_149_code 59 = .ok (.iconst 1, 1) := by decide +kernel
theorem d3_60 : decode jdk_42_method_149_code 60 = .ok (.putfield 15, 3) := by decide +kernel
theorem d3_63 : decode jdk_42_method_149_code 63 = .ok (.aload_n 0, 1) := by decide +kernel
theorem d3_64 : decode jdk_42_method_149_code 64 = .ok (.aload_n 1, 1) := by decide +kernel
theorem d3_65 : decode jdk_42_method_149_code 65 = .ok (.iload_n 2, 1) := by decide +kernel
theorem d3_66 : decode jdk_42_method_149_code 66 = .ok (.iload_n 3, 1) := by decide +kernel
theorem d3_67 : decode jdk_42_method_149_code 67 = .ok (.invokestatic 180, 3) := by decide +kernel
theorem d3_70 : decode jdk_42_method_149_code 70 = .ok (.putfield 9, 3) := by decide +kernel
theorem d3_73 : decode jdk_42_method_149_code 73 = .ok (.return_, 1) := by decide +kernel
theorem pn_rmSI : plainName "java/lang/String" = true := by first | (simp [plainName, overriddenIn]; done) | decide +kernel
theorem ef_rmSI (m : MethodId) (a1 : Addr) (a2 : Addr) (n : Int32) : entryFrame m #[(.ref a1), (.ref a2), (.int (0 : Int32)), (.int n), .null] 6 = mkF m 0 #[.val (.ref a1), .val (.ref a2), .val (.int (0 : Int32)), .val (.int n), .val .null, .unset] [] := by first | (simp [entryFrame, mkF, argsToLocals, Value.category]; done) | rfl
def QSI (Z : State) (a1 : Addr) (a2 : Addr) (n : Int32) (cf : Nat → Int32) (zc : Int32) (h0 : Heap) (n0 : Nat) (v : Option Value) (h : Heap) (L : List Loc) : Prop := v = none ∧ Fr n0 L ∧ Keep h0 h [a1] ∧ Exa Z h a1 "java/lang/String" ∧ Fld Z h a1 "java/lang/String" "coder" "B" (.int (0 : Int32)) ∧ ∃ t : Addr, Fld Z h a1 "java/lang/String" "value" "[B" (.ref t) ∧ Afn Z h t .byte n (fun k => .int ((cf k).toInt8.toInt32))
theorem pd_1 : parseMethodDescriptor "([CII)[B" = some ⟨[(.array .char), .int, .int], some (.array .byte)⟩ := by decide +kernel
theorem pd_2 : parseMethodDescriptor "([BI)B" = some ⟨[(.array .byte), .int], some .byte⟩ := by decide +kernel
set_option maxRecDepth 65536 in
set_option maxHeartbeats 40000000 in
theorem rmSI (l : Launch) (Z : State) (a0 : Array Value) (hw : ∀ d ∈ tables_1, d.before a0 Z = true) (ws : List Jvm.Cond) (a1 : Addr) (a2 : Addr) (n : Int32) (cf : Nat → Int32) (zc : Int32) (h0 : Heap) (n0 : Nat) (Z0 : n0 ≤ h0.size) (hEL : EW Z a0 consts_1) (E_a1 : Exa Z h0 a1 "java/lang/String") (F_value_a1 : Fld Z h0 a1 "java/lang/String" "value" "[B" .null) (F_coder_a1 : Fld Z h0 a1 "java/lang/String" "coder" "B" (.int (0 : Int32))) (g_a1 : n0 ≤ a1) (V2 : Afn Z h0 a2 .char n (fun k => .int (cf k))) (hcb : ∀ k, k < n.toNatClampNeg → ¬ cf k < (0 : Int32) ∧ ¬ (255 : Int32) < cf k) (hcap : n.toNatClampNeg ≤ 7) (hne : a1 ≠ a2) (SC : Sta Z Z.heap "java/lang/String" "COMPACT_STRINGS" "Z" (.int zc)) (hzc : ¬ zc = (0 : Int32)) (O : Old Z n0 h0) :
    ConH l Z consts_1 (⟨"java/lang/String", "<init>", "([CIILjava/lang/Void;)V"⟩ : MethodName) jdk_42_method_149_code 6 none ws ({ frames := 2, cells := 4, slots := 8, locals := 37 } : Room) #[(.ref a1), (.ref a2), (.int (0 : Int32)), (.int n), .null] h0 (QSI Z a1 a2 n cf zc h0 n0) := by
  refine ConH.of (plainFor_of_name pn_rmSI) ?_
  intro p e s m below meth c s₁ vm0 k0 hZ e0 X0 hx hby hml hown hnm hret hlk hS hk CH CR
  replace hml : c.maxLocals = 6 := hml
  have hown : vm0.findClass "java/lang/String" = some m.cls := hown
  have N0 : Fr n0 [] := Fr.nil n0
  obtain ⟨PP, hPP⟩ : ∃ P, P = FineW Z consts_1 s below (QSI Z a1 a2 n cf zc h0 n0) ({ frames := 2, cells := 4, slots := 8, locals := 37 } : Room).cells ({ frames := 2, cells := 4, slots := 8, locals := 37 } : Room).slots := ⟨_, rfl⟩
  rw [← hPP]
  refine Go.cast (ef_rmSI m a1 a2 n) ?_
  have K : Keep h0 h0 [a1] := Keep.refl h0 _
  have Zn : n0 ≤ h0.size := Z0
  have SF_a1 : Safe Z consts_1 vm0 h0 a1 := safe_str hZ.alike E_a1 F_value_a1
  show Go p.tables e below PP (s₁.setTop (mkF m 0 #[.val (.ref a1), .val (.ref a2), .val (.int (0 : Int32)), .val (.int n), .val .null, .unset] []))
  refine Go.st (fun t k => XS.aloadN X0.here hx rfl (hb hby d3_0) rfl rfl k) ?_
  show Go p.tables e below PP (s₁.setTop (mkF m 1 #[.val (.ref a1), .val (.ref a2), .val (.int (0 : Int32)), .val (.int n), .val .null, .unset] [(.ref a1)]))
  obtain ⟨T1, X1, e1, st1⟩ := initO X0 hx hZ hown (hw _ (List.mem_of_getElem? (i := 17) rfl)) (hw _ (List.mem_of_getElem? (i := 18) rfl)) (hw _ (List.mem_of_getElem? (i := 19) rfl)) e0 (g := (mkF m 1 #[.val (.ref a1), .val (.ref a2), .val (.int (0 : Int32)), .val (.int n), .val .null, .unset] [(.ref a1)])) rfl (by rw [hml]; rfl) rfl (hb hby d3_1) (by decide) (W := 0) (by show 2 * 0 + _ ≤ _; exact Nat.le_of_eq rfl) (by decide)
  refine Go.st st1 ?_
  show Go p.tables e below PP (T1.setTop (mkF m 4 #[.val (.ref a1), .val (.ref a2), .val (.int (0 : Int32)), .val (.int n), .val .null, .unset] []))
  refine Go.st (fun t k => XS.iloadN X1.here hx rfl (hb hby d3_4) rfl k) ?_
  show Go p.tables e below PP (T1.setTop (mkF m 5 #[.val (.ref a1), .val (.ref a2), .val (.int (0 : Int32)), .val (.int n), .val .null, .unset] [(.int n)]))
  by_cases hc5 : n = (0 : Int32)
  · --
    refine Go.st (fun t k => XS.ifNo X1.here hx rfl (hb hby d3_5) rfl (XT.i0_ne_f hc5) k) ?_
    show Go p.tables e below PP (T1.setTop (mkF m 8 #[.val (.ref a1), .val (.ref a2), .val (.int (0 : Int32)), .val (.int n), .val .null, .unset] []))
    refine Go.st (fun t k => XS.aloadN X1.here hx rfl (hb hby d3_8) rfl rfl k) ?_
    show Go p.tables e below PP (T1.setTop (mkF m 9 #[.val (.ref a1), .val (.ref a2), .val (.int (0 : Int32)), .val (.int n), .val .null, .unset] [(.ref a1)]))
    obtain ⟨sa2, T2, h2, kk2, sb2, kc2, X2, e2, E2, hS2, hk2, hZ2, hown2, Es2, Fc2, Fv2, As2, -, -, hC2, -, nS2, st2⟩ := ldcCH X1 hx hZ hown (hw _ (List.mem_of_getElem? (i := 20) rfl)) (strA hw) e1 hS hk hEL (List.mem_of_getElem? (i := 0) rfl) CH (vs := []) (z := (0 : Int32)) (by decide) (by decide) (by decide) (g := (mkF m 9 #[.val (.ref a1), .val (.ref a2), .val (.int (0 : Int32)), .val (.int n), .val .null, .unset] [(.ref a1)])) rfl (hb hby d3_9) (n := 0) (by decide) (by decide) (by decide) (by decide)
    have lt_a1 := E_a1.lt
    replace E_a1 := E_a1.ext E2
    replace F_value_a1 := F_value_a1.ext E2
    replace F_coder_a1 := F_coder_a1.ext E2
    replace V2 := V2.ext E2
    replace O := O.ext E2
    replace K := K.ext E2
    replace SF_a1 := hC2.safe lt_a1 SF_a1
    have ne_a1_sa2 : a1 ≠ sa2 := (nS2 _ SF_a1).1
    have ne_a1_sb2 : a1 ≠ sb2 := (nS2 _ SF_a1).2
    replace Zn := Nat.le_trans Zn E2.1
    replace CR := CR.trans hC2
    replace CH := hC2.1
    replace hS := hS2
    replace hk := hk2
    replace hZ := hZ2
    replace hown := hown2
    refine Go.st st2 ?_
    replace As2 := Afn.of_arv As2
    show Go p.tables e below PP (T2.setTop (mkF m 11 #[.val (.ref a1), .val (.ref a2), .val (.int (0 : Int32)), .val (.int n), .val .null, .unset] [(.ref sa2), (.ref a1)]))
    obtain ⟨T3, X3, e3, st3⟩ := getF X2 hx hZ hown (host := "") (Or.inl (hw _ (List.mem_of_getElem? (i := 26) rfl))) Via.refl e2 Fv2 (g := (mkF m 11 #[.val (.ref a1), .val (.ref a2), .val (.int (0 : Int32)), .val (.int n), .val .null, .unset] [(.ref sa2), (.ref a1)])) rfl rfl (hb hby d3_11)
    refine Go.st st3 ?_
    show Go p.tables e below PP (T3.setTop (mkF m 14 #[.val (.ref a1), .val (.ref a2), .val (.int (0 : Int32)), .val (.int n), .val .null, .unset] [(.ref sb2), (.ref a1)]))
    obtain ⟨T4, h4, X4, e4, W4, st4⟩ := putF X3 hx hZ hown (host := "") (Or.inl (hw _ (List.mem_of_getElem? (i := 26) rfl))) Via.refl e3 F_value_a1 E_a1 (Or.inr ⟨(hw _ (List.mem_of_getElem? (i := 22) rfl)), rfl, hnm⟩) (hw _ (List.mem_of_getElem? (i := 8) rfl)) (ty := (.array .byte)) (by decide) rfl rfl (g := (mkF m 14 #[.val (.ref a1), .val (.ref a2), .val (.int (0 : Int32)), .val (.int n), .val .null, .unset] [(.ref sb2), (.ref a1)])) rfl rfl (hb hby d3_14)
    refine Go.st st4 ?_
    have N4 := Fr.snoc X4 N0 g_a1
    replace E_a1 := E_a1.wr W4
    replace F_coder_a1 := F_coder_a1.other W4 (Or.inr (slot_ne (a0 := a0) (Or.inr (hw _ (List.mem_of_getElem? (i := 23) rfl))) (Or.inr (hw _ (List.mem_of_getElem? (i := 22) rfl))) (by decide) (t := .byte) (t' := (.array .byte)) (by decide) (by decide)))
    replace V2 := V2.other W4 (Ne.symm hne)
    replace Es2 := Es2.wr W4
    replace Fc2 := Fc2.other W4 (Or.inl (Ne.symm ne_a1_sa2))
    replace Fv2 := Fv2.other W4 (Or.inl (Ne.symm ne_a1_sa2))
    replace As2 := As2.other W4 (Ne.symm ne_a1_sb2)
    replace CR := CR.trans (CHr.wr W4 SF_a1 CH)
    have CH' := CH.wr W4 SF_a1
    replace SF_a1 := Safe.wr W4 SF_a1 CH SF_a1
    replace CH := CH'
    clear CH'
    replace hk : kk2 ≤ h4.size := by rw [W4.size]; exact hk
    replace O := O.wr W4 g_a1
    replace K := K.wr W4 (Or.inl (List.mem_of_getElem? (i := 0) rfl))
    replace Zn : n0 ≤ h4.size := by rw [W4.size]; exact Zn
    replace F_value_a1 := F_value_a1.same W4
    show Go p.tables e below PP (T4.setTop (mkF m 17 #[.val (.ref a1), .val (.ref a2), .val (.int (0 : Int32)), .val (.int n), .val .null, .unset] []))
    refine Go.st (fun t k => XS.aloadN X4.here hx rfl (hb hby d3_17) rfl rfl k) ?_
    show Go p.tables e below PP (T4.setTop (mkF m 18 #[.val (.ref a1), .val (.ref a2), .val (.int (0 : Int32)), .val (.int n), .val .null, .unset] [(.ref a1)]))
    obtain ⟨sa5, T5, h5, kk5, sb5, kc5, X5, e5, E5, hS5, hk5, hZ5, hown5, Es5, Fc5, Fv5, As5, -, -, hC5, -, nS5, st5⟩ := ldcCH X4 hx hZ hown (hw _ (List.mem_of_getElem? (i := 20) rfl)) (strA hw) e4 hS hk hEL (List.mem_of_getElem? (i := 0) rfl) CH (vs := []) (z := (0 : Int32)) (by decide) (by decide) (by decide) (g := (mkF m 18 #[.val (.ref a1), .val (.ref a2), .val (.int (0 : Int32)), .val (.int n), .val .null, .unset] [(.ref a1)])) rfl (hb hby d3_18) (n := 0) (by decide) (by decide) (by decide) (by decide)
    have lt_a1 := E_a1.lt
    replace E_a1 := E_a1.ext E5
    replace F_value_a1 := F_value_a1.ext E5
    replace F_coder_a1 := F_coder_a1.ext E5
    replace V2 := V2.ext E5
    replace Es2 := Es2.ext E5
    replace Fc2 := Fc2.ext E5
    replace Fv2 := Fv2.ext E5
    replace As2 := As2.ext E5
    replace O := O.ext E5
    replace K := K.ext E5
    replace SF_a1 := hC5.safe lt_a1 SF_a1
    have ne_a1_sa5 : a1 ≠ sa5 := (nS5 _ SF_a1).1
    have ne_a1_sb5 : a1 ≠ sb5 := (nS5 _ SF_a1).2
    replace Zn := Nat.le_trans Zn E5.1
    replace CR := CR.trans hC5
    replace CH := hC5.1
    replace hS := hS5
    replace hk := hk5
    replace hZ := hZ5
    replace hown := hown5
    refine Go.st st5 ?_
    replace As5 := Afn.of_arv As5
    show Go p.tables e below PP (T5.setTop (mkF m 20 #[.val (.ref a1), .val (.ref a2), .val (.int (0 : Int32)), .val (.int n), .val .null, .unset] [(.ref sa5), (.ref a1)]))
    obtain ⟨T6, X6, e6, st6⟩ := getF X5 hx hZ hown (host := "") (Or.inl (hw _ (List.mem_of_getElem? (i := 27) rfl))) Via.refl e5 Fc5 (g := (mkF m 20 #[.val (.ref a1), .val (.ref a2), .val (.int (0 : Int32)), .val (.int n), .val .null, .unset] [(.ref sa5), (.ref a1)])) rfl rfl (hb hby d3_20)
    refine Go.st st6 ?_
    show Go p.tables e below PP (T6.setTop (mkF m 23 #[.val (.ref a1), .val (.ref a2), .val (.int (0 : Int32)), .val (.int n), .val .null, .unset] [(.int (0 : Int32)), (.ref a1)]))
    obtain ⟨T7, h7, X7, e7, W7, st7⟩ := putFN X6 hx hZ hown (hw _ (List.mem_of_getElem? (i := 27) rfl)) Via.refl e6 F_coder_a1 E_a1 (Or.inr ⟨(hw _ (List.mem_of_getElem? (i := 23) rfl)), rfl, hnm⟩) (hw _ (List.mem_of_getElem? (i := 8) rfl)) (ty := .byte) (v' := (.int (0 : Int32))) (by decide) rfl (by decide) (g := (mkF m 23 #[.val (.ref a1), .val (.ref a2), .val (.int (0 : Int32)), .val (.int n), .val .null, .unset] [(.int (0 : Int32)), (.ref a1)])) rfl rfl (hb hby d3_23)
    refine Go.st st7 ?_
    have N7 := Fr.snoc X7 N4 g_a1
    replace E_a1 := E_a1.wr W7
    replace F_value_a1 := F_value_a1.other W7 (Or.inr (slot_ne (a0 := a0) (Or.inr (hw _ (List.mem_of_getElem? (i := 22) rfl))) (Or.inr (hw _ (List.mem_of_getElem? (i := 23) rfl))) (by decide) (t := (.array .byte)) (t' := .byte) (by decide) (by decide)))
    replace V2 := V2.other W7 (Ne.symm hne)
    replace Es2 := Es2.wr W7
    replace Fc2 := Fc2.other W7 (Or.inl (Ne.symm ne_a1_sa2))
    replace Fv2 := Fv2.other W7 (Or.inl (Ne.symm ne_a1_sa2))
    replace As2 := As2.other W7 (Ne.symm ne_a1_sb2)
    replace Es5 := Es5.wr W7
    replace Fc5 := Fc5.other W7 (Or.inl (Ne.symm ne_a1_sa5))
    replace Fv5 := Fv5.other W7 (Or.inl (Ne.symm ne_a1_sa5))
    replace As5 := As5.other W7 (Ne.symm ne_a1_sb5)
    replace CR := CR.trans (CHr.wr W7 SF_a1 CH)
    have CH' := CH.wr W7 SF_a1
    replace SF_a1 := Safe.wr W7 SF_a1 CH SF_a1
    replace CH := CH'
    clear CH'
    replace hk : kk5 ≤ h7.size := by rw [W7.size]; exact hk
    replace O := O.wr W7 g_a1
    replace K := K.wr W7 (Or.inl (List.mem_of_getElem? (i := 0) rfl))
    replace Zn : n0 ≤ h7.size := by rw [W7.size]; exact Zn
    replace F_coder_a1 := F_coder_a1.same W7
    show Go p.tables e below PP (T7.setTop (mkF m 26 #[.val (.ref a1), .val (.ref a2), .val (.int (0 : Int32)), .val (.int n), .val .null, .unset] []))
    rw [hPP]
    refine endVW X7 hx hlk hZ hS e7 hk hEL CH CR hret (hb hby d3_26) ?_ (by decide) (by decide)
    show QSI Z a1 a2 n cf zc h0 n0 none T7.heap _
    rw [e7]
    exact ⟨rfl, N7, K, E_a1, F_coder_a1, _, F_value_a1, (by subst hc5; exact As2.congr (fun k hk => absurd hk (by simp [Int32.toNatClampNeg])))⟩
  · --
    refine Go.st (fun t k => XS.ifYes X1.here hx rfl (pc0 := 5) (pc' := 27) rfl (hb hby d3_5) rfl (XT.i0_ne_t hc5) (by decide) (by decide) k) ?_
    show Go p.tables e below PP (T1.setTop (mkF m 27 #[.val (.ref a1), .val (.ref a2), .val (.int (0 : Int32)), .val (.int n), .val .null, .unset] []))
    obtain ⟨T8, X8, e8, st8⟩ := getS2 X1 hx hZ hown (host := "") (Or.inl (hw _ (List.mem_of_getElem? (i := 47) rfl))) Via.refl e1 (SC.ext O.2) (g := (mkF m 27 #[.val (.ref a1), .val (.ref a2), .val (.int (0 : Int32)), .val (.int n), .val .null, .unset] [])) rfl (hb hby d3_27)
    refine Go.st st8 ?_
    show Go p.tables e below PP (T8.setTop (mkF m 30 #[.val (.ref a1), .val (.ref a2), .val (.int (0 : Int32)), .val (.int n), .val .null, .unset] [(.int zc)]))
    refine Go.st (fun t k => XS.ifNo X8.here hx rfl (hb hby d3_30) rfl (XT.i0_eq_f hzc) k) ?_
    show Go p.tables e below PP (T8.setTop (mkF m 33 #[.val (.ref a1), .val (.ref a2), .val (.int (0 : Int32)), .val (.int n), .val .null, .unset] []))
    refine Go.st (fun t k => XS.aloadN X8.here hx rfl (hb hby d3_33) rfl rfl k) ?_
    show Go p.tables e below PP (T8.setTop (mkF m 34 #[.val (.ref a1), .val (.ref a2), .val (.int (0 : Int32)), .val (.int n), .val .null, .unset] [(.ref a2)]))
    refine Go.st (fun t k => XS.iloadN X8.here hx rfl (hb hby d3_34) rfl k) ?_
    show Go p.tables e below PP (T8.setTop (mkF m 35 #[.val (.ref a1), .val (.ref a2), .val (.int (0 : Int32)), .val (.int n), .val .null, .unset] [(.int (0 : Int32)), (.ref a2)]))
    refine Go.st (fun t k => XS.iloadN X8.here hx rfl (hb hby d3_35) rfl k) ?_
    show Go p.tables e below PP (T8.setTop (mkF m 36 #[.val (.ref a1), .val (.ref a2), .val (.int (0 : Int32)), .val (.int n), .val .null, .unset] [(.int n), (.int (0 : Int32)), (.ref a2)]))
    obtain ⟨v9, T9, L9, X9, hQ9, st9⟩ := callSt X8 hx hZ (y := (⟨"java/lang/StringUTF16", "compress", "([CII)[B"⟩ : MethodName)) (argsL := [(.ref a2), (.int (0 : Int32)), (.int n)]) (rest := []) hown (hw _ (List.mem_of_getElem? (i := 69) rfl)) (hw _ (List.mem_of_getElem? (i := 70) rfl)) (hw _ (List.mem_of_getElem? (i := 71) rfl)) (hw _ (List.mem_of_getElem? (i := 72) rfl)) (by decide) (rm14 l Z a0 hw [] a2 n cf h0 n0 Zn V2 hcb hcap) e8 0 (by decide) (by decide) (by decide) (by decide) (g := (mkF m 36 #[.val (.ref a1), .val (.ref a2), .val (.int (0 : Int32)), .val (.int n), .val .null, .unset] [(.int n), (.int (0 : Int32)), (.ref a2)])) rfl (by rw [hml]; rfl) (lenOf pd_1 rfl) rfl (by show 2 * 0 + _ ≤ _; exact Nat.le_of_eq rfl) (hb hby d3_36)
    obtain ⟨h9, e9⟩ : ∃ z, T9.heap = z := ⟨_, rfl⟩
    rw [e9] at hQ9
    obtain ⟨⟨t9, rfl, sz9, Vq9⟩, Nq9, Kq9⟩ := hQ9
    have N9 := Fr.app N0 Nq9
    have ne_a1_t9 : a1 ≠ t9 := Nat.ne_of_lt (Nat.lt_of_lt_of_le E_a1.lt sz9)
    have ne_a2_t9 : a2 ≠ t9 := Nat.ne_of_lt (Nat.lt_of_lt_of_le V2.lt sz9)
    have g_t9 : n0 ≤ t9 := Nat.le_trans Zn sz9
    have sz_t9 : h0.size ≤ t9 := Nat.le_trans K.1 sz9
    have hsf : ∀ x ∈ ([] : List Addr), Safe Z consts_1 vm0 h0 x := sf0
    replace SF_a1 := Safe.keep Kq9 hsf CH SF_a1
    replace CR := CR.trans (CHr.keep Kq9 hsf CH)
    replace CH := CH.keep Kq9 hsf
    replace hk := Nat.le_trans hk Kq9.1
    clear hsf
    replace E_a1 := E_a1.keep Kq9
    replace F_value_a1 := F_value_a1.keep Kq9 nin0
    replace F_coder_a1 := F_coder_a1.keep Kq9 nin0
    replace V2 := V2.keep Kq9 nin0
    replace O := O.keep Kq9 all0
    replace K := K.trans Kq9 all0
    replace Zn := Nat.le_trans Zn Kq9.1
    refine Go.st st9 ?_
    show Go p.tables e below PP (T9.setTop (mkF m 39 #[.val (.ref a1), .val (.ref a2), .val (.int (0 : Int32)), .val (.int n), .val .null, .unset] [(.ref t9)]))
    refine Go.st (fun t k => XS.astore X9.here hx rfl (hb hby d3_39) rfl rfl (l' := #[.val (.ref a1), .val (.ref a2), .val (.int (0 : Int32)), .val (.int n), .val .null, .val (.ref t9)]) rfl k) ?_
    show Go p.tables e below PP (T9.setTop (mkF m 41 #[.val (.ref a1), .val (.ref a2), .val (.int (0 : Int32)), .val (.int n), .val .null, .val (.ref t9)] []))
    refine Go.st (fun t k => XS.aloadN X9.here hx rfl (hb hby d3_41) rfl rfl k) ?_
    show Go p.tables e below PP (T9.setTop (mkF m 42 #[.val (.ref a1), .val (.ref a2), .val (.int (0 : Int32)), .val (.int n), .val .null, .val (.ref t9)] [(.ref a1)]))
    refine Go.st (fun t k => XS.aload X9.here hx rfl (hb hby d3_42) rfl rfl k) ?_
    show Go p.tables e below PP (T9.setTop (mkF m 44 #[.val (.ref a1), .val (.ref a2), .val (.int (0 : Int32)), .val (.int n), .val .null, .val (.ref t9)] [(.ref t9), (.ref a1)]))
    refine Go.st (fun t k => XS.iloadN X9.here hx rfl (hb hby d3_44) rfl k) ?_
    show Go p.tables e below PP (T9.setTop (mkF m 45 #[.val (.ref a1), .val (.ref a2), .val (.int (0 : Int32)), .val (.int n), .val .null, .val (.ref t9)] [(.int n), (.ref t9), (.ref a1)]))
    obtain ⟨v10, T10, L10, X10, hQ10, st10⟩ := callSt X9 hx hZ (y := (⟨"java/lang/StringUTF16", "coderFromArrayLen", "([BI)B"⟩ : MethodName)) (argsL := [(.ref t9), (.int n)]) (rest := [(.ref a1)]) hown (hw _ (List.mem_of_getElem? (i := 76) rfl)) (hw _ (List.mem_of_getElem? (i := 77) rfl)) (hw _ (List.mem_of_getElem? (i := 71) rfl)) (hw _ (List.mem_of_getElem? (i := 78) rfl)) (by decide) (rm16 l Z a0 hw [] t9 n _ h9 n0 Zn Vq9) e9 1 (by decide) (by decide) (by decide) (by decide) (g := (mkF m 45 #[.val (.ref a1), .val (.ref a2), .val (.int (0 : Int32)), .val (.int n), .val .null, .val (.ref t9)] [(.int n), (.ref t9), (.ref a1)])) rfl (by rw [hml]; rfl) (lenOf pd_2 rfl) rfl (by show 2 * 0 + _ ≤ _; exact Nat.le_of_eq rfl) (hb hby d3_45)
    obtain ⟨rfl, rfl, e10⟩ := hQ10
    rw [List.append_nil] at X10
    refine Go.st st10 ?_
    show Go p.tables e below PP (T10.setTop (mkF m 48 #[.val (.ref a1), .val (.ref a2), .val (.int (0 : Int32)), .val (.int n), .val .null, .val (.ref t9)] [(.int (0 : Int32)), (.ref a1)]))
    obtain ⟨T11, h11, X11, e11, W11, st11⟩ := putFN X10 hx hZ hown (hw _ (List.mem_of_getElem? (i := 27) rfl)) Via.refl e10 F_coder_a1 E_a1 (Or.inr ⟨(hw _ (List.mem_of_getElem? (i := 23) rfl)), rfl, hnm⟩) (hw _ (List.mem_of_getElem? (i := 8) rfl)) (ty := .byte) (v' := (.int (0 : Int32))) (by decide) rfl (by decide) (g := (mkF m 48 #[.val (.ref a1), .val (.ref a2), .val (.int (0 : Int32)), .val (.int n), .val .null, .val (.ref t9)] [(.int (0 : Int32)), (.ref a1)])) rfl rfl (hb hby d3_48)
    refine Go.st st11 ?_
    have N11 := Fr.snoc X11 N9 g_a1
    replace E_a1 := E_a1.wr W11
    replace F_value_a1 := F_value_a1.other W11 (Or.inr (slot_ne (a0 := a0) (Or.inr (hw _ (List.mem_of_getElem? (i := 22) rfl))) (Or.inr (hw _ (List.mem_of_getElem? (i := 23) rfl))) (by decide) (t := (.array .byte)) (t' := .byte) (by decide) (by decide)))
    replace V2 := V2.other W11 (Ne.symm hne)
    replace Vq9 := Vq9.other W11 (Ne.symm ne_a1_t9)
    replace CR := CR.trans (CHr.wr W11 SF_a1 CH)
    have CH' := CH.wr W11 SF_a1
    replace SF_a1 := Safe.wr W11 SF_a1 CH SF_a1
    replace CH := CH'
    clear CH'
    replace hk : k0 ≤ h11.size := by rw [W11.size]; exact hk
    replace O := O.wr W11 g_a1
    replace K := K.wr W11 (Or.inl (List.mem_of_getElem? (i := 0) rfl))
    replace Zn : n0 ≤ h11.size := by rw [W11.size]; exact Zn
    replace F_coder_a1 := F_coder_a1.same W11
    show Go p.tables e below PP (T11.setTop (mkF m 51 #[.val (.ref a1), .val (.ref a2), .val (.int (0 : Int32)), .val (.int n), .val .null, .val (.ref t9)] []))
    refine Go.st (fun t k => XS.aloadN X11.here hx rfl (hb hby d3_51) rfl rfl k) ?_
    show Go p.tables e below PP (T11.setTop (mkF m 52 #[.val (.ref a1), .val (.ref a2), .val (.int (0 : Int32)), .val (.int n), .val .null, .val (.ref t9)] [(.ref a1)]))
    refine Go.st (fun t k => XS.aload X11.here hx rfl (hb hby d3_52) rfl rfl k) ?_
    show Go p.tables e below PP (T11.setTop (mkF m 54 #[.val (.ref a1), .val (.ref a2), .val (.int (0 : Int32)), .val (.int n), .val .null, .val (.ref t9)] [(.ref t9), (.ref a1)]))
    obtain ⟨T12, h12, X12, e12, W12, st12⟩ := putF X11 hx hZ hown (host := "") (Or.inl (hw _ (List.mem_of_getElem? (i := 26) rfl))) Via.refl e11 F_value_a1 E_a1 (Or.inr ⟨(hw _ (List.mem_of_getElem? (i := 22) rfl)), rfl, hnm⟩) (hw _ (List.mem_of_getElem? (i := 8) rfl)) (ty := (.array .byte)) (by decide) rfl rfl (g := (mkF m 54 #[.val (.ref a1), .val (.ref a2), .val (.int (0 : Int32)), .val (.int n), .val .null, .val (.ref t9)] [(.ref t9), (.ref a1)])) rfl rfl (hb hby d3_54)
    refine Go.st st12 ?_
    have N12 := Fr.snoc X12 N11 g_a1
    replace E_a1 := E_a1.wr W12
    replace F_coder_a1 := F_coder_a1.other W12 (Or.inr (slot_ne (a0 := a0) (Or.inr (hw _ (List.mem_of_getElem? (i := 23) rfl))) (Or.inr (hw _ (List.mem_of_getElem? (i := 22) rfl))) (by decide) (t := .byte) (t' := (.array .byte)) (by decide) (by decide)))
    replace V2 := V2.other W12 (Ne.symm hne)
    replace Vq9 := Vq9.other W12 (Ne.symm ne_a1_t9)
    replace CR := CR.trans (CHr.wr W12 SF_a1 CH)
    have CH' := CH.wr W12 SF_a1
    replace SF_a1 := Safe.wr W12 SF_a1 CH SF_a1
    replace CH := CH'
    clear CH'
    replace hk : k0 ≤ h12.size := by rw [W12.size]; exact hk
    replace O := O.wr W12 g_a1
    replace K := K.wr W12 (Or.inl (List.mem_of_getElem? (i := 0) rfl))
    replace Zn : n0 ≤ h12.size := by rw [W12.size]; exact Zn
    replace F_value_a1 := F_value_a1.same W12
    show Go p.tables e below PP (T12.setTop (mkF m 57 #[.val (.ref a1), .val (.ref a2), .val (.int (0 : Int32)), .val (.int n), .val .null, .val (.ref t9)] []))
    rw [hPP]
    refine endVW X12 hx hlk hZ hS e12 hk hEL CH CR hret (hb hby d3_57) ?_ (by decide) (by decide)
    show QSI Z a1 a2 n cf zc h0 n0 none T12.heap _
    rw [e12]
    exact ⟨rfl, N12, K, E_a1, F_coder_a1, _, F_value_a1, Vq9⟩
theorem d2_0 : decode jdk_42_method_3_code 0 = .ok (.aload_n 0, 1) := by decide +kernel
theorem d2_1 : decode jdk_42_method_3_code 1 = .ok (.aload_n 1, 1) := by decide +kernel
theorem d2_2 : decode jdk_42_method_3_code 2 = .ok (.iconst 0, 1) := by decide +kernel
theorem d2_3 : decode jdk_42_method_3_code 3 = .ok (.aload_n 1, 1) := by decide +kernel
theorem d2_4 : decode jdk_42_method_3_code 4 = .ok (.arraylength, 1) := by decide +kernel
theorem d2_5 : decode jdk_42_method_3_code 5 = .ok (.aconst_null, 1) := by decide +kernel
theorem d2_6 : decode jdk_42_method_3_code 6 = .ok (.invokespecial 27, 3) := by decide +kernel
theorem d2_9 : decode jdk_42_method_3_code 9 = .ok (.return_, 1) := by decide +kernel
theorem pn_rmS1 : plainName "java/lang/String" = true := by first | (simp [plainName, overriddenIn]; done) | decide +kernel
theorem ef_rmS1 (m : MethodId) (a1 : Addr) (a2 : Addr) : entryFrame m #[(.ref a1), (.ref a2)] 2 = mkF m 0 #[.val (.ref a1), .val (.ref a2)] [] := by first | (simp [entryFrame, mkF, argsToLocals, Value.category]; done) | rfl
def QS1 (Z : State) (a1 : Addr) (a2 : Addr) (n : Int32) (cf : Nat → Int32) (zc : Int32) (h0 : Heap) (n0 : Nat) (v : Option Value) (h : Heap) (L : List Loc) : Prop := v = none ∧ Fr n0 L ∧ Keep h0 h [a1] ∧ Exa Z h a1 "java/lang/String" ∧ Fld Z h a1 "java/lang/String" "coder" "B" (.int (0 : Int32)) ∧ ∃ t : Addr, Fld Z h a1 "java/lang/String" "value" "[B" (.ref t) ∧ Afn Z h t .byte n (fun k => .int ((cf k).toInt8.toInt32))
theorem pd_3 : parseMethodDescriptor "([CIILjava/lang/Void;)V" = some ⟨[(.array .char), .int, .int, (.object "java/lang/Void")], none⟩ := by decide +kernel
set_option maxRecDepth 65536 in
set_option maxHeartbeats 40000000 in
theorem rmS1 (l : Launch) (Z : State) (a0 : Array Value) (hw : ∀ d ∈ tables_1, d.before a0 Z = true) (ws : List Jvm.Cond) (a1 : Addr) (a2 : Addr) (n : Int32) (cf : Nat → Int32) (zc : Int32) (h0 : Heap) (n0 : Nat) (Z0 : n0 ≤ h0.size) (hEL : EW Z a0 consts_1) (E_a1 : Exa Z h0 a1 "java/lang/String") (F_value_a1 : Fld Z h0 a1 "java/lang/String" "value" "[B" .null) (F_coder_a1 : Fld Z h0 a1 "java/lang/String" "coder" "B" (.int (0 : Int32))) (g_a1 : n0 ≤ a1) (V2 : Afn Z h0 a2 .char n (fun k => .int (cf k))) (hcb : ∀ k, k < n.toNatClampNeg → ¬ cf k < (0 : Int32) ∧ ¬ (255 : Int32) < cf k) (hcap : n.toNatClampNeg ≤ 7) (hne : a1 ≠ a2) (SC : Sta Z Z.heap "java/lang/String" "COMPACT_STRINGS" "Z" (.int zc)) (hzc : ¬ zc = (0 : Int32)) (O : Old Z n0 h0) :
    ConH l Z consts_1 (⟨"java/lang/String", "<init>", "([C)V"⟩ : MethodName) jdk_42_method_3_code 2 none ws ({ frames := 3, cells := 4, slots := 8, locals := 54 } : Room) #[(.ref a1), (.ref a2)] h0 (QS1 Z a1 a2 n cf zc h0 n0) := by
  refine ConH.of (plainFor_of_name pn_rmS1) ?_
  intro p e s m below meth c s₁ vm0 k0 hZ e0 X0 hx hby hml hown hnm hret hlk hS hk CH CR
  replace hml : c.maxLocals = 2 := hml
  have hown : vm0.findClass "java/lang/String" = some m.cls := hown
  have N0 : Fr n0 [] := Fr.nil n0
  obtain ⟨PP, hPP⟩ : ∃ P, P = FineW Z consts_1 s below (QS1 Z a1 a2 n cf zc h0 n0) ({ frames := 3, cells := 4, slots := 8, locals := 54 } : Room).cells ({ frames := 3, cells := 4, slots := 8, locals := 54 } : Room).slots := ⟨_, rfl⟩
  rw [← hPP]
  refine Go.cast (ef_rmS1 m a1 a2) ?_
  have K : Keep h0 h0 [a1] := Keep.refl h0 _
  have Zn : n0 ≤ h0.size := Z0
  have SF_a1 : Safe Z consts_1 vm0 h0 a1 := safe_str hZ.alike E_a1 F_value_a1
  show Go p.tables e below PP (s₁.setTop (mkF m 0 #[.val (.ref a1), .val (.ref a2)] []))
  refine Go.st (fun t k => XS.aloadN X0.here hx rfl (hb hby d2_0) rfl rfl k) ?_
  show Go p.tables e below PP (s₁.setTop (mkF m 1 #[.val (.ref a1), .val (.ref a2)] [(.ref a1)]))
  refine Go.st (fun t k => XS.aloadN X0.here hx rfl (hb hby d2_1) rfl rfl k) ?_
  show Go p.tables e below PP (s₁.setTop (mkF m 2 #[.val (.ref a1), .val (.ref a2)] [(.ref a2), (.ref a1)]))
  refine Go.st (fun t k => XS.iconst X0.here hx rfl (hb hby d2_2) k) ?_
  show Go p.tables e below PP (s₁.setTop (mkF m 3 #[.val (.ref a1), .val (.ref a2)] [(.int (0 : Int32)), (.ref a2), (.ref a1)]))
  refine Go.st (fun t k => XS.aloadN X0.here hx rfl (hb hby d2_3) rfl rfl k) ?_
  show Go p.tables e below PP (s₁.setTop (mkF m 4 #[.val (.ref a1), .val (.ref a2)] [(.ref a2), (.int (0 : Int32)), (.ref a2), (.ref a1)]))
  obtain ⟨cl1, Ar1, S1, Nn1, -⟩ := id V2
  refine Go.st (fun t k => X0.arraylength hx (by rw [e0]; exact Ar1.1) (State.isArrayOf_alike hZ.alike Ar1.2.1) (g := (mkF m 4 #[.val (.ref a1), .val (.ref a2)] [(.ref a2), (.int (0 : Int32)), (.ref a2), (.ref a1)])) rfl rfl (hb hby d2_4) _ k) ?_
  rw [len_of S1 Nn1]
  show Go p.tables e below PP (s₁.setTop (mkF m 5 #[.val (.ref a1), .val (.ref a2)] [(.int n), (.int (0 : Int32)), (.ref a2), (.ref a1)]))
  refine Go.st (fun t k => XS.aconstNull X0.here hx rfl (hb hby d2_5) k) ?_
  show Go p.tables e below PP (s₁.setTop (mkF m 6 #[.val (.ref a1), .val (.ref a2)] [.null, (.int n), (.int (0 : Int32)), (.ref a2), (.ref a1)]))
  have hZ0 := hZ
  have hown0 := hown
  clear hZ hown
  obtain ⟨v2, T2, L2, X2, hQ2, hC2, hSn2, hZ, hown, st2⟩ := callInW X0 hx hZ0 (y := (⟨"java/lang/String", "<init>", "([CIILjava/lang/Void;)V"⟩ : MethodName)) (a := a1) (argsL := [(.ref a2), (.int (0 : Int32)), (.int n), .null]) (rest := []) rfl hown0 (hw _ (List.mem_of_getElem? (i := 13) rfl)) (hw _ (List.mem_of_getElem? (i := 14) rfl)) (hw _ (List.mem_of_getElem? (i := 9) rfl)) (hw _ (List.mem_of_getElem? (i := 16) rfl)) (by decide) (rmSI l Z a0 hw [] a1 a2 n cf zc h0 n0 Zn hEL E_a1 F_value_a1 F_coder_a1 g_a1 V2 hcb hcap hne SC hzc O) e0 hEL CH hS hk 0 (by decide) (by decide) (by decide) (by decide) (g := (mkF m 6 #[.val (.ref a1), .val (.ref a2)] [.null, (.int n), (.int (0 : Int32)), (.ref a2), (.ref a1)])) rfl (by rw [hml]; rfl) (lenOf pd_3 rfl) rfl (by show 2 * 0 + _ ≤ _; exact Nat.le_of_eq rfl) (hb hby d2_6)
  clear hZ0 hown0
  replace hS := hSn2
  obtain ⟨h2, e2⟩ : ∃ z, T2.heap = z := ⟨_, rfl⟩
  rw [e2] at hQ2 hC2
  replace SF_a1 := hC2.safe E_a1.lt SF_a1
  replace CR := CR.trans hC2
  replace CH := hC2.1
  replace hk : T2.heap.size ≤ h2.size := by rw [e2]; exact Nat.le_refl _
  obtain ⟨rfl, Nq2, Kq2, Eq2, Cq2, t2, Fq2, Vq2⟩ := hQ2
  have N2 := Fr.app N0 Nq2
  replace E_a1 := E_a1.keep Kq2
  clear F_value_a1
  clear F_coder_a1
  replace V2 := V2.keep Kq2 (ninS (Ne.symm hne) nin0)
  replace O := O.keep Kq2 (allS g_a1 all0)
  replace K := K.trans Kq2 (allS (Or.inl (List.mem_of_getElem? (i := 0) rfl)) all0)
  replace Zn := Nat.le_trans Zn Kq2.1
  replace E_a1 := Eq2
  have F_value_a1 := Fq2
  have F_coder_a1 := Cq2
  refine Go.st st2 ?_
  show Go p.tables e below PP (T2.setTop (mkF m 9 #[.val (.ref a1), .val (.ref a2)] []))
  rw [hPP]
  refine endVW X2 hx hlk hZ hS e2 hk hEL CH CR hret (hb hby d2_9) ?_ (by decide) (by decide)
  show QS1 Z a1 a2 n cf zc h0 n0 none T2.heap _
  rw [e2]
  exact ⟨rfl, N2, K, E_a1, F_coder_a1, _, F_value_a1, Vq2⟩
theorem d8_0 : decode jdk_42_method_152_code 0 = .ok (.getstatic 38, 3) := by decide +kernel
theorem d8_3 : decode jdk_42_method_152_code 3 = .ok (.ifCond .eq 10, 3) := by decide +kernel
theorem d8_6 : decode jdk_42_method_152_code 6 = .ok (.aload_n 0, 1) := by decide +kernel
theorem d8_7 : decode jdk_42_method_152_code 7 = .ok (.getfield 15, 3) := by decide +kernel
theorem d8_10 : decode jdk_42_method_152_code 10 = .ok (.goto 4, 3) := by decide +kernel
theorem d8_13 : decode jdk_42_method_152_code 13 = .ok (.iconst 1, 1) := by decide +kernel
theorem d8_14 : decode jdk_42_method_152_code 14 = .ok (.ireturn, 1) := by decide +kernel
theorem pn_rm8 : plainName "java/lang/String" = true := by first | (simp [plainName, overriddenIn]; done) | decide +kernel
theorem ef_rm8 (m : MethodId) (a1 : Addr) : entryFrame m #[(.ref a1)] 1 = mkF m 0 #[.val (.ref a1)] [] := by first | (simp [entryFrame, mkF, argsToLocals, Value.category]; done) | rfl
def Q8 (Z : State) (a1 : Addr) (zc : Int32) (h0 : Heap) (n0 : Nat) (v : Option Value) (h : Heap) (L : List Loc) : Prop := v = some (.int (0 : Int32)) ∧ L = [] ∧ h = h0
set_option maxRecDepth 65536 in
set_option maxHeartbeats 40000000 in
theorem rm8 (l : Launch) (Z : State) (a0 : Array Value) (hw : ∀ d ∈ tables_1, d.before a0 Z = true) (ws : List Jvm.Cond) (a1 : Addr) (zc : Int32) (h0 : Heap) (n0 : Nat) (Z0 : n0 ≤ h0.size) (F_coder_a1 : Fld Z h0 a1 "java/lang/String" "coder" "B" (.int (0 : Int32))) (SC : Sta Z Z.heap "java/lang/String" "COMPACT_STRINGS" "Z" (.int zc)) (hzc : ¬ zc = (0 : Int32)) (O : Old Z n0 h0) :
    Con l Z (⟨"java/lang/String", "coder", "()B"⟩ : MethodName) jdk_42_method_152_code 1 (some .byte) ws ({ frames := 0, cells := 0, slots := 0, locals := 0 } : Room) #[(.ref a1)] h0 (Q8 Z a1 zc h0 n0) := by
  refine Con.of (plainFor_of_name pn_rm8) ?_
  intro p e s m below meth c s₁ hZ e0 X0 hx hby hml hown hnm hret hlk
  replace hml : c.maxLocals = 1 := hml
  have hown : s.vm.findClass "java/lang/String" = some m.cls := hown
  have N0 : Fr n0 [] := Fr.nil n0
  obtain ⟨PP, hPP⟩ : ∃ P, P = Fine s below (Q8 Z a1 zc h0 n0) ({ frames := 0, cells := 0, slots := 0, locals := 0 } : Room).cells ({ frames := 0, cells := 0, slots := 0, locals := 0 } : Room).slots := ⟨_, rfl⟩
  rw [← hPP]
  refine Go.cast (ef_rm8 m a1) ?_
  have Zn : n0 ≤ h0.size := Z0
  show Go p.tables e below PP (s₁.setTop (mkF m 0 #[.val (.ref a1)] []))
  obtain ⟨T1, X1, e1, st1⟩ := getS2 X0 hx hZ hown (host := "") (Or.inl (hw _ (List.mem_of_getElem? (i := 47) rfl))) Via.refl e0 (SC.ext O.2) (g := (mkF m 0 #[.val (.ref a1)] [])) rfl (hb hby d8_0)
  refine Go.st st1 ?_
  show Go p.tables e below PP (T1.setTop (mkF m 3 #[.val (.ref a1)] [(.int zc)]))
  refine Go.st (fun t k => XS.ifNo X1.here hx rfl (hb hby d8_3) rfl (XT.i0_eq_f hzc) k) ?_
  show Go p.tables e below PP (T1.setTop (mkF m 6 #[.val (.ref a1)] []))
  refine Go.st (fun t k => XS.aloadN X1.here hx rfl (hb hby d8_6) rfl rfl k) ?_
  show Go p.tables e below PP (T1.setTop (mkF m 7 #[.val (.ref a1)] [(.ref a1)]))
  obtain ⟨T2, X2, e2, st2⟩ := getF X1 hx hZ hown (host := "") (Or.inl (hw _ (List.mem_of_getElem? (i := 27) rfl))) Via.refl e1 F_coder_a1 (g := (mkF m 7 #[.val (.ref a1)] [(.ref a1)])) rfl rfl (hb hby d8_7)
  refine Go.st st2 ?_
  show Go p.tables e below PP (T2.setTop (mkF m 10 #[.val (.ref a1)] [(.int (0 : Int32))]))
  refine Go.st (fun t k => XS.goto X2.here hx rfl (pc0 := 10) (pc' := 14) rfl (hb hby d8_10) (by decide) (by decide) k) ?_
  show Go p.tables e below PP (T2.setTop (mkF m 14 #[.val (.ref a1)] [(.int (0 : Int32))]))
  rw [hPP]
  refine endN X2 hx hlk (t := .byte) hret (by simp) (hb hby d8_14) (w := (0 : Int32)) (rfl) ?_ (by decide) (by decide)
  show Q8 Z a1 zc h0 n0 (some (.int (0 : Int32))) T2.heap _
  rw [e2]
  exact ⟨rfl, rfl, rfl⟩
theorem d10_0 : decode jdk_42_method_154_code 0 = .ok (.getstatic 38, 3) := by decide +kernel
theorem d10_3 : decode jdk_42_method_154_code 3 = .ok (.ifCond .eq 14, 3) := by decide +kernel
theorem d10_6 : decode jdk_42_method_154_code 6 = .ok (.aload_n 0, 1) := by decide +kernel
theorem d10_7 : decode jdk_42_method_154_code 7 = .ok (.getfield 15, 3) := by decide +kernel
theorem d10_10 : decode jdk_42_method_154_code 10 = .ok (.ifCond .ne 7, 3) := by decide +kernel
theorem d10_13 : decode jdk_42_method_154_code 13 = .ok (.iconst 1, 1) := by decide +kernel
theorem d10_14 : decode jdk_42_method_154_code 14 = .ok (.goto 4, 3) := by decide +kernel
theorem d10_17 : decode jdk_42_method_154_code 17 = .ok (.iconst 0, 1) := by decide +kernel
theorem d10_18 : decode jdk_42_method_154_code 18 = .ok (.ireturn, 1) := by decide +kernel
theorem pn_rm10 : plainName "java/lang/String" = true := by first | (simp [plainName, overriddenIn]; done) | decide +kernel
theorem ef_rm10 (m : MethodId) (a1 : Addr) : entryFrame m #[(.ref a1)] 1 = mkF m 0 #[.val (.ref a1)] [] := by first | (simp [entryFrame, mkF, argsToLocals, Value.category]; done) | rfl
def Q10 (Z : State) (a1 : Addr) (zc : Int32) (h0 : Heap) (n0 : Nat) (v : Option Value) (h : Heap) (L : List Loc) : Prop := v = some (.int (1 : Int32)) ∧ L = [] ∧ h = h0
set_option maxRecDepth 65536 in
set_option maxHeartbeats 40000000 in
theorem rm10 (l : Launch) (Z : State) (a0 : Array Value) (hw : ∀ d ∈ tables_1, d.before a0 Z = true) (ws : List Jvm.Cond) (a1 : Addr) (zc : Int32) (h0 : Heap) (n0 : Nat) (Z0 : n0 ≤ h0.size) (F_coder_a1 : Fld Z h0 a1 "java/lang/String" "coder" "B" (.int (0 : Int32))) (SC : Sta Z Z.heap "java/lang/String" "COMPACT_STRINGS" "Z" (.int zc)) (hzc : ¬ zc = (0 : Int32)) (O : Old Z n0 h0) :
    Con l Z (⟨"java/lang/String", "isLatin1", "()Z"⟩ : MethodName) jdk_42_method_154_code 1 (some .boolean) ws ({ frames := 0, cells := 0, slots := 0, locals := 0 } : Room) #[(.ref a1)] h0 (Q10 Z a1 zc h0 n0) := by
  refine Con.of (plainFor_of_name pn_rm10) ?_
  intro p e s m below meth c s₁ hZ e0 X0 hx hby hml hown hnm hret hlk
  replace hml : c.maxLocals = 1 := hml
  have hown : s.vm.findClass "java/lang/String" = some m.cls := hown
  have N0 : Fr n0 [] := Fr.nil n0
  obtain ⟨PP, hPP⟩ : ∃ P, P = Fine s below (Q10 Z a1 zc h0 n0) ({ frames := 0, cells := 0, slots := 0, locals := 0 } : Room).cells ({ frames := 0, cells := 0, slots := 0, locals := 0 } : Room).slots := ⟨_, rfl⟩
  rw [← hPP]
  refine Go.cast (ef_rm10 m a1) ?_
  have Zn : n0 ≤ h0.size := Z0
  show Go p.tables e below PP (s₁.setTop (mkF m 0 #[.val (.ref a1)] []))
  obtain ⟨T1, X1, e1, st1⟩ := getS2 X0 hx hZ hown (host := "") (Or.inl (hw _ (List.mem_of_getElem? (i := 47) rfl))) Via.refl e0 (SC.ext O.2) (g := (mkF m 0 #[.val (.ref a1)] [])) rfl (hb hby d10_0)
  refine Go.st st1 ?_
  show Go p.tables e below PP (T1.setTop (mkF m 3 #[.val (.ref a1)] [(.int zc)]))
  refine Go.st (fun t k => XS.ifNo X1.here hx rfl (hb hby d10_3) rfl (XT.i0_eq_f hzc) k) ?_
  show Go p.tables e below PP (T1.setTop (mkF m 6 #[.val (.ref a1)] []))
  refine Go.st (fun t k => XS.aloadN X1.here hx rfl (hb hby d10_6) rfl rfl k) ?_
  show Go p.tables e below PP (T1.setTop (mkF m 7 #[.val (.ref a1)] [(.ref a1)]))
  obtain ⟨T2, X2, e2, st2⟩ := getF X1 hx hZ hown (host := "") (Or.inl (hw _ (List.mem_of_getElem? (i := 27) rfl))) Via.refl e1 F_coder_a1 (g := (mkF m 7 #[.val (.ref a1)] [(.ref a1)])) rfl rfl (hb hby d10_7)
  refine Go.st st2 ?_
  show Go p.tables e below PP (T2.setTop (mkF m 10 #[.val (.ref a1)] [(.int (0 : Int32))]))
  refine Go.st (fun t k => XS.ifNo X2.here hx rfl (hb hby d10_10) rfl (XT.i0_ne_f (by decide)) k) ?_
  show Go p.tables e below PP (T2.setTop (mkF m 13 #[.val (.ref a1)] []))
  refine Go.st (fun t k => XS.iconst X2.here hx rfl (hb hby d10_13) k) ?_
  show Go p.tables e below PP (T2.setTop (mkF m 14 #[.val (.ref a1)] [(.int (1 : Int32))]))
  refine Go.st (fun t k => XS.goto X2.here hx rfl (pc0 := 14) (pc' := 18) rfl (hb hby d10_14) (by decide) (by decide) k) ?_
  show Go p.tables e below PP (T2.setTop (mkF m 18 #[.val (.ref a1)] [(.int (1 : Int32))]))
  rw [hPP]
  refine endN X2 hx hlk (t := .boolean) hret (by simp) (hb hby d10_18) (w := (1 : Int32)) (rfl) ?_ (by decide) (by decide)
  show Q10 Z a1 zc h0 n0 (some (.int (1 : Int32))) T2.heap _
  rw [e2]
  exact ⟨rfl, rfl, rfl⟩
theorem own_shr0 (n : Int32) : n >>> ((0 : Int32) &&& 31) = n := Int32.toInt_inj.mp (by rw [c_ishr n 0 0 (by decide)]; simp)
theorem d7_0 : decode jdk_42_method_54_code 0 = .ok (.aload_n 0, 1) := by decide +kernel
theorem d7_1 : decode jdk_42_method_54_code 1 = .ok (.getfield 9, 3) := by decide +kernel
theorem d7_4 : decode jdk_42_method_54_code 4 = .ok (.arraylength, 1) := by decide +kernel
theorem d7_5 : decode jdk_42_method_54_code 5 = .ok (.aload_n 0, 1) := by decide +kernel
theorem d7_6 : decode jdk_42_method_54_code 6 = .ok (.invokevirtual 335, 3) := by decide +kernel
theorem d7_9 : decode jdk_42_method_54_code 9 = .ok (.ishr, 1) := by decide +kernel
theorem d7_10 : decode jdk_42_method_54_code 10 = .ok (.ireturn, 1) := by decide +kernel
theorem pn_rm7 : plainName "java/lang/String" = true := by first | (simp [plainName, overriddenIn]; done) | decide +kernel
theorem ef_rm7 (m : MethodId) (a1 : Addr) : entryFrame m #[(.ref a1)] 1 = mkF m 0 #[.val (.ref a1)] [] := by first | (simp [entryFrame, mkF, argsToLocals, Value.category]; done) | rfl
def Q7 (Z : State) (a1 : Addr) (t1 : Addr) (n1 : Int32) (f1 : Nat → Int32) (zc : Int32) (h0 : Heap) (n0 : Nat) (v : Option Value) (h : Heap) (L : List Loc) : Prop := v = some (.int n1) ∧ L = [] ∧ h = h0
theorem pd_4 : parseMethodDescriptor "()B" = some ⟨[], some .byte⟩ := by decide +kernel
set_option maxRecDepth 65536 in
set_option maxHeartbeats 40000000 in
theorem rm7 (l : Launch) (Z : State) (a0 : Array Value) (hw : ∀ d ∈ tables_1, d.before a0 Z = true) (ws : List Jvm.Cond) (a1 : Addr) (t1 : Addr) (n1 : Int32) (f1 : Nat → Int32) (zc : Int32) (h0 : Heap) (n0 : Nat) (Z0 : n0 ≤ h0.size) (F_value_a1 : Fld Z h0 a1 "java/lang/String" "value" "[B" (.ref t1)) (F_coder_a1 : Fld Z h0 a1 "java/lang/String" "coder" "B" (.int (0 : Int32))) (V_t1 : Afn Z h0 t1 .byte n1 (fun k => .int (f1 k))) (E_a1 : Exa Z h0 a1 "java/lang/String") (SC : Sta Z Z.heap "java/lang/String" "COMPACT_STRINGS" "Z" (.int zc)) (hzc : ¬ zc = (0 : Int32)) (O : Old Z n0 h0) :
    Con l Z (⟨"java/lang/String", "length", "()I"⟩ : MethodName) jdk_42_method_54_code 1 (some .int) ws ({ frames := 1, cells := 0, slots := 0, locals := 13 } : Room) #[(.ref a1)] h0 (Q7 Z a1 t1 n1 f1 zc h0 n0) := by
  refine Con.of (plainFor_of_name pn_rm7) ?_
  intro p e s m below meth c s₁ hZ e0 X0 hx hby hml hown hnm hret hlk
  replace hml : c.maxLocals = 1 := hml
  have hown : s.vm.findClass "java/lang/String" = some m.cls := hown
  have N0 : Fr n0 [] := Fr.nil n0
  obtain ⟨PP, hPP⟩ : ∃ P, P = Fine s below (Q7 Z a1 t1 n1 f1 zc h0 n0) ({ frames := 1, cells := 0, slots := 0, locals := 13 } : Room).cells ({ frames := 1, cells := 0, slots := 0, locals := 13 } : Room).slots := ⟨_, rfl⟩
  rw [← hPP]
  refine Go.cast (ef_rm7 m a1) ?_
  have Zn : n0 ≤ h0.size := Z0
  show Go p.tables e below PP (s₁.setTop (mkF m 0 #[.val (.ref a1)] []))
  refine Go.st (fun t k => XS.aloadN X0.here hx rfl (hb hby d7_0) rfl rfl k) ?_
  show Go p.tables e below PP (s₁.setTop (mkF m 1 #[.val (.ref a1)] [(.ref a1)]))
  obtain ⟨T1, X1, e1, st1⟩ := getF X0 hx hZ hown (host := "") (Or.inl (hw _ (List.mem_of_getElem? (i := 26) rfl))) Via.refl e0 F_value_a1 (g := (mkF m 1 #[.val (.ref a1)] [(.ref a1)])) rfl rfl (hb hby d7_1)
  refine Go.st st1 ?_
  show Go p.tables e below PP (T1.setTop (mkF m 4 #[.val (.ref a1)] [(.ref t1)]))
  obtain ⟨cl2, Ar2, S2, Nn2, -⟩ := id V_t1
  refine Go.st (fun t k => X1.arraylength hx (by rw [e1]; exact Ar2.1) (State.isArrayOf_alike hZ.alike Ar2.2.1) (g := (mkF m 4 #[.val (.ref a1)] [(.ref t1)])) rfl rfl (hb hby d7_4) _ k) ?_
  rw [len_of S2 Nn2]
  show Go p.tables e below PP (T1.setTop (mkF m 5 #[.val (.ref a1)] [(.int n1)]))
  refine Go.st (fun t k => XS.aloadN X1.here hx rfl (hb hby d7_5) rfl rfl k) ?_
  show Go p.tables e below PP (T1.setTop (mkF m 6 #[.val (.ref a1)] [(.ref a1), (.int n1)]))
  obtain ⟨v3, T3, L3, X3, hQ3, st3⟩ := callVi X1 hx hZ (C := "java/lang/String") (y := (⟨"java/lang/String", "coder", "()B"⟩ : MethodName)) (z := (⟨"java/lang/String", "coder", "()B"⟩ : MethodName)) (a := a1) (argsL := []) (rest := [(.int n1)]) hown (hw _ (List.mem_of_getElem? (i := 42) rfl)) (hw _ (List.mem_of_getElem? (i := 43) rfl)) (notFace_of_selects (args := #[]) (mvT hZ (hw _ (List.mem_of_getElem? (i := 45) rfl)))) (hw _ (List.mem_of_getElem? (i := 45) rfl)) (hw _ (List.mem_of_getElem? (i := 44) rfl)) (hw _ (List.mem_of_getElem? (i := 9) rfl)) (hw _ (List.mem_of_getElem? (i := 46) rfl)) (by decide) rfl E_a1 (rm8 l Z a0 hw [] a1 zc h0 n0 Zn F_coder_a1 SC hzc O) e1 1 (by decide) (by decide) (by decide) (by decide) (g := (mkF m 6 #[.val (.ref a1)] [(.ref a1), (.int n1)])) rfl (by rw [hml]; rfl) (lenOf pd_4 rfl) rfl (by show 2 * 0 + _ ≤ _; exact Nat.le_of_eq rfl) (hb hby d7_6)
  obtain ⟨rfl, rfl, e3⟩ := hQ3
  rw [List.append_nil] at X3
  refine Go.st st3 ?_
  show Go p.tables e below PP (T3.setTop (mkF m 9 #[.val (.ref a1)] [(.int (0 : Int32)), (.int n1)]))
  refine Go.st (fun t k => XS.ishr X3.here hx rfl (hb hby d7_9) rfl k) ?_
  show Go p.tables e below PP (T3.setTop (mkF m 10 #[.val (.ref a1)] [(.int (n1 >>> ((0 : Int32) &&& 31)))]))
  rw [hPP]
  refine endI X3 hx hlk hret (hb hby d7_10) ?_ (by decide) (by decide)
  show Q7 Z a1 t1 n1 f1 zc h0 n0 (some (.int (n1 >>> ((0 : Int32) &&& 31)))) T3.heap _
  rw [e3]
  exact ⟨by rw [own_shr0], rfl, rfl⟩
theorem d12_0 : decode jdk_43_method_4_code 0 = .ok (.iload_n 0, 1) := by decide +kernel
theorem d12_1 : decode jdk_43_method_4_code 1 = .ok (.ifCond .lt 14, 3) := by decide +kernel
theorem d12_4 : decode jdk_43_method_4_code 4 = .ok (.iload_n 0, 1) := by decide +kernel
theorem d12_5 : decode jdk_43_method_4_code 5 = .ok (.sipush 255, 3) := by decide +kernel
theorem d12_8 : decode jdk_43_method_4_code 8 = .ok (.if_icmp .gt 7, 3) := by decide +kernel
theorem d12_11 : decode jdk_43_method_4_code 11 = .ok (.iconst 1, 1) := by decide +kernel
theorem d12_12 : decode jdk_43_method_4_code 12 = .ok (.goto 4, 3) := by decide +kernel
theorem d12_15 : decode jdk_43_method_4_code 15 = .ok (.iconst 0, 1) := by decide +kernel
theorem d12_16 : decode jdk_43_method_4_code 16 = .ok (.ireturn, 1) := by decide +kernel
theorem pn_rm12 : plainName "java/lang/StringLatin1" = true := by first | (simp [plainName, overriddenIn]; done) | decide +kernel
theorem ef_rm12 (m : MethodId) (p1 : Int32) : entryFrame m #[(.int p1)] 1 = mkF m 0 #[.val (.int p1)] [] := by first | (simp [entryFrame, mkF, argsToLocals, Value.category]; done) | rfl
def Q12 (Z : State) (p1 : Int32) (h0 : Heap) (n0 : Nat) (v : Option Value) (h : Heap) (L : List Loc) : Prop := v = some (.int (bi (¬ p1 < (0 : Int32) ∧ ¬ (255 : Int32) < p1))) ∧ L = [] ∧ h = h0
set_option maxRecDepth 65536 in
set_option maxHeartbeats 40000000 in
theorem rm12 (l : Launch) (Z : State) (a0 : Array Value) (hw : ∀ d ∈ tables_1, d.before a0 Z = true) (ws : List Jvm.Cond) (p1 : Int32) (h0 : Heap) (n0 : Nat) (Z0 : n0 ≤ h0.size) :
    Con l Z (⟨"java/lang/StringLatin1", "canEncode", "(I)Z"⟩ : MethodName) jdk_43_method_4_code 1 (some .boolean) ws ({ frames := 0, cells := 0, slots := 0, locals := 0 } : Room) #[(.int p1)] h0 (Q12 Z p1 h0 n0) := by
  refine Con.of (plainFor_of_name pn_rm12) ?_
  intro p e s m below meth c s₁ hZ e0 X0 hx hby hml hown hnm hret hlk
  replace hml : c.maxLocals = 1 := hml
  have hown : s.vm.findClass "java/lang/StringLatin1" = some m.cls := hown
  have N0 : Fr n0 [] := Fr.nil n0
  obtain ⟨PP, hPP⟩ : ∃ P, P = Fine s below (Q12 Z p1 h0 n0) ({ frames := 0, cells := 0, slots := 0, locals := 0 } : Room).cells ({ frames := 0, cells := 0, slots := 0, locals := 0 } : Room).slots := ⟨_, rfl⟩
  rw [← hPP]
  refine Go.cast (ef_rm12 m p1) ?_
  have Zn : n0 ≤ h0.size := Z0
  show Go p.tables e below PP (s₁.setTop (mkF m 0 #[.val (.int p1)] []))
  refine Go.st (fun t k => XS.iloadN X0.here hx rfl (hb hby d12_0) rfl k) ?_
  show Go p.tables e below PP (s₁.setTop (mkF m 1 #[.val (.int p1)] [(.int p1)]))
  by_cases hc1 : p1 < (0 : Int32)
  · --
    refine Go.st (fun t k => XS.ifYes X0.here hx rfl (pc0 := 1) (pc' := 15) rfl (hb hby d12_1) rfl (XT.i0_lt_t hc1) (by decide) (by decide) k) ?_
    show Go p.tables e below PP (s₁.setTop (mkF m 15 #[.val (.int p1)] []))
    refine Go.st (fun t k => XS.iconst X0.here hx rfl (hb hby d12_15) k) ?_
    show Go p.tables e below PP (s₁.setTop (mkF m 16 #[.val (.int p1)] [(.int (0 : Int32))]))
    rw [hPP]
    refine endN X0 hx hlk (t := .boolean) hret (by simp) (hb hby d12_16) (w := (0 : Int32)) (rfl) ?_ (by decide) (by decide)
    show Q12 Z p1 h0 n0 (some (.int (0 : Int32))) s₁.heap _
    rw [e0]
    exact ⟨by simp [bi, hc1], rfl, rfl⟩
  · --
    refine Go.st (fun t k => XS.ifNo X0.here hx rfl (hb hby d12_1) rfl (XT.i0_lt_f hc1) k) ?_
    show Go p.tables e below PP (s₁.setTop (mkF m 4 #[.val (.int p1)] []))
    refine Go.st (fun t k => XS.iloadN X0.here hx rfl (hb hby d12_4) rfl k) ?_
    show Go p.tables e below PP (s₁.setTop (mkF m 5 #[.val (.int p1)] [(.int p1)]))
    refine Go.st (fun t k => XS.sipush X0.here hx rfl (hb hby d12_5) k) ?_
    show Go p.tables e below PP (s₁.setTop (mkF m 8 #[.val (.int p1)] [(.int (255 : Int32)), (.int p1)]))
    by_cases hc8 : (255 : Int32) < p1
    · --
      refine Go.st (fun t k => XS.icmpYes X0.here hx rfl (pc0 := 8) (pc' := 15) rfl (hb hby d12_8) rfl (XT.ii_gt_t hc8) (by decide) (by decide) k) ?_
      show Go p.tables e below PP (s₁.setTop (mkF m 15 #[.val (.int p1)] []))
      refine Go.st (fun t k => XS.iconst X0.here hx rfl (hb hby d12_15) k) ?_
      show Go p.tables e below PP (s₁.setTop (mkF m 16 #[.val (.int p1)] [(.int (0 : Int32))]))
      rw [hPP]
      refine endN X0 hx hlk (t := .boolean) hret (by simp) (hb hby d12_16) (w := (0 : Int32)) (rfl) ?_ (by decide) (by decide)
      show Q12 Z p1 h0 n0 (some (.int (0 : Int32))) s₁.heap _
      rw [e0]
      exact ⟨by simp [bi, hc1, hc8], rfl, rfl⟩
    · --
      refine Go.st (fun t k => XS.icmpNo X0.here hx rfl (hb hby d12_8) rfl (XT.ii_gt_f hc8) k) ?_
      show Go p.tables e below PP (s₁.setTop (mkF m 11 #[.val (.int p1)] []))
      refine Go.st (fun t k => XS.iconst X0.here hx rfl (hb hby d12_11) k) ?_
      show Go p.tables e below PP (s₁.setTop (mkF m 12 #[.val (.int p1)] [(.int (1 : Int32))]))
      refine Go.st (fun t k => XS.goto X0.here hx rfl (pc0 := 12) (pc' := 16) rfl (hb hby d12_12) (by decide) (by decide) k) ?_
      show Go p.tables e below PP (s₁.setTop (mkF m 16 #[.val (.int p1)] [(.int (1 : Int32))]))
      rw [hPP]
      refine endN X0 hx hlk (t := .boolean) hret (by simp) (hb hby d12_16) (w := (1 : Int32)) (rfl) ?_ (by decide) (by decide)
      show Q12 Z p1 h0 n0 (some (.int (1 : Int32))) s₁.heap _
      rw [e0]
      exact ⟨by simp [bi, hc1, hc8], rfl, rfl⟩
theorem d13_0 : decode jdk_29_method_69_code 0 = .ok (.iload_n 0, 1) := by decide +kernel
theorem d13_1 : decode jdk_29_method_69_code 1 = .ok (.iload_n 1, 1) := by decide +kernel
theorem d13_2 : decode jdk_29_method_69_code 2 = .ok (.if_icmp .gt 7, 3) := by decide +kernel
theorem d13_5 : decode jdk_29_method_69_code 5 = .ok (.iload_n 0, 1) := by decide +kernel
theorem d13_6 : decode jdk_29_method_69_code 6 = .ok (.goto 4, 3) := by decide +kernel
theorem d13_9 : decode jdk_29_method_69_code 9 = .ok (.iload_n 1, 1) := by decide +kernel
theorem d13_10 : decode jdk_29_method_69_code 10 = .ok (.ireturn, 1) := by decide +kernel
theorem pn_rm13 : plainFor (⟨"java/lang/Math", "min", "(II)I"⟩ : MethodName) = true := Jvm.Free.JP.mathPlain rfl (by decide +kernel)
theorem ef_rm13 (m : MethodId) (p1 : Int32) (p2 : Int32) : entryFrame m #[(.int p1), (.int p2)] 2 = mkF m 0 #[.val (.int p1), .val (.int p2)] [] := by first | (simp [entryFrame, mkF, argsToLocals, Value.category]; done) | rfl
def Q13 (Z : State) (p1 : Int32) (p2 : Int32) (h0 : Heap) (n0 : Nat) (v : Option Value) (h : Heap) (L : List Loc) : Prop := v = some (.int (if p2 < p1 then p2 else p1)) ∧ L = [] ∧ h = h0
set_option maxRecDepth 65536 in
set_option maxHeartbeats 40000000 in
theorem rm13 (l : Launch) (Z : State) (a0 : Array Value) (hw : ∀ d ∈ tables_1, d.before a0 Z = true) (ws : List Jvm.Cond) (p1 : Int32) (p2 : Int32) (h0 : Heap) (n0 : Nat) (Z0 : n0 ≤ h0.size) :
    Con l Z (⟨"java/lang/Math", "min", "(II)I"⟩ : MethodName) jdk_29_method_69_code 2 (some .int) ws ({ frames := 0, cells := 0, slots := 0, locals := 0 } : Room) #[(.int p1), (.int p2)] h0 (Q13 Z p1 p2 h0 n0) := by
  refine Con.of pn_rm13 ?_
  intro p e s m below meth c s₁ hZ e0 X0 hx hby hml hown hnm hret hlk
  replace hml : c.maxLocals = 2 := hml
  have hown : s.vm.findClass "java/lang/Math" = some m.cls := hown
  have N0 : Fr n0 [] := Fr.nil n0
  obtain ⟨PP, hPP⟩ : ∃ P, P = Fine s below (Q13 Z p1 p2 h0 n0) ({ frames := 0, cells := 0, slots := 0, locals := 0 } : Room).cells ({ frames := 0, cells := 0, slots := 0, locals := 0 } : Room).slots := ⟨_, rfl⟩
  rw [← hPP]
  refine Go.cast (ef_rm13 m p1 p2) ?_
  have Zn : n0 ≤ h0.size := Z0
  show Go p.tables e below PP (s₁.setTop (mkF m 0 #[.val (.int p1), .val (.int p2)] []))
  refine Go.st (fun t k => XS.iloadN X0.here hx rfl (hb hby d13_0) rfl k) ?_
  show Go p.tables e below PP (s₁.setTop (mkF m 1 #[.val (.int p1), .val (.int p2)] [(.int p1)]))
  refine Go.st (fun t k => XS.iloadN X0.here hx rfl (hb hby d13_1) rfl k) ?_
  show Go p.tables e below PP (s₁.setTop (mkF m 2 #[.val (.int p1), .val (.int p2)] [(.int p2), (.int p1)]))
  by_cases hc2 : p2 < p1
  · --
    refine Go.st (fun t k => XS.icmpYes X0.here hx rfl (pc0 := 2) (pc' := 9) rfl (hb hby d13_2) rfl (XT.ii_gt_t hc2) (by decide) (by decide) k) ?_
    show Go p.tables e below PP (s₁.setTop (mkF m 9 #[.val (.int p1), .val (.int p2)] []))
    refine Go.st (fun t k => XS.iloadN X0.here hx rfl (hb hby d13_9) rfl k) ?_
    show Go p.tables e below PP (s₁.setTop (mkF m 10 #[.val (.int p1), .val (.int p2)] [(.int p2)]))
    rw [hPP]
    refine endI X0 hx hlk hret (hb hby d13_10) ?_ (by decide) (by decide)
    show Q13 Z p1 p2 h0 n0 (some (.int p2)) s₁.heap _
    rw [e0]
    exact ⟨by simp [hc2], rfl, rfl⟩
  · --
    refine Go.st (fun t k => XS.icmpNo X0.here hx rfl (hb hby d13_2) rfl (XT.ii_gt_f hc2) k) ?_
    show Go p.tables e below PP (s₁.setTop (mkF m 5 #[.val (.int p1), .val (.int p2)] []))
    refine Go.st (fun t k => XS.iloadN X0.here hx rfl (hb hby d13_5) rfl k) ?_
    show Go p.tables e below PP (s₁.setTop (mkF m 6 #[.val (.int p1), .val (.int p2)] [(.int p1)]))
    refine Go.st (fun t k => XS.goto X0.here hx rfl (pc0 := 6) (pc' := 10) rfl (hb hby d13_6) (by decide) (by decide) k) ?_
    show Go p.tables e below PP (s₁.setTop (mkF m 10 #[.val (.int p1), .val (.int p2)] [(.int p1)]))
    rw [hPP]
    refine endI X0 hx hlk hret (hb hby d13_10) ?_ (by decide) (by decide)
    show Q13 Z p1 p2 h0 n0 (some (.int p1)) s₁.heap _
    rw [e0]
    exact ⟨by simp [hc2], rfl, rfl⟩
def lastIx (f : Nat → Int32) (ch : Int32) : Nat → Int32
  | 0 => -1
  | k + 1 => if f k = ch then Int32.ofNat k else lastIx f ch k
theorem lastIx_succ (f : Nat → Int32) (ch : Int32) (k : Nat) : lastIx f ch (k + 1) = if f k = ch then Int32.ofNat k else lastIx f ch k := rfl
theorem lastIx_no {f : Nat → Int32} {ch r : Int32} {mm j : Nat} (h : r = lastIx f ch mm) (e : mm = j + 1) (q : ¬ f j = ch) : r = lastIx f ch j := by
  rw [h, e, lastIx_succ, if_neg q]
theorem lastIx_yes {f : Nat → Int32} {ch r i : Int32} {mm j : Nat} (h : r = lastIx f ch mm) (e : mm = j + 1) (q : f j = ch) (hi : i = Int32.ofNat j) : i = r := by
  rw [h, e, lastIx_succ, if_pos q, hi]
theorem own_dec (n i : Int32) (m : Nat) (h1 : i.toInt = (m : Int) - 1) (h2 : m ≤ n.toNatClampNeg) (h3 : ¬ i < (0 : Int32)) : ∃ j, m = j + 1 ∧ i.toNatClampNeg = j ∧ i < n ∧ (i + (-1 : Int32)).toInt = (j : Int) - 1 ∧ i = Int32.ofNat j := by
  have q := c_iadd i (-1)
  have r := rng32 (i + -1)
  have r2 := rng32 n
  have e1 : (-1 : Int32).toInt = -1 := rfl
  have e0 : (0 : Int32).toInt = 0 := rfl
  have e2 := rng32 i
  simp only [Int32.lt_iff_toInt_lt, Int32.toNatClampNeg] at *
  refine ⟨m - 1, by omega, by omega, by omega, by omega, ?_⟩
  apply Int32.toInt_inj.mp
  rw [Int32.toInt_ofNat_of_lt (by omega)]
  omega
theorem own_top (n : Int32) (h : ¬ n < (0 : Int32)) : (if (n - (1 : Int32)) < (n - (1 : Int32)) then (n - (1 : Int32)) else (n - (1 : Int32))).toInt = (n.toNatClampNeg : Int) - 1 := by
  have q := c_isub n 1
  have r := rng32 (n - 1)
  have r2 := rng32 n
  have e1 : (1 : Int32).toInt = 1 := rfl
  have e0 : (0 : Int32).toInt = 0 := rfl
  rw [if_neg (Int32.lt_irrefl)]
  simp only [Int32.lt_iff_toInt_lt, Int32.toNatClampNeg] at *
  omega
theorem d11_0 : decode jdk_43_method_27_code 0 = .ok (.iload_n 1, 1) := by decide +kernel
theorem d11_1 : decode jdk_43_method_27_code 1 = .ok (.invokestatic 88, 3) := by decide +kernel
theorem d11_4 : decode jdk_43_method_27_code 4 = .ok (.ifCond .ne 5, 3) := by decide +kernel
theorem d11_7 : decode jdk_43_method_27_code 7 = .ok (.iconst (-1), 1) := by decide +kernel
theorem d11_8 : decode jdk_43_method_27_code 8 = .ok (.ireturn, 1) := by decide +kernel
theorem d11_9 : decode jdk_43_method_27_code 9 = .ok (.iload_n 2, 1) := by decide +kernel
theorem d11_10 : decode jdk_43_method_27_code 10 = .ok (.aload_n 0, 1) := by decide +kernel
theorem d11_11 : decode jdk_43_method_27_code 11 = .ok (.arraylength, 1) := by decide +kernel
theorem d11_12 : decode jdk_43_method_27_code 12 = .ok (.iconst 1, 1) := by decide +kernel
theorem d11_13 : decode jdk_43_method_27_code 13 = .ok (.isub, 1) := by decide +kernel
theorem d11_14 : decode jdk_43_method_27_code 14 = .ok (.invokestatic 38, 3) := by decide +kernel
theorem d11_17 : decode jdk_43_method_27_code 17 = .ok (.istore_n 3, 1) := by decide +kernel
theorem d11_18 : decode jdk_43_method_27_code 18 = .ok (.iload_n 3, 1) := by decide +kernel
theorem d11_19 : decode jdk_43_method_27_code 19 = .ok (.ifCond .lt 19, 3) := by decide +kernel
theorem d11_22 : decode jdk_43_method_27_code 22 = .ok (.aload_n 0, 1) := by decide +kernel
theorem d11_23 : decode jdk_43_method_27_code 23 = .ok (.iload_n 3, 1) := by decide +kernel
theorem d11_24 : decode jdk_43_method_27_code 24 = .ok (.baload, 1) := by decide +kernel
theorem d11_25 : decode jdk_43_method_27_code 25 = .ok (.iload_n 1, 1) := by decide +kernel
theorem d11_26 : decode jdk_43_method_27_code 26 = .ok (.i2b, 1) := by decide +kernel
theorem d11_27 : decode jdk_43_method_27_code 27 = .ok (.if_icmp .ne 5, 3) := by decide +kernel
theorem d11_30 : decode jdk_43_method_27_code 30 = .ok (.iload_n 3, 1) := by decide +kernel
theorem d11_31 : decode jdk_43_method_27_code 31 = .ok (.ireturn, 1) := by decide +kernel
theorem d11_32 : decode jdk_43_method_27_code 32 = .ok (.iinc 3 (-1), 3) := by decide +kernel
theorem d11_35 : decode jdk_43_method_27_code 35 = .ok (.goto (-17), 3) := by decide +kernel
theorem d11_38 : decode jdk_43_method_27_code 38 = .ok (.iconst (-1), 1) := by decide +kernel
theorem d11_39 : decode jdk_43_method_27_code 39 = .ok (.ireturn, 1) := by decide +kernel
theorem pn_rm11 : plainName "java/lang/StringLatin1" = true := by first | (simp [plainName, overriddenIn]; done) | decide +kernel
theorem ef_rm11 (m : MethodId) (a1 : Addr) (p2 : Int32) : entryFrame m #[(.ref a1), (.int p2), (.int (n1 - (1 : Int32)))] 4 = mkF m 0 #[.val (.ref a1), .val (.int p2), .val (.int (n1 - (1 : Int32))), .unset] [] := by first | (simp [entryFrame, mkF, argsToLocals, Value.category]; done) | rfl
def Q11 (Z : State) (a1 : Addr) (p2 : Int32) (n1 : Int32) (f1 : Nat → Int32) (h0 : Heap) (n0 : Nat) (v : Option Value) (h : Heap) (L : List Loc) : Prop := v = some (.int (lastIx f1 p2 n1.toNatClampNeg)) ∧ L = [] ∧ h = h0
theorem pd_5 : parseMethodDescriptor "(I)Z" = some ⟨[.int], some .boolean⟩ := by decide +kernel
theorem pd_6 : parseMethodDescriptor "(II)I" = some ⟨[.int, .int], some .int⟩ := by decide +kernel
set_option maxRecDepth 65536 in
set_option maxHeartbeats 40000000 in
theorem rm11 (l : Launch) (Z : State) (a0 : Array Value) (hw : ∀ d ∈ tables_1, d.before a0 Z = true) (ws : List Jvm.Cond) (a1 : Addr) (p2 : Int32) (n1 : Int32) (f1 : Nat → Int32) (h0 : Heap) (n0 : Nat) (Z0 : n0 ≤ h0.size) (V1 : Afn Z h0 a1 .byte n1 (fun k => .int (f1 k))) (hch : p2 = p2.toInt8.toInt32 ∧ ¬ p2 < (0 : Int32) ∧ ¬ (255 : Int32) < p2) :
    Con l Z (⟨"java/lang/StringLatin1", "lastIndexOf", "([BII)I"⟩ : MethodName) jdk_43_method_27_code 4 (some .int) ws ({ frames := 1, cells := 0, slots := 0, locals := 15 } : Room) #[(.ref a1), (.int p2), (.int (n1 - (1 : Int32)))] h0 (Q11 Z a1 p2 n1 f1 h0 n0) := by
  refine Con.of (plainFor_of_name pn_rm11) ?_
  intro p e s m below meth c s₁ hZ e0 X0 hx hby hml hown hnm hret hlk
  replace hml : c.maxLocals = 4 := hml
  have hown : s.vm.findClass "java/lang/StringLatin1" = some m.cls := hown
  have N0 : Fr n0 [] := Fr.nil n0
  obtain ⟨PP, hPP⟩ : ∃ P, P = Fine s below (Q11 Z a1 p2 n1 f1 h0 n0) ({ frames := 1, cells := 0, slots := 0, locals := 15 } : Room).cells ({ frames := 1, cells := 0, slots := 0, locals := 15 } : Room).slots := ⟨_, rfl⟩
  rw [← hPP]
  refine Go.cast (ef_rm11 m a1 p2) ?_
  have Zn : n0 ≤ h0.size := Z0
  show Go p.tables e below PP (s₁.setTop (mkF m 0 #[.val (.ref a1), .val (.int p2), .val (.int (n1 - (1 : Int32))), .unset] []))
  refine Go.st (fun t k => XS.iloadN X0.here hx rfl (hb hby d11_0) rfl k) ?_
  show Go p.tables e below PP (s₁.setTop (mkF m 1 #[.val (.ref a1), .val (.int p2), .val (.int (n1 - (1 : Int32))), .unset] [(.int p2)]))
  obtain ⟨v1, T1, L1, X1, hQ1, st1⟩ := callSt X0 hx hZ (y := (⟨"java/lang/StringLatin1", "canEncode", "(I)Z"⟩ : MethodName)) (argsL := [(.int p2)]) (rest := []) hown (hw _ (List.mem_of_getElem? (i := 62) rfl)) (hw _ (List.mem_of_getElem? (i := 63) rfl)) (hw _ (List.mem_of_getElem? (i := 60) rfl)) (hw _ (List.mem_of_getElem? (i := 64) rfl)) (by decide) (rm12 l Z a0 hw [] p2 h0 n0 Zn) e0 0 (by decide) (by decide) (by decide) (by decide) (g := (mkF m 1 #[.val (.ref a1), .val (.int p2), .val (.int (n1 - (1 : Int32))), .unset] [(.int p2)])) rfl (by rw [hml]; rfl) (lenOf pd_5 rfl) rfl (by show 2 * 0 + _ ≤ _; exact Nat.le_of_eq rfl) (hb hby d11_1)
  obtain ⟨rfl, rfl, e1⟩ := hQ1
  rw [List.append_nil] at X1
  refine Go.st st1 ?_
  show Go p.tables e below PP (T1.setTop (mkF m 4 #[.val (.ref a1), .val (.int p2), .val (.int (n1 - (1 : Int32))), .unset] [(.int (bi (¬ p2 < (0 : Int32) ∧ ¬ (255 : Int32) < p2)))]))
  refine Go.st (fun t k => XS.ifYes X1.here hx rfl (pc0 := 4) (pc' := 9) rfl (hb hby d11_4) rfl (XT.i0_ne_t (by rw [bi_t hch.2]; decide)) (by decide) (by decide) k) ?_
  show Go p.tables e below PP (T1.setTop (mkF m 9 #[.val (.ref a1), .val (.int p2), .val (.int (n1 - (1 : Int32))), .unset] []))
  refine Go.st (fun t k => XS.iloadN X1.here hx rfl (hb hby d11_9) rfl k) ?_
  show Go p.tables e below PP (T1.setTop (mkF m 10 #[.val (.ref a1), .val (.int p2), .val (.int (n1 - (1 : Int32))), .unset] [(.int (n1 - (1 : Int32)))]))
  refine Go.st (fun t k => XS.aloadN X1.here hx rfl (hb hby d11_10) rfl rfl k) ?_
  show Go p.tables e below PP (T1.setTop (mkF m 11 #[.val (.ref a1), .val (.int p2), .val (.int (n1 - (1 : Int32))), .unset] [(.ref a1), (.int (n1 - (1 : Int32)))]))
  obtain ⟨cl2, Ar2, S2, Nn2, -⟩ := id V1
  refine Go.st (fun t k => X1.arraylength hx (by rw [e1]; exact Ar2.1) (State.isArrayOf_alike hZ.alike Ar2.2.1) (g := (mkF m 11 #[.val (.ref a1), .val (.int p2), .val (.int (n1 - (1 : Int32))), .unset] [(.ref a1), (.int (n1 - (1 : Int32)))])) rfl rfl (hb hby d11_11) _ k) ?_
  rw [len_of S2 Nn2]
  show Go p.tables e below PP (T1.setTop (mkF m 12 #[.val (.ref a1), .val (.int p2), .val (.int (n1 - (1 : Int32))), .unset] [(.int n1), (.int (n1 - (1 : Int32)))]))
  refine Go.st (fun t k => XS.iconst X1.here hx rfl (hb hby d11_12) k) ?_
  show Go p.tables e below PP (T1.setTop (mkF m 13 #[.val (.ref a1), .val (.int p2), .val (.int (n1 - (1 : Int32))), .unset] [(.int (1 : Int32)), (.int n1), (.int (n1 - (1 : Int32)))]))
  refine Go.st (fun t k => XS.isub X1.here hx rfl (hb hby d11_13) rfl k) ?_
  show Go p.tables e below PP (T1.setTop (mkF m 14 #[.val (.ref a1), .val (.int p2), .val (.int (n1 - (1 : Int32))), .unset] [(.int (n1 - (1 : Int32))), (.int (n1 - (1 : Int32)))]))
  obtain ⟨v3, T3, L3, X3, hQ3, st3⟩ := callSt X1 hx hZ (y := (⟨"java/lang/Math", "min", "(II)I"⟩ : MethodName)) (argsL := [(.int (n1 - (1 : Int32))), (.int (n1 - (1 : Int32)))]) (rest := []) hown (hw _ (List.mem_of_getElem? (i := 65) rfl)) (hw _ (List.mem_of_getElem? (i := 66) rfl)) (hw _ (List.mem_of_getElem? (i := 67) rfl)) (hw _ (List.mem_of_getElem? (i := 68) rfl)) (by decide) (rm13 l Z a0 hw [] (n1 - (1 : Int32)) (n1 - (1 : Int32)) h0 n0 Zn) e1 0 (by decide) (by decide) (by decide) (by decide) (g := (mkF m 14 #[.val (.ref a1), .val (.int p2), .val (.int (n1 - (1 : Int32))), .unset] [(.int (n1 - (1 : Int32))), (.int (n1 - (1 : Int32)))])) rfl (by rw [hml]; rfl) (lenOf pd_6 rfl) rfl (by show 2 * 0 + _ ≤ _; exact Nat.le_of_eq rfl) (hb hby d11_14)
  obtain ⟨rfl, rfl, e3⟩ := hQ3
  rw [List.append_nil] at X3
  refine Go.st st3 ?_
  show Go p.tables e below PP (T3.setTop (mkF m 17 #[.val (.ref a1), .val (.int p2), .val (.int (n1 - (1 : Int32))), .unset] [(.int (if (n1 - (1 : Int32)) < (n1 - (1 : Int32)) then (n1 - (1 : Int32)) else (n1 - (1 : Int32))))]))
  refine Go.st (fun t k => XS.istoreN X3.here hx rfl (hb hby d11_17) rfl (l' := #[.val (.ref a1), .val (.int p2), .val (.int (n1 - (1 : Int32))), .val (.int (if (n1 - (1 : Int32)) < (n1 - (1 : Int32)) then (n1 - (1 : Int32)) else (n1 - (1 : Int32))))]) rfl k) ?_
  have J18 : ∀ (d4 : Nat) (T4 : State) (i : Int32) (mm : Nat), Stand p l e ({ frames := 1, cells := 0, slots := 0, locals := 15 } : Room) s m #[(.ref a1), (.int p2), (.int (n1 - (1 : Int32)))] below meth c T4 [] 0 0 → T4.heap = h0 → (i.toInt = (mm : Int) - 1 ∧ mm ≤ n1.toNatClampNeg ∧ lastIx f1 p2 n1.toNatClampNeg = lastIx f1 p2 mm) → mm = d4 → Go p.tables e below PP (T4.setTop (mkF m 18 #[.val (.ref a1), .val (.int p2), .val (.int (n1 - (1 : Int32))), .val (.int i)] [])) := by
    intro d4
    induction d4 using Nat.strongRecOn with
    | _ d4 ih4 =>
      intro T4 i mm X4 e4 hJ18 hd4
      show Go p.tables e below PP (T4.setTop (mkF m 18 #[.val (.ref a1), .val (.int p2), .val (.int (n1 - (1 : Int32))), .val (.int i)] []))
      refine Go.st (fun t k => XS.iloadN X4.here hx rfl (hb hby d11_18) rfl k) ?_
      show Go p.tables e below PP (T4.setTop (mkF m 19 #[.val (.ref a1), .val (.int p2), .val (.int (n1 - (1 : Int32))), .val (.int i)] [(.int i)]))
      by_cases hc19 : i < (0 : Int32)
      · --
        refine Go.st (fun t k => XS.ifYes X4.here hx rfl (pc0 := 19) (pc' := 38) rfl (hb hby d11_19) rfl (XT.i0_lt_t hc19) (by decide) (by decide) k) ?_
        show Go p.tables e below PP (T4.setTop (mkF m 38 #[.val (.ref a1), .val (.int p2), .val (.int (n1 - (1 : Int32))), .val (.int i)] []))
        refine Go.st (fun t k => XS.iconst X4.here hx rfl (hb hby d11_38) k) ?_
        show Go p.tables e below PP (T4.setTop (mkF m 39 #[.val (.ref a1), .val (.int p2), .val (.int (n1 - (1 : Int32))), .val (.int i)] [(.int (-1 : Int32))]))
        rw [hPP]
        refine endI X4 hx hlk hret (hb hby d11_39) ?_ (by decide) (by decide)
        show Q11 Z a1 p2 n1 f1 h0 n0 (some (.int (-1 : Int32))) T4.heap _
        rw [e4]
        exact ⟨by rw [hJ18.2.2]; have : mm = 0 := (by have a := hJ18.1; rw [Int32.lt_iff_toInt_lt] at hc19; have e0 : (0 : Int32).toInt = 0 := rfl; omega); subst this; rfl, rfl, rfl⟩
      · --
        refine Go.st (fun t k => XS.ifNo X4.here hx rfl (hb hby d11_19) rfl (XT.i0_lt_f hc19) k) ?_
        obtain ⟨j, hj⟩ := own_dec _ _ _ hJ18.1 hJ18.2.1 hc19
        replace hj : mm = j + 1 ∧ i.toNatClampNeg = j ∧ (i + (-1 : Int32)).toInt = (j : Int) - 1 ∧ i < n1 ∧ i = Int32.ofNat j := ⟨hj.1, hj.2.1, hj.2.2.2.1, hj.2.2.1, hj.2.2.2.2⟩
        have hlt : j < mm := by rw [hj.1]; exact Nat.lt_succ_self j
        have hle : j ≤ n1.toNatClampNeg := Nat.le_trans (Nat.le_of_lt hlt) hJ18.2.1
        show Go p.tables e below PP (T4.setTop (mkF m 22 #[.val (.ref a1), .val (.int p2), .val (.int (n1 - (1 : Int32))), .val (.int i)] []))
        refine Go.st (fun t k => XS.aloadN X4.here hx rfl (hb hby d11_22) rfl rfl k) ?_
        show Go p.tables e below PP (T4.setTop (mkF m 23 #[.val (.ref a1), .val (.int p2), .val (.int (n1 - (1 : Int32))), .val (.int i)] [(.ref a1)]))
        refine Go.st (fun t k => XS.iloadN X4.here hx rfl (hb hby d11_23) rfl k) ?_
        show Go p.tables e below PP (T4.setTop (mkF m 24 #[.val (.ref a1), .val (.int p2), .val (.int (n1 - (1 : Int32))), .val (.int i)] [(.int i), (.ref a1)]))
        obtain ⟨cl5, Ar5, S5, Nn5, H5⟩ := id V1
        have hin5 : ¬ (i < 0 ∨ cl5.slots.size ≤ (i).toNatClampNeg) := inb_of S5 ⟨hc19, hj.2.2.2.1⟩
        refine Go.st (fun t k => X4.baloadBytes hx (j := i) (v := (.int (f1 i.toNatClampNeg))) (by rw [e4]; exact Ar5.1) (State.isArrayOf_alike hZ.alike Ar5.2.1) Ar5.2.2 hin5 ((H5 _ (inbN ⟨hc19, hj.2.2.2.1⟩)).1.trans (congrArg some (rfl))) (g := (mkF m 24 #[.val (.ref a1), .val (.int p2), .val (.int (n1 - (1 : Int32))), .val (.int i)] [(.int i), (.ref a1)])) rfl rfl (hb hby d11_24) _ k) ?_
        show Go p.tables e below PP (T4.setTop (mkF m 25 #[.val (.ref a1), .val (.int p2), .val (.int (n1 - (1 : Int32))), .val (.int i)] [(.int (f1 i.toNatClampNeg))]))
        refine Go.st (fun t k => XS.iloadN X4.here hx rfl (hb hby d11_25) rfl k) ?_
        show Go p.tables e below PP (T4.setTop (mkF m 26 #[.val (.ref a1), .val (.int p2), .val (.int (n1 - (1 : Int32))), .val (.int i)] [(.int p2), (.int (f1 i.toNatClampNeg))]))
        refine Go.st (fun t k => XS.i2b X4.here hx rfl (hb hby d11_26) rfl k) ?_
        show Go p.tables e below PP (T4.setTop (mkF m 27 #[.val (.ref a1), .val (.int p2), .val (.int (n1 - (1 : Int32))), .val (.int i)] [(.int (p2.toInt8.toInt32)), (.int (f1 i.toNatClampNeg))]))
        by_cases hc27 : (f1 i.toNatClampNeg) = (p2.toInt8.toInt32)
        · --
          refine Go.st (fun t k => XS.icmpNo X4.here hx rfl (hb hby d11_27) rfl (XT.ii_ne_f hc27) k) ?_
          have hfj := hc27
          rw [hj.2.1, ← hch.1] at hfj
          show Go p.tables e below PP (T4.setTop (mkF m 30 #[.val (.ref a1), .val (.int p2), .val (.int (n1 - (1 : Int32))), .val (.int i)] []))
          refine Go.st (fun t k => XS.iloadN X4.here hx rfl (hb hby d11_30) rfl k) ?_
          show Go p.tables e below PP (T4.setTop (mkF m 31 #[.val (.ref a1), .val (.int p2), .val (.int (n1 - (1 : Int32))), .val (.int i)] [(.int i)]))
          rw [hPP]
          refine endI X4 hx hlk hret (hb hby d11_31) ?_ (by decide) (by decide)
          show Q11 Z a1 p2 n1 f1 h0 n0 (some (.int i)) T4.heap _
          rw [e4]
          exact ⟨congrArg some (congrArg Value.int (lastIx_yes hJ18.2.2 hj.1 hfj hj.2.2.2.2)), rfl, rfl⟩
        · --
          refine Go.st (fun t k => XS.icmpYes X4.here hx rfl (pc0 := 27) (pc' := 32) rfl (hb hby d11_27) rfl (XT.ii_ne_t hc27) (by decide) (by decide) k) ?_
          have hfj := hc27
          rw [hj.2.1, ← hch.1] at hfj
          show Go p.tables e below PP (T4.setTop (mkF m 32 #[.val (.ref a1), .val (.int p2), .val (.int (n1 - (1 : Int32))), .val (.int i)] []))
          refine Go.st (fun t k => XS.iinc X4.here hx rfl (hb hby d11_32) rfl (l' := #[.val (.ref a1), .val (.int p2), .val (.int (n1 - (1 : Int32))), .val (.int (i + (-1 : Int32)))]) rfl k) ?_
          show Go p.tables e below PP (T4.setTop (mkF m 35 #[.val (.ref a1), .val (.int p2), .val (.int (n1 - (1 : Int32))), .val (.int (i + (-1 : Int32)))] []))
          refine Go.st (fun t k => XS.goto X4.here hx rfl (pc0 := 35) (pc' := 18) rfl (hb hby d11_35) (by decide) (by decide) k) ?_
          show Go p.tables e below PP (T4.setTop (mkF m 18 #[.val (.ref a1), .val (.int p2), .val (.int (n1 - (1 : Int32))), .val (.int (i + (-1 : Int32)))] []))
          exact ih4 _ (by subst_vars; assumption) _ _ _ X4 e4 (⟨hj.2.2.1, hle, lastIx_no hJ18.2.2 hj.1 hfj⟩) rfl
  show Go p.tables e below PP (T3.setTop (mkF m 18 #[.val (.ref a1), .val (.int p2), .val (.int (n1 - (1 : Int32))), .val (.int (if (n1 - (1 : Int32)) < (n1 - (1 : Int32)) then (n1 - (1 : Int32)) else (n1 - (1 : Int32))))] []))
  exact J18 _ _ _ _ X3 e3 (⟨own_top _ V1.nn, Nat.le_refl _, rfl⟩) rfl
theorem d9_0 : decode jdk_42_method_83_code 0 = .ok (.aload_n 0, 1) := by decide +kernel
theorem d9_1 : decode jdk_42_method_83_code 1 = .ok (.invokevirtual 492, 3) := by decide +kernel
theorem d9_4 : decode jdk_42_method_83_code 4 = .ok (.ifCond .eq 15, 3) := by decide +kernel
theorem d9_7 : decode jdk_42_method_83_code 7 = .ok (.aload_n 0, 1) := by decide +kernel
theorem d9_8 : decode jdk_42_method_83_code 8 = .ok (.getfield 9, 3) := by decide +kernel
theorem d9_11 : decode jdk_42_method_83_code 11 = .ok (.iload_n 1, 1) := by decide +kernel
theorem d9_12 : decode jdk_42_method_83_code 12 = .ok (.iload_n 2, 1) := by decide +kernel
theorem d9_13 : decode jdk_42_method_83_code 13 = .ok (.invokestatic 644, 3) := by decide +kernel
theorem d9_16 : decode jdk_42_method_83_code 16 = .ok (.goto 12, 3) := by decide +kernel
theorem d9_19 : decode jdk_42_method_83_code 19 = .ok (.aload_n 0, 1) := by decide +kernel
theorem d9_20 : decode jdk_42_method_83_code 20 = .ok (.getfield 9, 3) := by decide +kernel
theorem d9_23 : decode jdk_42_method_83_code 23 = .ok (.iload_n 1, 1) := by decide +kernel
theorem d9_24 : decode jdk_42_method_83_code 24 = .ok (.iload_n 2, 1) := by decide +kernel
theorem d9_25 : decode jdk_42_method_83_code 25 = .ok (.invokestatic 646, 3) := by decide +kernel
theorem d9_28 : decode jdk_42_method_83_code 28 = .ok (.ireturn, 1) := by decide +kernel
theorem pn_rm9 : plainName "java/lang/String" = true := by first | (simp [plainName, overriddenIn]; done) | decide +kernel
theorem ef_rm9 (m : MethodId) (a1 : Addr) (p2 : Int32) : entryFrame m #[(.ref a1), (.int p2), (.int (n1 - (1 : Int32)))] 3 = mkF m 0 #[.val (.ref a1), .val (.int p2), .val (.int (n1 - (1 : Int32)))] [] := by first | (simp [entryFrame, mkF, argsToLocals, Value.category]; done) | rfl
def Q9 (Z : State) (a1 : Addr) (p2 : Int32) (t1 : Addr) (n1 : Int32) (f1 : Nat → Int32) (zc : Int32) (h0 : Heap) (n0 : Nat) (v : Option Value) (h : Heap) (L : List Loc) : Prop := v = some (.int (lastIx f1 p2 n1.toNatClampNeg)) ∧ L = [] ∧ h = h0
theorem pd_7 : parseMethodDescriptor "()Z" = some ⟨[], some .boolean⟩ := by decide +kernel
theorem pd_8 : parseMethodDescriptor "([BII)I" = some ⟨[(.array .byte), .int, .int], some .int⟩ := by decide +kernel
set_option maxRecDepth 65536 in
set_option maxHeartbeats 40000000 in
theorem rm9 (l : Launch) (Z : State) (a0 : Array Value) (hw : ∀ d ∈ tables_1, d.before a0 Z = true) (ws : List Jvm.Cond) (a1 : Addr) (p2 : Int32) (t1 : Addr) (n1 : Int32) (f1 : Nat → Int32) (zc : Int32) (h0 : Heap) (n0 : Nat) (Z0 : n0 ≤ h0.size) (F_value_a1 : Fld Z h0 a1 "java/lang/String" "value" "[B" (.ref t1)) (F_coder_a1 : Fld Z h0 a1 "java/lang/String" "coder" "B" (.int (0 : Int32))) (V_t1 : Afn Z h0 t1 .byte n1 (fun k => .int (f1 k))) (E_a1 : Exa Z h0 a1 "java/lang/String") (SC : Sta Z Z.heap "java/lang/String" "COMPACT_STRINGS" "Z" (.int zc)) (hzc : ¬ zc = (0 : Int32)) (O : Old Z n0 h0) (hch : p2 = p2.toInt8.toInt32 ∧ ¬ p2 < (0 : Int32) ∧ ¬ (255 : Int32) < p2) :
    Con l Z (⟨"java/lang/String", "lastIndexOf", "(II)I"⟩ : MethodName) jdk_42_method_83_code 3 (some .int) ws ({ frames := 2, cells := 0, slots := 0, locals := 30 } : Room) #[(.ref a1), (.int p2), (.int (n1 - (1 : Int32)))] h0 (Q9 Z a1 p2 t1 n1 f1 zc h0 n0) := by
  refine Con.of (plainFor_of_name pn_rm9) ?_
  intro p e s m below meth c s₁ hZ e0 X0 hx hby hml hown hnm hret hlk
  replace hml : c.maxLocals = 3 := hml
  have hown : s.vm.findClass "java/lang/String" = some m.cls := hown
  have N0 : Fr n0 [] := Fr.nil n0
  obtain ⟨PP, hPP⟩ : ∃ P, P = Fine s below (Q9 Z a1 p2 t1 n1 f1 zc h0 n0) ({ frames := 2, cells := 0, slots := 0, locals := 30 } : Room).cells ({ frames := 2, cells := 0, slots := 0, locals := 30 } : Room).slots := ⟨_, rfl⟩
  rw [← hPP]
  refine Go.cast (ef_rm9 m a1 p2) ?_
  have Zn : n0 ≤ h0.size := Z0
  show Go p.tables e below PP (s₁.setTop (mkF m 0 #[.val (.ref a1), .val (.int p2), .val (.int (n1 - (1 : Int32)))] []))
  refine Go.st (fun t k => XS.aloadN X0.here hx rfl (hb hby d9_0) rfl rfl k) ?_
  show Go p.tables e below PP (s₁.setTop (mkF m 1 #[.val (.ref a1), .val (.int p2), .val (.int (n1 - (1 : Int32)))] [(.ref a1)]))
  obtain ⟨v1, T1, L1, X1, hQ1, st1⟩ := callVi X0 hx hZ (C := "java/lang/String") (y := (⟨"java/lang/String", "isLatin1", "()Z"⟩ : MethodName)) (z := (⟨"java/lang/String", "isLatin1", "()Z"⟩ : MethodName)) (a := a1) (argsL := []) (rest := []) hown (hw _ (List.mem_of_getElem? (i := 53) rfl)) (hw _ (List.mem_of_getElem? (i := 54) rfl)) (notFace_of_selects (args := #[]) (mvT hZ (hw _ (List.mem_of_getElem? (i := 56) rfl)))) (hw _ (List.mem_of_getElem? (i := 56) rfl)) (hw _ (List.mem_of_getElem? (i := 55) rfl)) (hw _ (List.mem_of_getElem? (i := 9) rfl)) (hw _ (List.mem_of_getElem? (i := 57) rfl)) (by decide) rfl E_a1 (rm10 l Z a0 hw [] a1 zc h0 n0 Zn F_coder_a1 SC hzc O) e0 0 (by decide) (by decide) (by decide) (by decide) (g := (mkF m 1 #[.val (.ref a1), .val (.int p2), .val (.int (n1 - (1 : Int32)))] [(.ref a1)])) rfl (by rw [hml]; rfl) (lenOf pd_7 rfl) rfl (by show 2 * 0 + _ ≤ _; exact Nat.le_of_eq rfl) (hb hby d9_1)
  obtain ⟨rfl, rfl, e1⟩ := hQ1
  rw [List.append_nil] at X1
  refine Go.st st1 ?_
  show Go p.tables e below PP (T1.setTop (mkF m 4 #[.val (.ref a1), .val (.int p2), .val (.int (n1 - (1 : Int32)))] [(.int (1 : Int32))]))
  refine Go.st (fun t k => XS.ifNo X1.here hx rfl (hb hby d9_4) rfl (XT.i0_eq_f (by decide)) k) ?_
  show Go p.tables e below PP (T1.setTop (mkF m 7 #[.val (.ref a1), .val (.int p2), .val (.int (n1 - (1 : Int32)))] []))
  refine Go.st (fun t k => XS.aloadN X1.here hx rfl (hb hby d9_7) rfl rfl k) ?_
  show Go p.tables e below PP (T1.setTop (mkF m 8 #[.val (.ref a1), .val (.int p2), .val (.int (n1 - (1 : Int32)))] [(.ref a1)]))
  obtain ⟨T2, X2, e2, st2⟩ := getF X1 hx hZ hown (host := "") (Or.inl (hw _ (List.mem_of_getElem? (i := 26) rfl))) Via.refl e1 F_value_a1 (g := (mkF m 8 #[.val (.ref a1), .val (.int p2), .val (.int (n1 - (1 : Int32)))] [(.ref a1)])) rfl rfl (hb hby d9_8)
  refine Go.st st2 ?_
  show Go p.tables e below PP (T2.setTop (mkF m 11 #[.val (.ref a1), .val (.int p2), .val (.int (n1 - (1 : Int32)))] [(.ref t1)]))
  refine Go.st (fun t k => XS.iloadN X2.here hx rfl (hb hby d9_11) rfl k) ?_
  show Go p.tables e below PP (T2.setTop (mkF m 12 #[.val (.ref a1), .val (.int p2), .val (.int (n1 - (1 : Int32)))] [(.int p2), (.ref t1)]))
  refine Go.st (fun t k => XS.iloadN X2.here hx rfl (hb hby d9_12) rfl k) ?_
  show Go p.tables e below PP (T2.setTop (mkF m 13 #[.val (.ref a1), .val (.int p2), .val (.int (n1 - (1 : Int32)))] [(.int (n1 - (1 : Int32))), (.int p2), (.ref t1)]))
  obtain ⟨v3, T3, L3, X3, hQ3, st3⟩ := callSt X2 hx hZ (y := (⟨"java/lang/StringLatin1", "lastIndexOf", "([BII)I"⟩ : MethodName)) (argsL := [(.ref t1), (.int p2), (.int (n1 - (1 : Int32)))]) (rest := []) hown (hw _ (List.mem_of_getElem? (i := 58) rfl)) (hw _ (List.mem_of_getElem? (i := 59) rfl)) (hw _ (List.mem_of_getElem? (i := 60) rfl)) (hw _ (List.mem_of_getElem? (i := 61) rfl)) (by decide) (rm11 l Z a0 hw [] t1 p2 n1 f1 h0 n0 Zn V_t1 hch) e2 0 (by decide) (by decide) (by decide) (by decide) (g := (mkF m 13 #[.val (.ref a1), .val (.int p2), .val (.int (n1 - (1 : Int32)))] [(.int (n1 - (1 : Int32))), (.int p2), (.ref t1)])) rfl (by rw [hml]; rfl) (lenOf pd_8 rfl) rfl (by show 2 * 0 + _ ≤ _; exact Nat.le_of_eq rfl) (hb hby d9_13)
  obtain ⟨rfl, rfl, e3⟩ := hQ3
  rw [List.append_nil] at X3
  refine Go.st st3 ?_
  show Go p.tables e below PP (T3.setTop (mkF m 16 #[.val (.ref a1), .val (.int p2), .val (.int (n1 - (1 : Int32)))] [(.int (lastIx f1 p2 n1.toNatClampNeg))]))
  refine Go.st (fun t k => XS.goto X3.here hx rfl (pc0 := 16) (pc' := 28) rfl (hb hby d9_16) (by decide) (by decide) k) ?_
  show Go p.tables e below PP (T3.setTop (mkF m 28 #[.val (.ref a1), .val (.int p2), .val (.int (n1 - (1 : Int32)))] [(.int (lastIx f1 p2 n1.toNatClampNeg))]))
  rw [hPP]
  refine endI X3 hx hlk hret (hb hby d9_28) ?_ (by decide) (by decide)
  show Q9 Z a1 p2 t1 n1 f1 zc h0 n0 (some (.int (lastIx f1 p2 n1.toNatClampNeg))) T3.heap _
  rw [e3]
  exact ⟨rfl, rfl, rfl⟩
theorem d6_0 : decode jdk_42_method_82_code 0 = .ok (.aload_n 0, 1) := by decide +kernel
theorem d6_1 : decode jdk_42_method_82_code 1 = .ok (.iload_n 1, 1) := by decide +kernel
theorem d6_2 : decode jdk_42_method_82_code 2 = .ok (.aload_n 0, 1) := by decide +kernel
theorem d6_3 : decode jdk_42_method_82_code 3 = .ok (.invokevirtual 505, 3) := by decide +kernel
theorem d6_6 : decode jdk_42_method_82_code 6 = .ok (.iconst 1, 1) := by decide +kernel
theorem d6_7 : decode jdk_42_method_82_code 7 = .ok (.isub, 1) := by decide +kernel
theorem d6_8 : decode jdk_42_method_82_code 8 = .ok (.invokevirtual 641, 3) := by decide +kernel
theorem d6_11 : decode jdk_42_method_82_code 11 = .ok (.ireturn, 1) := by decide +kernel
theorem pn_rm6 : plainName "java/lang/String" = true := by first | (simp [plainName, overriddenIn]; done) | decide +kernel
theorem ef_rm6 (m : MethodId) (a1 : Addr) (p2 : Int32) : entryFrame m #[(.ref a1), (.int p2)] 2 = mkF m 0 #[.val (.ref a1), .val (.int p2)] [] := by first | (simp [entryFrame, mkF, argsToLocals, Value.category]; done) | rfl
def Q6 (Z : State) (a1 : Addr) (p2 : Int32) (t1 : Addr) (n1 : Int32) (f1 : Nat → Int32) (zc : Int32) (h0 : Heap) (n0 : Nat) (v : Option Value) (h : Heap) (L : List Loc) : Prop := v = some (.int (lastIx f1 p2 n1.toNatClampNeg)) ∧ L = [] ∧ h = h0
theorem pd_9 : parseMethodDescriptor "()I" = some ⟨[], some .int⟩ := by decide +kernel
set_option maxRecDepth 65536 in
set_option maxHeartbeats 40000000 in
theorem rm6 (l : Launch) (Z : State) (a0 : Array Value) (hw : ∀ d ∈ tables_1, d.before a0 Z = true) (ws : List Jvm.Cond) (a1 : Addr) (p2 : Int32) (t1 : Addr) (n1 : Int32) (f1 : Nat → Int32) (zc : Int32) (h0 : Heap) (n0 : Nat) (Z0 : n0 ≤ h0.size) (F_value_a1 : Fld Z h0 a1 "java/lang/String" "value" "[B" (.ref t1)) (F_coder_a1 : Fld Z h0 a1 "java/lang/String" "coder" "B" (.int (0 : Int32))) (V_t1 : Afn Z h0 t1 .byte n1 (fun k => .int (f1 k))) (E_a1 : Exa Z h0 a1 "java/lang/String") (SC : Sta Z Z.heap "java/lang/String" "COMPACT_STRINGS" "Z" (.int zc)) (hzc : ¬ zc = (0 : Int32)) (O : Old Z n0 h0) (hch : p2 = p2.toInt8.toInt32 ∧ ¬ p2 < (0 : Int32) ∧ ¬ (255 : Int32) < p2) :
    Con l Z (⟨"java/lang/String", "lastIndexOf", "(I)I"⟩ : MethodName) jdk_42_method_82_code 2 (some .int) ws ({ frames := 3, cells := 0, slots := 0, locals := 44 } : Room) #[(.ref a1), (.int p2)] h0 (Q6 Z a1 p2 t1 n1 f1 zc h0 n0) := by
  refine Con.of (plainFor_of_name pn_rm6) ?_
  intro p e s m below meth c s₁ hZ e0 X0 hx hby hml hown hnm hret hlk
  replace hml : c.maxLocals = 2 := hml
  have hown : s.vm.findClass "java/lang/String" = some m.cls := hown
  have N0 : Fr n0 [] := Fr.nil n0
  obtain ⟨PP, hPP⟩ : ∃ P, P = Fine s below (Q6 Z a1 p2 t1 n1 f1 zc h0 n0) ({ frames := 3, cells := 0, slots := 0, locals := 44 } : Room).cells ({ frames := 3, cells := 0, slots := 0, locals := 44 } : Room).slots := ⟨_, rfl⟩
  rw [← hPP]
  refine Go.cast (ef_rm6 m a1 p2) ?_
  have Zn : n0 ≤ h0.size := Z0
  show Go p.tables e below PP (s₁.setTop (mkF m 0 #[.val (.ref a1), .val (.int p2)] []))
  refine Go.st (fun t k => XS.aloadN X0.here hx rfl (hb hby d6_0) rfl rfl k) ?_
  show Go p.tables e below PP (s₁.setTop (mkF m 1 #[.val (.ref a1), .val (.int p2)] [(.ref a1)]))
  refine Go.st (fun t k => XS.iloadN X0.here hx rfl (hb hby d6_1) rfl k) ?_
  show Go p.tables e below PP (s₁.setTop (mkF m 2 #[.val (.ref a1), .val (.int p2)] [(.int p2), (.ref a1)]))
  refine Go.st (fun t k => XS.aloadN X0.here hx rfl (hb hby d6_2) rfl rfl k) ?_
  show Go p.tables e below PP (s₁.setTop (mkF m 3 #[.val (.ref a1), .val (.int p2)] [(.ref a1), (.int p2), (.ref a1)]))
  obtain ⟨v1, T1, L1, X1, hQ1, st1⟩ := callVi X0 hx hZ (C := "java/lang/String") (y := (⟨"java/lang/String", "length", "()I"⟩ : MethodName)) (z := (⟨"java/lang/String", "length", "()I"⟩ : MethodName)) (a := a1) (argsL := []) (rest := [(.int p2), (.ref a1)]) hown (hw _ (List.mem_of_getElem? (i := 37) rfl)) (hw _ (List.mem_of_getElem? (i := 38) rfl)) (notFace_of_selects (args := #[]) (mvT hZ (hw _ (List.mem_of_getElem? (i := 40) rfl)))) (hw _ (List.mem_of_getElem? (i := 40) rfl)) (hw _ (List.mem_of_getElem? (i := 39) rfl)) (hw _ (List.mem_of_getElem? (i := 9) rfl)) (hw _ (List.mem_of_getElem? (i := 41) rfl)) (by decide) rfl E_a1 (rm7 l Z a0 hw [] a1 t1 n1 f1 zc h0 n0 Zn F_value_a1 F_coder_a1 V_t1 E_a1 SC hzc O) e0 2 (by decide) (by decide) (by decide) (by decide) (g := (mkF m 3 #[.val (.ref a1), .val (.int p2)] [(.ref a1), (.int p2), (.ref a1)])) rfl (by rw [hml]; rfl) (lenOf pd_9 rfl) rfl (by show 2 * 0 + _ ≤ _; exact Nat.le_of_eq rfl) (hb hby d6_3)
  obtain ⟨rfl, rfl, e1⟩ := hQ1
  rw [List.append_nil] at X1
  refine Go.st st1 ?_
  show Go p.tables e below PP (T1.setTop (mkF m 6 #[.val (.ref a1), .val (.int p2)] [(.int n1), (.int p2), (.ref a1)]))
  refine Go.st (fun t k => XS.iconst X1.here hx rfl (hb hby d6_6) k) ?_
  show Go p.tables e below PP (T1.setTop (mkF m 7 #[.val (.ref a1), .val (.int p2)] [(.int (1 : Int32)), (.int n1), (.int p2), (.ref a1)]))
  refine Go.st (fun t k => XS.isub X1.here hx rfl (hb hby d6_7) rfl k) ?_
  show Go p.tables e below PP (T1.setTop (mkF m 8 #[.val (.ref a1), .val (.int p2)] [(.int (n1 - (1 : Int32))), (.int p2), (.ref a1)]))
  obtain ⟨v2, T2, L2, X2, hQ2, st2⟩ := callVi X1 hx hZ (C := "java/lang/String") (y := (⟨"java/lang/String", "lastIndexOf", "(II)I"⟩ : MethodName)) (z := (⟨"java/lang/String", "lastIndexOf", "(II)I"⟩ : MethodName)) (a := a1) (argsL := [(.int p2), (.int (n1 - (1 : Int32)))]) (rest := []) hown (hw _ (List.mem_of_getElem? (i := 48) rfl)) (hw _ (List.mem_of_getElem? (i := 49) rfl)) (notFace_of_selects (args := #[]) (mvT hZ (hw _ (List.mem_of_getElem? (i := 51) rfl)))) (hw _ (List.mem_of_getElem? (i := 51) rfl)) (hw _ (List.mem_of_getElem? (i := 50) rfl)) (hw _ (List.mem_of_getElem? (i := 9) rfl)) (hw _ (List.mem_of_getElem? (i := 52) rfl)) (by decide) rfl E_a1 (rm9 l Z a0 hw [] a1 p2 t1 n1 f1 zc h0 n0 Zn F_value_a1 F_coder_a1 V_t1 E_a1 SC hzc O hch) e1 0 (by decide) (by decide) (by decide) (by decide) (g := (mkF m 8 #[.val (.ref a1), .val (.int p2)] [(.int (n1 - (1 : Int32))), (.int p2), (.ref a1)])) rfl (by rw [hml]; rfl) (lenOf pd_6 rfl) rfl (by show 2 * 0 + _ ≤ _; exact Nat.le_of_eq rfl) (hb hby d6_8)
  obtain ⟨rfl, rfl, e2⟩ := hQ2
  rw [List.append_nil] at X2
  refine Go.st st2 ?_
  show Go p.tables e below PP (T2.setTop (mkF m 11 #[.val (.ref a1), .val (.int p2)] [(.int (lastIx f1 p2 n1.toNatClampNeg))]))
  rw [hPP]
  refine endI X2 hx hlk hret (hb hby d6_11) ?_ (by decide) (by decide)
  show Q6 Z a1 p2 t1 n1 f1 zc h0 n0 (some (.int (lastIx f1 p2 n1.toNatClampNeg))) T2.heap _
  rw [e2]
  exact ⟨rfl, rfl, rfl⟩
def drawC (q1 : Int64) (p2 : Int32) : Int32 := if (((((q1.toUInt64 >>> (((9 : Int32) * p2) &&& 0x3f).toInt64.toUInt64).toInt64) &&& (511 : Int64)).toInt32) &&& (1 : Int32)) = (0 : Int32) then 64 else nar .char (((((((((q1.toUInt64 >>> (((9 : Int32) * p2) &&& 0x3f).toInt64.toUInt64).toInt64) &&& (511 : Int64)).toInt32).toUInt32 >>> ((1 : Int32) &&& 31).toUInt32).toInt32) &&& (255 : Int32))).toUInt32.toUInt16.toUInt32.toInt32)
theorem own_draw (x : Int64) (i c : Int32) (h : drawC x i = c) : ¬ c < (0 : Int32) ∧ ¬ (255 : Int32) < c ∧ nar .char c = c := by
  have e0 : (0 : Int32).toInt = 0 := rfl
  have e5 : (255 : Int32).toInt = 255 := rfl
  unfold drawC at h
  split at h
  · subst h; decide
  · generalize ((((((x.toUInt64 >>> (((9 : Int32) * i) &&& 0x3f).toInt64.toUInt64).toInt64) &&& (511 : Int64)).toInt32).toUInt32 >>> ((1 : Int32) &&& 31).toUInt32).toInt32) = y at h
    have q := c_and y 255 (by decide)
    rw [i2c_mask, own_nar _ (by omega)] at h
    subst h
    refine ⟨?_, ?_, own_nar _ (by omega)⟩ <;> rw [Int32.lt_iff_toInt_lt] <;> omega
theorem d1_0 : decode method_2_code 0 = .ok (.lload_n 0, 1) := by decide +kernel
theorem d1_1 : decode method_2_code 1 = .ok (.bipush 9, 2) := by decide +kernel
theorem d1_3 : decode method_2_code 3 = .ok (.iload_n 2, 1) := by decide +kernel
theorem d1_4 : decode method_2_code 4 = .ok (.imul, 1) := by decide +kernel
theorem d1_5 : decode method_2_code 5 = .ok (.lushr, 1) := by decide +kernel
theorem d1_6 : decode method_2_code 6 = .ok (.ldc2_w 7, 3) := by decide +kernel
theorem d1_9 : decode method_2_code 9 = .ok (.land, 1) := by decide +kernel
theorem d1_10 : decode method_2_code 10 = .ok (.l2i, 1) := by decide +kernel
theorem d1_11 : decode method_2_code 11 = .ok (.istore_n 3, 1) := by decide +kernel
theorem d1_12 : decode method_2_code 12 = .ok (.iload_n 3, 1) := by decide +kernel
theorem d1_13 : decode method_2_code 13 = .ok (.iconst 1, 1) := by decide +kernel
theorem d1_14 : decode method_2_code 14 = .ok (.iand, 1) := by decide +kernel
theorem d1_15 : decode method_2_code 15 = .ok (.ifCond .ne 6, 3) := by decide +kernel
theorem d1_18 : decode method_2_code 18 = .ok (.bipush 64, 2) := by decide +kernel
theorem d1_20 : decode method_2_code 20 = .ok (.ireturn, 1) := by decide +kernel
theorem d1_21 : decode method_2_code 21 = .ok (.iload_n 3, 1) := by decide +kernel
theorem d1_22 : decode method_2_code 22 = .ok (.iconst 1, 1) := by decide +kernel
theorem d1_23 : decode method_2_code 23 = .ok (.iushr, 1) := by decide +kernel
theorem d1_24 : decode method_2_code 24 = .ok (.sipush 255, 3) := by decide +kernel
theorem d1_27 : decode method_2_code 27 = .ok (.iand, 1) := by decide +kernel
theorem d1_28 : decode method_2_code 28 = .ok (.i2c, 1) := by decide +kernel
theorem d1_29 : decode method_2_code 29 = .ok (.ireturn, 1) := by decide +kernel
theorem pn_rm1 : plainName "com/example/crossname/crossname/access/EmailsIsAddressPinLaw" = true := by first | (simp [plainName, overriddenIn]; done) | decide +kernel
theorem ef_rm1 (m : MethodId) (q1 : Int64) (p2 : Int32) : entryFrame m #[(.long q1), (.int p2)] 4 = mkF m 0 #[.val (.long q1), .second, .val (.int p2), .unset] [] := by first | (simp [entryFrame, mkF, argsToLocals, Value.category]; done) | rfl
def Q1 (Z : State) (q1 : Int64) (p2 : Int32) (h0 : Heap) (n0 : Nat) (v : Option Value) (h : Heap) (L : List Loc) : Prop := v = some (.int (drawC q1 p2)) ∧ L = [] ∧ h = h0
set_option maxRecDepth 65536 in
set_option maxHeartbeats 40000000 in
theorem rm1 (l : Launch) (Z : State) (a0 : Array Value) (hw : ∀ d ∈ tables_1, d.before a0 Z = true) (ws : List Jvm.Cond) (q1 : Int64) (p2 : Int32) (h0 : Heap) (n0 : Nat) (Z0 : n0 ≤ h0.size) :
    Con l Z (⟨"com/example/crossname/crossname/access/EmailsIsAddressPinLaw", "draw", "(JI)C"⟩ : MethodName) method_2_code 4 (some .char) ws ({ frames := 0, cells := 0, slots := 0, locals := 0 } : Room) #[(.long q1), (.int p2)] h0 (Q1 Z q1 p2 h0 n0) := by
  refine Con.of (plainFor_of_name pn_rm1) ?_
  intro p e s m below meth c s₁ hZ e0 X0 hx hby hml hown hnm hret hlk
  replace hml : c.maxLocals = 4 := hml
  have hown : s.vm.findClass "com/example/crossname/crossname/access/EmailsIsAddressPinLaw" = some m.cls := hown
  have N0 : Fr n0 [] := Fr.nil n0
  obtain ⟨PP, hPP⟩ : ∃ P, P = Fine s below (Q1 Z q1 p2 h0 n0) ({ frames := 0, cells := 0, slots := 0, locals := 0 } : Room).cells ({ frames := 0, cells := 0, slots := 0, locals := 0 } : Room).slots := ⟨_, rfl⟩
  rw [← hPP]
  refine Go.cast (ef_rm1 m q1 p2) ?_
  have Zn : n0 ≤ h0.size := Z0
  show Go p.tables e below PP (s₁.setTop (mkF m 0 #[.val (.long q1), .second, .val (.int p2), .unset] []))
  refine Go.st (fun t k => XS.lloadN X0.here hx rfl (hb hby d1_0) rfl k) ?_
  show Go p.tables e below PP (s₁.setTop (mkF m 1 #[.val (.long q1), .second, .val (.int p2), .unset] [(.long q1)]))
  refine Go.st (fun t k => XS.bipush X0.here hx rfl (hb hby d1_1) k) ?_
  show Go p.tables e below PP (s₁.setTop (mkF m 3 #[.val (.long q1), .second, .val (.int p2), .unset] [(.int (9 : Int32)), (.long q1)]))
  refine Go.st (fun t k => XS.iloadN X0.here hx rfl (hb hby d1_3) rfl k) ?_
  show Go p.tables e below PP (s₁.setTop (mkF m 4 #[.val (.long q1), .second, .val (.int p2), .unset] [(.int p2), (.int (9 : Int32)), (.long q1)]))
  refine Go.st (fun t k => XS.imul X0.here hx rfl (hb hby d1_4) rfl k) ?_
  show Go p.tables e below PP (s₁.setTop (mkF m 5 #[.val (.long q1), .second, .val (.int p2), .unset] [(.int ((9 : Int32) * p2)), (.long q1)]))
  refine Go.st (fun t k => XS.lushr X0.here hx rfl (hb hby d1_5) rfl k) ?_
  show Go p.tables e below PP (s₁.setTop (mkF m 6 #[.val (.long q1), .second, .val (.int p2), .unset] [(.long ((q1.toUInt64 >>> (((9 : Int32) * p2) &&& 0x3f).toInt64.toUInt64).toInt64))]))
  refine Go.st (fun t k => X0.ldc2J hx hown (mvT hZ (hw _ (List.mem_of_getElem? (i := 5) rfl))) (g := (mkF m 6 #[.val (.long q1), .second, .val (.int p2), .unset] [(.long ((q1.toUInt64 >>> (((9 : Int32) * p2) &&& 0x3f).toInt64.toUInt64).toInt64))])) rfl (hb hby d1_6) k) ?_
  show Go p.tables e below PP (s₁.setTop (mkF m 9 #[.val (.long q1), .second, .val (.int p2), .unset] [(.long (511 : Int64)), (.long ((q1.toUInt64 >>> (((9 : Int32) * p2) &&& 0x3f).toInt64.toUInt64).toInt64))]))
  refine Go.st (fun t k => XS.land X0.here hx rfl (hb hby d1_9) rfl k) ?_
  show Go p.tables e below PP (s₁.setTop (mkF m 10 #[.val (.long q1), .second, .val (.int p2), .unset] [(.long (((q1.toUInt64 >>> (((9 : Int32) * p2) &&& 0x3f).toInt64.toUInt64).toInt64) &&& (511 : Int64)))]))
  refine Go.st (fun t k => XS.l2i X0.here hx rfl (hb hby d1_10) rfl k) ?_
  show Go p.tables e below PP (s₁.setTop (mkF m 11 #[.val (.long q1), .second, .val (.int p2), .unset] [(.int ((((q1.toUInt64 >>> (((9 : Int32) * p2) &&& 0x3f).toInt64.toUInt64).toInt64) &&& (511 : Int64)).toInt32))]))
  refine Go.st (fun t k => XS.istoreN X0.here hx rfl (hb hby d1_11) rfl (l' := #[.val (.long q1), .second, .val (.int p2), .val (.int ((((q1.toUInt64 >>> (((9 : Int32) * p2) &&& 0x3f).toInt64.toUInt64).toInt64) &&& (511 : Int64)).toInt32))]) rfl k) ?_
  show Go p.tables e below PP (s₁.setTop (mkF m 12 #[.val (.long q1), .second, .val (.int p2), .val (.int ((((q1.toUInt64 >>> (((9 : Int32) * p2) &&& 0x3f).toInt64.toUInt64).toInt64) &&& (511 : Int64)).toInt32))] []))
  refine Go.st (fun t k => XS.iloadN X0.here hx rfl (hb hby d1_12) rfl k) ?_
  show Go p.tables e below PP (s₁.setTop (mkF m 13 #[.val (.long q1), .second, .val (.int p2), .val (.int ((((q1.toUInt64 >>> (((9 : Int32) * p2) &&& 0x3f).toInt64.toUInt64).toInt64) &&& (511 : Int64)).toInt32))] [(.int ((((q1.toUInt64 >>> (((9 : Int32) * p2) &&& 0x3f).toInt64.toUInt64).toInt64) &&& (511 : Int64)).toInt32))]))
  refine Go.st (fun t k => XS.iconst X0.here hx rfl (hb hby d1_13) k) ?_
  show Go p.tables e below PP (s₁.setTop (mkF m 14 #[.val (.long q1), .second, .val (.int p2), .val (.int ((((q1.toUInt64 >>> (((9 : Int32) * p2) &&& 0x3f).toInt64.toUInt64).toInt64) &&& (511 : Int64)).toInt32))] [(.int (1 : Int32)), (.int ((((q1.toUInt64 >>> (((9 : Int32) * p2) &&& 0x3f).toInt64.toUInt64).toInt64) &&& (511 : Int64)).toInt32))]))
  refine Go.st (fun t k => XS.iand X0.here hx rfl (hb hby d1_14) rfl k) ?_
  show Go p.tables e below PP (s₁.setTop (mkF m 15 #[.val (.long q1), .second, .val (.int p2), .val (.int ((((q1.toUInt64 >>> (((9 : Int32) * p2) &&& 0x3f).toInt64.toUInt64).toInt64) &&& (511 : Int64)).toInt32))] [(.int (((((q1.toUInt64 >>> (((9 : Int32) * p2) &&& 0x3f).toInt64.toUInt64).toInt64) &&& (511 : Int64)).toInt32) &&& (1 : Int32)))]))
  by_cases hc15 : (((((q1.toUInt64 >>> (((9 : Int32) * p2) &&& 0x3f).toInt64.toUInt64).toInt64) &&& (511 : Int64)).toInt32) &&& (1 : Int32)) = (0 : Int32)
  · --
    refine Go.st (fun t k => XS.ifNo X0.here hx rfl (hb hby d1_15) rfl (XT.i0_ne_f hc15) k) ?_
    show Go p.tables e below PP (s₁.setTop (mkF m 18 #[.val (.long q1), .second, .val (.int p2), .val (.int ((((q1.toUInt64 >>> (((9 : Int32) * p2) &&& 0x3f).toInt64.toUInt64).toInt64) &&& (511 : Int64)).toInt32))] []))
    refine Go.st (fun t k => XS.bipush X0.here hx rfl (hb hby d1_18) k) ?_
    show Go p.tables e below PP (s₁.setTop (mkF m 20 #[.val (.long q1), .second, .val (.int p2), .val (.int ((((q1.toUInt64 >>> (((9 : Int32) * p2) &&& 0x3f).toInt64.toUInt64).toInt64) &&& (511 : Int64)).toInt32))] [(.int (64 : Int32))]))
    rw [hPP]
    refine endN X0 hx hlk (t := .char) hret (by simp) (hb hby d1_20) (w := (64 : Int32)) (rfl) ?_ (by decide) (by decide)
    show Q1 Z q1 p2 h0 n0 (some (.int (64 : Int32))) s₁.heap _
    rw [e0]
    exact ⟨by unfold drawC; rw [if_pos hc15], rfl, rfl⟩
  · --
    refine Go.st (fun t k => XS.ifYes X0.here hx rfl (pc0 := 15) (pc' := 21) rfl (hb hby d1_15) rfl (XT.i0_ne_t hc15) (by decide) (by decide) k) ?_
    show Go p.tables e below PP (s₁.setTop (mkF m 21 #[.val (.long q1), .second, .val (.int p2), .val (.int ((((q1.toUInt64 >>> (((9 : Int32) * p2) &&& 0x3f).toInt64.toUInt64).toInt64) &&& (511 : Int64)).toInt32))] []))
    refine Go.st (fun t k => XS.iloadN X0.here hx rfl (hb hby d1_21) rfl k) ?_
    show Go p.tables e below PP (s₁.setTop (mkF m 22 #[.val (.long q1), .second, .val (.int p2), .val (.int ((((q1.toUInt64 >>> (((9 : Int32) * p2) &&& 0x3f).toInt64.toUInt64).toInt64) &&& (511 : Int64)).toInt32))] [(.int ((((q1.toUInt64 >>> (((9 : Int32) * p2) &&& 0x3f).toInt64.toUInt64).toInt64) &&& (511 : Int64)).toInt32))]))
    refine Go.st (fun t k => XS.iconst X0.here hx rfl (hb hby d1_22) k) ?_
    show Go p.tables e below PP (s₁.setTop (mkF m 23 #[.val (.long q1), .second, .val (.int p2), .val (.int ((((q1.toUInt64 >>> (((9 : Int32) * p2) &&& 0x3f).toInt64.toUInt64).toInt64) &&& (511 : Int64)).toInt32))] [(.int (1 : Int32)), (.int ((((q1.toUInt64 >>> (((9 : Int32) * p2) &&& 0x3f).toInt64.toUInt64).toInt64) &&& (511 : Int64)).toInt32))]))
    refine Go.st (fun t k => XS.iushr X0.here hx rfl (hb hby d1_23) rfl k) ?_
    show Go p.tables e below PP (s₁.setTop (mkF m 24 #[.val (.long q1), .second, .val (.int p2), .val (.int ((((q1.toUInt64 >>> (((9 : Int32) * p2) &&& 0x3f).toInt64.toUInt64).toInt64) &&& (511 : Int64)).toInt32))] [(.int ((((((q1.toUInt64 >>> (((9 : Int32) * p2) &&& 0x3f).toInt64.toUInt64).toInt64) &&& (511 : Int64)).toInt32).toUInt32 >>> ((1 : Int32) &&& 31).toUInt32).toInt32))]))
    refine Go.st (fun t k => XS.sipush X0.here hx rfl (hb hby d1_24) k) ?_
    show Go p.tables e below PP (s₁.setTop (mkF m 27 #[.val (.long q1), .second, .val (.int p2), .val (.int ((((q1.toUInt64 >>> (((9 : Int32) * p2) &&& 0x3f).toInt64.toUInt64).toInt64) &&& (511 : Int64)).toInt32))] [(.int (255 : Int32)), (.int ((((((q1.toUInt64 >>> (((9 : Int32) * p2) &&& 0x3f).toInt64.toUInt64).toInt64) &&& (511 : Int64)).toInt32).toUInt32 >>> ((1 : Int32) &&& 31).toUInt32).toInt32))]))
    refine Go.st (fun t k => XS.iand X0.here hx rfl (hb hby d1_27) rfl k) ?_
    show Go p.tables e below PP (s₁.setTop (mkF m 28 #[.val (.long q1), .second, .val (.int p2), .val (.int ((((q1.toUInt64 >>> (((9 : Int32) * p2) &&& 0x3f).toInt64.toUInt64).toInt64) &&& (511 : Int64)).toInt32))] [(.int (((((((q1.toUInt64 >>> (((9 : Int32) * p2) &&& 0x3f).toInt64.toUInt64).toInt64) &&& (511 : Int64)).toInt32).toUInt32 >>> ((1 : Int32) &&& 31).toUInt32).toInt32) &&& (255 : Int32)))]))
    refine Go.st (fun t k => XS.i2c X0.here hx rfl (hb hby d1_28) rfl k) ?_
    show Go p.tables e below PP (s₁.setTop (mkF m 29 #[.val (.long q1), .second, .val (.int p2), .val (.int ((((q1.toUInt64 >>> (((9 : Int32) * p2) &&& 0x3f).toInt64.toUInt64).toInt64) &&& (511 : Int64)).toInt32))] [(.int ((((((((q1.toUInt64 >>> (((9 : Int32) * p2) &&& 0x3f).toInt64.toUInt64).toInt64) &&& (511 : Int64)).toInt32).toUInt32 >>> ((1 : Int32) &&& 31).toUInt32).toInt32) &&& (255 : Int32)).toUInt32.toUInt16.toUInt32.toInt32))]))
    rw [hPP]
    refine endN X0 hx hlk (t := .char) hret (by simp) (hb hby d1_29) (w := (nar .char ((((((((q1.toUInt64 >>> (((9 : Int32) * p2) &&& 0x3f).toInt64.toUInt64).toInt64) &&& (511 : Int64)).toInt32).toUInt32 >>> ((1 : Int32) &&& 31).toUInt32).toInt32) &&& (255 : Int32)).toUInt32.toUInt16.toUInt32.toInt32))) (rfl) ?_ (by decide) (by decide)
    show Q1 Z q1 p2 h0 n0 (some (.int (nar .char ((((((((q1.toUInt64 >>> (((9 : Int32) * p2) &&& 0x3f).toInt64.toUInt64).toInt64) &&& (511 : Int64)).toInt32).toUInt32 >>> ((1 : Int32) &&& 31).toUInt32).toInt32) &&& (255 : Int32)).toUInt32.toUInt16.toUInt32.toInt32)))) s₁.heap _
    rw [e0]
    exact ⟨by unfold drawC; rw [if_neg hc15], rfl, rfl⟩
theorem d5_0 : decode prog_9_method_2_code 0 = .ok (.aload_n 0, 1) := by decide +kernel
theorem d5_1 : decode prog_9_method_2_code 1 = .ok (.bipush 64, 2) := by decide +kernel
theorem d5_3 : decode prog_9_method_2_code 3 = .ok (.invokevirtual 7, 3) := by decide +kernel
theorem d5_6 : decode prog_9_method_2_code 6 = .ok (.istore_n 1, 1) := by decide +kernel
theorem d5_7 : decode prog_9_method_2_code 7 = .ok (.iload_n 1, 1) := by decide +kernel
theorem d5_8 : decode prog_9_method_2_code 8 = .ok (.ifCond .le 17, 3) := by decide +kernel
theorem d5_11 : decode prog_9_method_2_code 11 = .ok (.iload_n 1, 1) := by decide +kernel
theorem d5_12 : decode prog_9_method_2_code 12 = .ok (.aload_n 0, 1) := by decide +kernel
theorem d5_13 : decode prog_9_method_2_code 13 = .ok (.invokevirtual 13, 3) := by decide +kernel
theorem d5_16 : decode prog_9_method_2_code 16 = .ok (.iconst 1, 1) := by decide +kernel
theorem d5_17 : decode prog_9_method_2_code 17 = .ok (.isub, 1) := by decide +kernel
theorem d5_18 : decode prog_9_method_2_code 18 = .ok (.if_icmp .ge 7, 3) := by decide +kernel
theorem d5_21 : decode prog_9_method_2_code 21 = .ok (.iconst 1, 1) := by decide +kernel
theorem d5_22 : decode prog_9_method_2_code 22 = .ok (.goto 4, 3) := by decide +kernel
theorem d5_25 : decode prog_9_method_2_code 25 = .ok (.iconst 0, 1) := by decide +kernel
theorem d5_26 : decode prog_9_method_2_code 26 = .ok (.ireturn, 1) := by decide +kernel
theorem pn_rm5 : plainName "com/example/crossname/crossname/access/Emails" = true := by first | (simp [plainName, overriddenIn]; done) | decide +kernel
theorem ef_rm5 (m : MethodId) (a1 : Addr) : entryFrame m #[(.ref a1)] 2 = mkF m 0 #[.val (.ref a1), .unset] [] := by first | (simp [entryFrame, mkF, argsToLocals, Value.category]; done) | rfl
def Q5 (Z : State) (a1 : Addr) (t1 : Addr) (n1 : Int32) (f1 : Nat → Int32) (zc : Int32) (h0 : Heap) (n0 : Nat) (v : Option Value) (h : Heap) (L : List Loc) : Prop := v = some (.int (bi ((0 : Int32) < lastIx f1 (64 : Int32) n1.toNatClampNeg ∧ lastIx f1 (64 : Int32) n1.toNatClampNeg < (n1 - (1 : Int32))))) ∧ L = [] ∧ h = h0
theorem pd_10 : parseMethodDescriptor "(I)I" = some ⟨[.int], some .int⟩ := by decide +kernel
set_option maxRecDepth 65536 in
set_option maxHeartbeats 40000000 in
theorem rm5 (l : Launch) (Z : State) (a0 : Array Value) (hw : ∀ d ∈ tables_1, d.before a0 Z = true) (ws : List Jvm.Cond) (a1 : Addr) (t1 : Addr) (n1 : Int32) (f1 : Nat → Int32) (zc : Int32) (h0 : Heap) (n0 : Nat) (Z0 : n0 ≤ h0.size) (F_value_a1 : Fld Z h0 a1 "java/lang/String" "value" "[B" (.ref t1)) (F_coder_a1 : Fld Z h0 a1 "java/lang/String" "coder" "B" (.int (0 : Int32))) (V_t1 : Afn Z h0 t1 .byte n1 (fun k => .int (f1 k))) (E_a1 : Exa Z h0 a1 "java/lang/String") (SC : Sta Z Z.heap "java/lang/String" "COMPACT_STRINGS" "Z" (.int zc)) (hzc : ¬ zc = (0 : Int32)) (O : Old Z n0 h0) :
    Con l Z (⟨"com/example/crossname/crossname/access/Emails", "isAddress", "(Ljava/lang/String;)Z"⟩ : MethodName) prog_9_method_2_code 2 (some .boolean) ws ({ frames := 4, cells := 0, slots := 0, locals := 57 } : Room) #[(.ref a1)] h0 (Q5 Z a1 t1 n1 f1 zc h0 n0) := by
  refine Con.of (plainFor_of_name pn_rm5) ?_
  intro p e s m below meth c s₁ hZ e0 X0 hx hby hml hown hnm hret hlk
  replace hml : c.maxLocals = 2 := hml
  have hown : s.vm.findClass "com/example/crossname/crossname/access/Emails" = some m.cls := hown
  have N0 : Fr n0 [] := Fr.nil n0
  obtain ⟨PP, hPP⟩ : ∃ P, P = Fine s below (Q5 Z a1 t1 n1 f1 zc h0 n0) ({ frames := 4, cells := 0, slots := 0, locals := 57 } : Room).cells ({ frames := 4, cells := 0, slots := 0, locals := 57 } : Room).slots := ⟨_, rfl⟩
  rw [← hPP]
  refine Go.cast (ef_rm5 m a1) ?_
  have Zn : n0 ≤ h0.size := Z0
  show Go p.tables e below PP (s₁.setTop (mkF m 0 #[.val (.ref a1), .unset] []))
  refine Go.st (fun t k => XS.aloadN X0.here hx rfl (hb hby d5_0) rfl rfl k) ?_
  show Go p.tables e below PP (s₁.setTop (mkF m 1 #[.val (.ref a1), .unset] [(.ref a1)]))
  refine Go.st (fun t k => XS.bipush X0.here hx rfl (hb hby d5_1) k) ?_
  show Go p.tables e below PP (s₁.setTop (mkF m 3 #[.val (.ref a1), .unset] [(.int (64 : Int32)), (.ref a1)]))
  obtain ⟨v1, T1, L1, X1, hQ1, st1⟩ := callVi X0 hx hZ (C := "java/lang/String") (y := (⟨"java/lang/String", "lastIndexOf", "(I)I"⟩ : MethodName)) (z := (⟨"java/lang/String", "lastIndexOf", "(I)I"⟩ : MethodName)) (a := a1) (argsL := [(.int (64 : Int32))]) (rest := []) hown (hw _ (List.mem_of_getElem? (i := 32) rfl)) (hw _ (List.mem_of_getElem? (i := 33) rfl)) (notFace_of_selects (args := #[]) (mvT hZ (hw _ (List.mem_of_getElem? (i := 35) rfl)))) (hw _ (List.mem_of_getElem? (i := 35) rfl)) (hw _ (List.mem_of_getElem? (i := 34) rfl)) (hw _ (List.mem_of_getElem? (i := 9) rfl)) (hw _ (List.mem_of_getElem? (i := 36) rfl)) (by decide) rfl E_a1 (rm6 l Z a0 hw [] a1 (64 : Int32) t1 n1 f1 zc h0 n0 Zn F_value_a1 F_coder_a1 V_t1 E_a1 SC hzc O (by decide)) e0 0 (by decide) (by decide) (by decide) (by decide) (g := (mkF m 3 #[.val (.ref a1), .unset] [(.int (64 : Int32)), (.ref a1)])) rfl (by rw [hml]; rfl) (lenOf pd_10 rfl) rfl (by show 2 * 0 + _ ≤ _; exact Nat.le_of_eq rfl) (hb hby d5_3)
  obtain ⟨rfl, rfl, e1⟩ := hQ1
  rw [List.append_nil] at X1
  refine Go.st st1 ?_
  show Go p.tables e below PP (T1.setTop (mkF m 6 #[.val (.ref a1), .unset] [(.int (lastIx f1 (64 : Int32) n1.toNatClampNeg))]))
  refine Go.st (fun t k => XS.istoreN X1.here hx rfl (hb hby d5_6) rfl (l' := #[.val (.ref a1), .val (.int (lastIx f1 (64 : Int32) n1.toNatClampNeg))]) rfl k) ?_
  show Go p.tables e below PP (T1.setTop (mkF m 7 #[.val (.ref a1), .val (.int (lastIx f1 (64 : Int32) n1.toNatClampNeg))] []))
  refine Go.st (fun t k => XS.iloadN X1.here hx rfl (hb hby d5_7) rfl k) ?_
  show Go p.tables e below PP (T1.setTop (mkF m 8 #[.val (.ref a1), .val (.int (lastIx f1 (64 : Int32) n1.toNatClampNeg))] [(.int (lastIx f1 (64 : Int32) n1.toNatClampNeg))]))
  by_cases hc8 : (0 : Int32) < (lastIx f1 (64 : Int32) n1.toNatClampNeg)
  · --
    refine Go.st (fun t k => XS.ifNo X1.here hx rfl (hb hby d5_8) rfl (XT.i0_le_f hc8) k) ?_
    show Go p.tables e below PP (T1.setTop (mkF m 11 #[.val (.ref a1), .val (.int (lastIx f1 (64 : Int32) n1.toNatClampNeg))] []))
    refine Go.st (fun t k => XS.iloadN X1.here hx rfl (hb hby d5_11) rfl k) ?_
    show Go p.tables e below PP (T1.setTop (mkF m 12 #[.val (.ref a1), .val (.int (lastIx f1 (64 : Int32) n1.toNatClampNeg))] [(.int (lastIx f1 (64 : Int32) n1.toNatClampNeg))]))
    refine Go.st (fun t k => XS.aloadN X1.here hx rfl (hb hby d5_12) rfl rfl k) ?_
    show Go p.tables e below PP (T1.setTop (mkF m 13 #[.val (.ref a1), .val (.int (lastIx f1 (64 : Int32) n1.toNatClampNeg))] [(.ref a1), (.int (lastIx f1 (64 : Int32) n1.toNatClampNeg))]))
    obtain ⟨v2, T2, L2, X2, hQ2, st2⟩ := callVi X1 hx hZ (C := "java/lang/String") (y := (⟨"java/lang/String", "length", "()I"⟩ : MethodName)) (z := (⟨"java/lang/String", "length", "()I"⟩ : MethodName)) (a := a1) (argsL := []) (rest := [(.int (lastIx f1 (64 : Int32) n1.toNatClampNeg))]) hown (hw _ (List.mem_of_getElem? (i := 79) rfl)) (hw _ (List.mem_of_getElem? (i := 38) rfl)) (notFace_of_selects (args := #[]) (mvT hZ (hw _ (List.mem_of_getElem? (i := 40) rfl)))) (hw _ (List.mem_of_getElem? (i := 40) rfl)) (hw _ (List.mem_of_getElem? (i := 39) rfl)) (hw _ (List.mem_of_getElem? (i := 9) rfl)) (hw _ (List.mem_of_getElem? (i := 41) rfl)) (by decide) rfl E_a1 (rm7 l Z a0 hw [] a1 t1 n1 f1 zc h0 n0 Zn F_value_a1 F_coder_a1 V_t1 E_a1 SC hzc O) e1 1 (by decide) (by decide) (by decide) (by decide) (g := (mkF m 13 #[.val (.ref a1), .val (.int (lastIx f1 (64 : Int32) n1.toNatClampNeg))] [(.ref a1), (.int (lastIx f1 (64 : Int32) n1.toNatClampNeg))])) rfl (by rw [hml]; rfl) (lenOf pd_9 rfl) rfl (by show 2 * 0 + _ ≤ _; exact Nat.le_of_eq rfl) (hb hby d5_13)
    obtain ⟨rfl, rfl, e2⟩ := hQ2
    rw [List.append_nil] at X2
    refine Go.st st2 ?_
    show Go p.tables e below PP (T2.setTop (mkF m 16 #[.val (.ref a1), .val (.int (lastIx f1 (64 : Int32) n1.toNatClampNeg))] [(.int n1), (.int (lastIx f1 (64 : Int32) n1.toNatClampNeg))]))
    refine Go.st (fun t k => XS.iconst X2.here hx rfl (hb hby d5_16) k) ?_
    show Go p.tables e below PP (T2.setTop (mkF m 17 #[.val (.ref a1), .val (.int (lastIx f1 (64 : Int32) n1.toNatClampNeg))] [(.int (1 : Int32)), (.int n1), (.int (lastIx f1 (64 : Int32) n1.toNatClampNeg))]))
    refine Go.st (fun t k => XS.isub X2.here hx rfl (hb hby d5_17) rfl k) ?_
    show Go p.tables e below PP (T2.setTop (mkF m 18 #[.val (.ref a1), .val (.int (lastIx f1 (64 : Int32) n1.toNatClampNeg))] [(.int (n1 - (1 : Int32))), (.int (lastIx f1 (64 : Int32) n1.toNatClampNeg))]))
    by_cases hc18 : (lastIx f1 (64 : Int32) n1.toNatClampNeg) < (n1 - (1 : Int32))
    · --
      refine Go.st (fun t k => XS.icmpNo X2.here hx rfl (hb hby d5_18) rfl (XT.ii_ge_f hc18) k) ?_
      show Go p.tables e below PP (T2.setTop (mkF m 21 #[.val (.ref a1), .val (.int (lastIx f1 (64 : Int32) n1.toNatClampNeg))] []))
      refine Go.st (fun t k => XS.iconst X2.here hx rfl (hb hby d5_21) k) ?_
      show Go p.tables e below PP (T2.setTop (mkF m 22 #[.val (.ref a1), .val (.int (lastIx f1 (64 : Int32) n1.toNatClampNeg))] [(.int (1 : Int32))]))
      refine Go.st (fun t k => XS.goto X2.here hx rfl (pc0 := 22) (pc' := 26) rfl (hb hby d5_22) (by decide) (by decide) k) ?_
      show Go p.tables e below PP (T2.setTop (mkF m 26 #[.val (.ref a1), .val (.int (lastIx f1 (64 : Int32) n1.toNatClampNeg))] [(.int (1 : Int32))]))
      rw [hPP]
      refine endN X2 hx hlk (t := .boolean) hret (by simp) (hb hby d5_26) (w := (1 : Int32)) (rfl) ?_ (by decide) (by decide)
      show Q5 Z a1 t1 n1 f1 zc h0 n0 (some (.int (1 : Int32))) T2.heap _
      rw [e2]
      exact ⟨by simp [bi, hc8, hc18], rfl, rfl⟩
    · --
      refine Go.st (fun t k => XS.icmpYes X2.here hx rfl (pc0 := 18) (pc' := 25) rfl (hb hby d5_18) rfl (XT.ii_ge_t hc18) (by decide) (by decide) k) ?_
      show Go p.tables e below PP (T2.setTop (mkF m 25 #[.val (.ref a1), .val (.int (lastIx f1 (64 : Int32) n1.toNatClampNeg))] []))
      refine Go.st (fun t k => XS.iconst X2.here hx rfl (hb hby d5_25) k) ?_
      show Go p.tables e below PP (T2.setTop (mkF m 26 #[.val (.ref a1), .val (.int (lastIx f1 (64 : Int32) n1.toNatClampNeg))] [(.int (0 : Int32))]))
      rw [hPP]
      refine endN X2 hx hlk (t := .boolean) hret (by simp) (hb hby d5_26) (w := (0 : Int32)) (rfl) ?_ (by decide) (by decide)
      show Q5 Z a1 t1 n1 f1 zc h0 n0 (some (.int (0 : Int32))) T2.heap _
      rw [e2]
      exact ⟨by simp [bi, hc8, hc18], rfl, rfl⟩
  · --
    refine Go.st (fun t k => XS.ifYes X1.here hx rfl (pc0 := 8) (pc' := 25) rfl (hb hby d5_8) rfl (XT.i0_le_t hc8) (by decide) (by decide) k) ?_
    show Go p.tables e below PP (T1.setTop (mkF m 25 #[.val (.ref a1), .val (.int (lastIx f1 (64 : Int32) n1.toNatClampNeg))] []))
    refine Go.st (fun t k => XS.iconst X1.here hx rfl (hb hby d5_25) k) ?_
    show Go p.tables e below PP (T1.setTop (mkF m 26 #[.val (.ref a1), .val (.int (lastIx f1 (64 : Int32) n1.toNatClampNeg))] [(.int (0 : Int32))]))
    rw [hPP]
    refine endN X1 hx hlk (t := .boolean) hret (by simp) (hb hby d5_26) (w := (0 : Int32)) (rfl) ?_ (by decide) (by decide)
    show Q5 Z a1 t1 n1 f1 zc h0 n0 (some (.int (0 : Int32))) T1.heap _
    rw [e1]
    exact ⟨by simp [bi, hc8], rfl, rfl⟩
def cs7 (c0 c1 c2 c3 c4 c5 c6 : Int32) (k : Nat) : Int32 := if k = 0 then c0 else if k = 1 then c1 else if k = 2 then c2 else if k = 3 then c3 else if k = 4 then c4 else if k = 5 then c5 else c6
theorem own_8 (x i : Int32) (hi : ((x &&& (2147483647 : Int32)) % (8 : Int32)) = i) : ¬ i < (0 : Int32) ∧ i.toInt < 8 := by
  have q := c_mask x 2147483647 31 (by decide) (by decide)
  have r := (c_irem (x &&& (2147483647 : Int32)) 8 8 (by decide)).1 (by omega)
  have e0 : (0 : Int32).toInt = 0 := rfl
  rw [hi] at r
  rw [Int32.lt_iff_toInt_lt]
  omega
theorem own_no (cs : Nat → Int32) (n b : Int32) (i : Nat) (hb : b.toInt = i) (h : ¬ b < n) (k : Nat) (hk : k < n.toNatClampNeg) : Value.int (if k < i then cs k else 0) = Value.int (if k < i + 1 then cs k else 0) := by
  rw [Int32.lt_iff_toInt_lt] at h
  simp only [Int32.toNatClampNeg] at hk
  rw [if_pos (by omega), if_pos (by omega)]
theorem own_yes (cs : Nat → Int32) (b c : Int32) (i : Nat) (hb : b.toNatClampNeg = i) (hc : nar .char c = cs i) (k : Nat) : (if k = b.toNatClampNeg then Value.int (nar .char c) else Value.int (if k < i then cs k else 0)) = Value.int (if k < i + 1 then cs k else 0) := by
  rw [hb, hc]
  by_cases z : k = i
  · subst z; simp
  · have q : (k < i + 1) = (k < i) := by simp only [eq_iff_iff]; omega
    simp [z, q]
theorem lastIx_spec (f : Nat → Int32) (ch : Int32) (N : Nat) : ((∀ k, k < N → ¬ f k = ch) ∧ lastIx f ch N = -1) ∨ ∃ k, k < N ∧ f k = ch ∧ (∀ j, k < j → j < N → ¬ f j = ch) ∧ lastIx f ch N = Int32.ofNat k := by
  induction N with
  | zero => exact Or.inl ⟨fun k hk => absurd hk (Nat.not_lt_zero _), rfl⟩
  | succ N ih =>
    rw [lastIx_succ]
    by_cases e : f N = ch
    · rw [if_pos e]
      exact Or.inr ⟨N, Nat.lt_succ_self _, e, fun j h1 h2 => absurd h2 (by omega), rfl⟩
    · rw [if_neg e]
      rcases ih with ⟨h1, h2⟩ | ⟨k, h1, h2, h3, h4⟩
      · exact Or.inl ⟨fun k hk => by
          by_cases z : k = N
          · subst z; exact e
          · exact h1 k (by omega), h2⟩
      · exact Or.inr ⟨k, by omega, h2, fun j q1 q2 => by
          by_cases z : j = N
          · subst z; exact e
          · exact h3 j q1 (by omega), h4⟩
theorem own_b64 (x : Int32) (h0 : ¬ x < (0 : Int32)) (h1 : ¬ (255 : Int32) < x) : (x.toInt8.toInt32 = (64 : Int32)) ↔ x = (64 : Int32) := by
  have q := c_i2b x
  have e0 : (0 : Int32).toInt = 0 := rfl
  have e5 : (255 : Int32).toInt = 255 := rfl
  have e6 : (64 : Int32).toInt = 64 := rfl
  rw [Int32.lt_iff_toInt_lt] at h0 h1
  rw [← Int32.toInt_inj, ← Int32.toInt_inj]
  omega
theorem own_mid (cs : Nat → Int32) (n : Int32) (hn : ¬ n < (0 : Int32) ∧ n.toInt < 8) (hcb : ∀ k, k < n.toNatClampNeg → ¬ cs k < (0 : Int32) ∧ ¬ (255 : Int32) < cs k) :
    ((0 : Int32) < lastIx (fun k => (cs k).toInt8.toInt32) (64 : Int32) n.toNatClampNeg ∧ lastIx (fun k => (cs k).toInt8.toInt32) (64 : Int32) n.toNatClampNeg < (n - (1 : Int32))) ↔ ((0 : Int32) < n ∧ ¬ cs (n - (1 : Int32)).toNatClampNeg = (64 : Int32) ∧ ∃ i, 1 ≤ i ∧ i < n.toNatClampNeg ∧ cs i = (64 : Int32)) := by
  have e0 : (0 : Int32).toInt = 0 := rfl
  have e1 : (1 : Int32).toInt = 1 := rfl
  have q := c_isub n 1
  have r := rng32 (n - 1)
  obtain ⟨hn0, hn8⟩ := hn
  rw [Int32.lt_iff_toInt_lt] at hn0
  have hN : (n.toNatClampNeg : Int) = n.toInt := by simp only [Int32.toNatClampNeg]; omega
  have hb : ∀ k, k < n.toNatClampNeg → ((cs k).toInt8.toInt32 = (64 : Int32) ↔ cs k = (64 : Int32)) := fun k hk => own_b64 _ (hcb k hk).1 (hcb k hk).2
  rcases lastIx_spec (fun k => (cs k).toInt8.toInt32) 64 n.toNatClampNeg with ⟨h1, h2⟩ | ⟨k, h1, h2, h3, h4⟩
  · rw [h2]
    refine ⟨fun z => absurd z.1 (by decide), fun ⟨z1, z2, i, i1, i2, i3⟩ => absurd ((hb i i2).mpr i3) (h1 i i2)⟩
  · rw [h4]
    have ek : (Int32.ofNat k).toInt = k := Int32.toInt_ofNat_of_lt (by omega)
    rw [Int32.lt_iff_toInt_lt, Int32.lt_iff_toInt_lt, Int32.lt_iff_toInt_lt, ek, e0]
    have h2' := (hb k h1).mp h2
    constructor
    · rintro ⟨z1, z2⟩
      have en : (n - 1).toNatClampNeg = n.toNatClampNeg - 1 := by simp only [Int32.toNatClampNeg] at *; omega
      refine ⟨by omega, fun w => ?_, k, by omega, h1, h2'⟩
      rw [en] at w
      exact h3 (n.toNatClampNeg - 1) (by omega) (by omega) ((hb _ (by omega)).mpr w)
    · rintro ⟨z1, z2, i, i1, i2, i3⟩
      have en : (n - 1).toNatClampNeg = n.toNatClampNeg - 1 := by simp only [Int32.toNatClampNeg] at *; omega
      have ki : i ≤ k := Nat.le_of_not_lt fun w => h3 i w i2 ((hb i i2).mpr i3)
      have kn : k ≠ n.toNatClampNeg - 1 := fun w => z2 (by rw [en, ← w]; exact h2')
      exact ⟨by omega, by omega⟩
theorem own_ha (n ch0 ch1 ch2 ch3 ch4 ch5 ch6 : Int32) (hn : ¬ n < (0 : Int32) ∧ n.toInt < 8) : (∃ i, 1 ≤ i ∧ i < n.toNatClampNeg ∧ cs7 ch0 ch1 ch2 ch3 ch4 ch5 ch6 i = (64 : Int32)) ↔ (((1 : Int32) < n ∧ ch1 = (64 : Int32)) ∨ ((2 : Int32) < n ∧ ch2 = (64 : Int32)) ∨ ((3 : Int32) < n ∧ ch3 = (64 : Int32)) ∨ ((4 : Int32) < n ∧ ch4 = (64 : Int32)) ∨ ((5 : Int32) < n ∧ ch5 = (64 : Int32)) ∨ ((6 : Int32) < n ∧ ch6 = (64 : Int32))) := by
  have e1 : (1 : Int32).toInt = 1 := rfl
  have e2 : (2 : Int32).toInt = 2 := rfl
  have e3 : (3 : Int32).toInt = 3 := rfl
  have e4 : (4 : Int32).toInt = 4 := rfl
  have e5 : (5 : Int32).toInt = 5 := rfl
  have e6 : (6 : Int32).toInt = 6 := rfl
  have e0 : (0 : Int32).toInt = 0 := rfl
  simp only [Int32.lt_iff_toInt_lt, Int32.toNatClampNeg, e1, e2, e3, e4, e5, e6, e0] at *
  constructor
  · rintro ⟨i, h1, h2, h3⟩
    have h4 : i = 1 ∨ i = 2 ∨ i = 3 ∨ i = 4 ∨ i = 5 ∨ i = 6 := by omega
    rcases h4 with rfl | rfl | rfl | rfl | rfl | rfl
    · exact Or.inl ⟨by omega, h3⟩
    · exact Or.inr (Or.inl ⟨by omega, h3⟩)
    · exact Or.inr (Or.inr (Or.inl ⟨by omega, h3⟩))
    · exact Or.inr (Or.inr (Or.inr (Or.inl ⟨by omega, h3⟩)))
    · exact Or.inr (Or.inr (Or.inr (Or.inr (Or.inl ⟨by omega, h3⟩))))
    · exact Or.inr (Or.inr (Or.inr (Or.inr (Or.inr ⟨by omega, h3⟩))))
  · rintro (⟨h, w⟩ | ⟨h, w⟩ | ⟨h, w⟩ | ⟨h, w⟩ | ⟨h, w⟩ | ⟨h, w⟩)
    · exact ⟨1, by omega, by omega, w⟩
    · exact ⟨2, by omega, by omega, w⟩
    · exact ⟨3, by omega, by omega, w⟩
    · exact ⟨4, by omega, by omega, w⟩
    · exact ⟨5, by omega, by omega, w⟩
    · exact ⟨6, by omega, by omega, w⟩
theorem own_fin (cs : Nat → Int32) (n ch0 ch1 ch2 ch3 ch4 ch5 ch6 b13 b14 b15 : Int32) (hcs : cs = cs7 ch0 ch1 ch2 ch3 ch4 ch5 ch6) (hn : ¬ n < (0 : Int32) ∧ n.toInt < 8) (hcb : ∀ k, k < n.toNatClampNeg → ¬ cs k < (0 : Int32) ∧ ¬ (255 : Int32) < cs k)
    (h13 : b13 = bi (((1 : Int32) < n ∧ ch1 = (64 : Int32)) ∨ ((2 : Int32) < n ∧ ch2 = (64 : Int32)) ∨ ((3 : Int32) < n ∧ ch3 = (64 : Int32)) ∨ ((4 : Int32) < n ∧ ch4 = (64 : Int32)) ∨ ((5 : Int32) < n ∧ ch5 = (64 : Int32)) ∨ ((6 : Int32) < n ∧ ch6 = (64 : Int32)))) (h14 : b14 = bi ((0 : Int32) < n ∧ cs (n - (1 : Int32)).toNatClampNeg = (64 : Int32))) (h15 : b15 = bi ((0 : Int32) < n ∧ b14 = (0 : Int32) ∧ ¬ b13 = (0 : Int32))) :
    (bi ((0 : Int32) < lastIx (fun k => (cs k).toInt8.toInt32) (64 : Int32) n.toNatClampNeg ∧ lastIx (fun k => (cs k).toInt8.toInt32) (64 : Int32) n.toNatClampNeg < (n - (1 : Int32)))) = b15 := by
  have key := own_mid cs n hn hcb
  have ha := own_ha n ch0 ch1 ch2 ch3 ch4 ch5 ch6 hn
  rw [← hcs] at ha
  rw [ha] at key
  subst h15 h14 h13
  unfold bi at *
  by_cases z0 : (0 : Int32) < n
  · by_cases z1 : cs (n - (1 : Int32)).toNatClampNeg = (64 : Int32)
    · rw [if_neg (fun w => (key.mp w).2.1 z1)]; simp [z0, z1]
    · by_cases z2 : ((1 : Int32) < n ∧ ch1 = (64 : Int32)) ∨ ((2 : Int32) < n ∧ ch2 = (64 : Int32)) ∨ ((3 : Int32) < n ∧ ch3 = (64 : Int32)) ∨ ((4 : Int32) < n ∧ ch4 = (64 : Int32)) ∨ ((5 : Int32) < n ∧ ch5 = (64 : Int32)) ∨ ((6 : Int32) < n ∧ ch6 = (64 : Int32))
      · have a14 : (if (0 : Int32) < n ∧ cs (n - (1 : Int32)).toNatClampNeg = (64 : Int32) then (1 : Int32) else 0) = 0 := if_neg (fun w => z1 w.2)
        rw [if_pos (key.mpr ⟨z0, z1, z2⟩), a14, if_pos z2, if_pos ⟨z0, rfl, by decide⟩]
      · rw [if_neg (fun w => z2 (key.mp w).2.2), if_neg z2]; simp
  · rw [if_neg (fun w => z0 (key.mp w).1)]; simp [z0]
theorem own_cb (ch0 ch1 ch2 ch3 ch4 ch5 ch6 n : Int32) (h0 : ¬ ch0 < (0 : Int32) ∧ ¬ (255 : Int32) < ch0 ∧ nar .char ch0 = ch0) (h1 : ¬ ch1 < (0 : Int32) ∧ ¬ (255 : Int32) < ch1 ∧ nar .char ch1 = ch1) (h2 : ¬ ch2 < (0 : Int32) ∧ ¬ (255 : Int32) < ch2 ∧ nar .char ch2 = ch2) (h3 : ¬ ch3 < (0 : Int32) ∧ ¬ (255 : Int32) < ch3 ∧ nar .char ch3 = ch3) (h4 : ¬ ch4 < (0 : Int32) ∧ ¬ (255 : Int32) < ch4 ∧ nar .char ch4 = ch4) (h5 : ¬ ch5 < (0 : Int32) ∧ ¬ (255 : Int32) < ch5 ∧ nar .char ch5 = ch5) (h6 : ¬ ch6 < (0 : Int32) ∧ ¬ (255 : Int32) < ch6 ∧ nar .char ch6 = ch6) : ∀ k, k < n.toNatClampNeg → ¬ cs7 ch0 ch1 ch2 ch3 ch4 ch5 ch6 k < (0 : Int32) ∧ ¬ (255 : Int32) < cs7 ch0 ch1 ch2 ch3 ch4 ch5 ch6 k := by
  intro k _
  unfold cs7
  repeat' split
  all_goals first | exact ⟨h0.1, h0.2.1⟩ | exact ⟨h1.1, h1.2.1⟩ | exact ⟨h2.1, h2.2.1⟩ | exact ⟨h3.1, h3.2.1⟩ | exact ⟨h4.1, h4.2.1⟩ | exact ⟨h5.1, h5.2.1⟩ | exact ⟨h6.1, h6.2.1⟩
theorem own_n1 (n : Int32) (h : ¬ n < (0 : Int32) ∧ n.toInt < 8) (h2 : (0 : Int32) < n) : ¬ (n - (1 : Int32)) < (0 : Int32) ∧ (n - (1 : Int32)) < n := by
  have q := c_isub n 1
  have r := rng32 (n - 1)
  have e0 : (0 : Int32).toInt = 0 := rfl
  have e1 : (1 : Int32).toInt = 1 := rfl
  simp only [Int32.lt_iff_toInt_lt] at *
  omega
theorem pn_rm0 : plainName "com/example/crossname/crossname/access/EmailsIsAddressPinLaw" = true := by first | (simp [plainName, overriddenIn]; done) | decide +kernel
theorem ef_rm0 (m : MethodId) (p1 : Int32) (q2 : Int64) : entryFrame m #[(.int p1), (.long q2)] maxLocals = mkF m 0 #[.val (.int p1), .val (.long q2), .second, .unset, .unset, .unset, .unset, .unset, .unset, .unset, .unset, .unset, .unset, .unset, .unset, .unset] [] := by first | (simp [entryFrame, mkF, argsToLocals, Value.category, maxLocals]; done) | rfl
def Q0 (Z : State) (p1 : Int32) (q2 : Int64) (zc : Int32) (h0 : Heap) (n0 : Nat) (v : Option Value) (h : Heap) (L : List Loc) : Prop := v = some (.int 1) ∧ Fr n0 L
theorem pd_11 : parseMethodDescriptor "(JI)C" = some ⟨[.long, .int], some .char⟩ := by decide +kernel
theorem pd_12 : parseMethodDescriptor "([C)V" = some ⟨[(.array .char)], none⟩ := by decide +kernel
theorem pd_13 : parseMethodDescriptor "(Ljava/lang/String;)Z" = some ⟨[(.object "java/lang/String")], some .boolean⟩ := by decide +kernel
set_option maxRecDepth 65536 in
set_option maxHeartbeats 40000000 in
theorem rm0 (l : Launch) (Z : State) (a0 : Array Value) (hw : ∀ d ∈ tables_1, d.before a0 Z = true) (ws : List Jvm.Cond) (p1 : Int32) (q2 : Int64) (zc : Int32) (h0 : Heap) (n0 : Nat) (Z0 : n0 ≤ h0.size) (hEL : EW Z a0 consts_1) (SC : Sta Z Z.heap "java/lang/String" "COMPACT_STRINGS" "Z" (.int zc)) (hzc : ¬ zc = (0 : Int32)) (O : Old Z n0 h0) :
    ConH l Z consts_1 x code maxLocals ret ws room_1 #[(.int p1), (.long q2)] h0 (Q0 Z p1 q2 zc h0 n0) := by
  refine ConH.of (plainFor_of_name pn_rm0) ?_
  intro p e s m below meth c s₁ vm0 k0 hZ e0 X0 hx hby hml hown hnm hret hlk hS hk CH CR
  replace hml : c.maxLocals = 16 := hml
  have hown : vm0.findClass "com/example/crossname/crossname/access/EmailsIsAddressPinLaw" = some m.cls := hown
  have N0 : Fr n0 [] := Fr.nil n0
  obtain ⟨PP, hPP⟩ : ∃ P, P = FineW Z consts_1 s below (Q0 Z p1 q2 zc h0 n0) room_1.cells room_1.slots := ⟨_, rfl⟩
  rw [← hPP]
  refine Go.cast (ef_rm0 m p1 q2) ?_
  have Zn : n0 ≤ h0.size := Z0
  show Go p.tables e below PP (s₁.setTop (mkF m 0 #[.val (.int p1), .val (.long q2), .second, .unset, .unset, .unset, .unset, .unset, .unset, .unset, .unset, .unset, .unset, .unset, .unset, .unset] []))
  refine Go.st (fun t k => XS.iloadN X0.here hx rfl (hb hby at_0) rfl k) ?_
  show Go p.tables e below PP (s₁.setTop (mkF m 1 #[.val (.int p1), .val (.long q2), .second, .unset, .unset, .unset, .unset, .unset, .unset, .unset, .unset, .unset, .unset, .unset, .unset, .unset] [(.int p1)]))
  refine Go.st (fun t k => X0.ldcI hx hown (mvT hZ (hw _ (List.mem_of_getElem? (i := 0) rfl))) (g := (mkF m 1 #[.val (.int p1), .val (.long q2), .second, .unset, .unset, .unset, .unset, .unset, .unset, .unset, .unset, .unset, .unset, .unset, .unset, .unset] [(.int p1)])) rfl (hb hby at_1) k) ?_
  show Go p.tables e below PP (s₁.setTop (mkF m 3 #[.val (.int p1), .val (.long q2), .second, .unset, .unset, .unset, .unset, .unset, .unset, .unset, .unset, .unset, .unset, .unset, .unset, .unset] [(.int (2147483647 : Int32)), (.int p1)]))
  refine Go.st (fun t k => XS.iand X0.here hx rfl (hb hby at_3) rfl k) ?_
  show Go p.tables e below PP (s₁.setTop (mkF m 4 #[.val (.int p1), .val (.long q2), .second, .unset, .unset, .unset, .unset, .unset, .unset, .unset, .unset, .unset, .unset, .unset, .unset, .unset] [(.int (p1 &&& (2147483647 : Int32)))]))
  refine Go.st (fun t k => XS.bipush X0.here hx rfl (hb hby at_4) k) ?_
  show Go p.tables e below PP (s₁.setTop (mkF m 6 #[.val (.int p1), .val (.long q2), .second, .unset, .unset, .unset, .unset, .unset, .unset, .unset, .unset, .unset, .unset, .unset, .unset, .unset] [(.int (8 : Int32)), (.int (p1 &&& (2147483647 : Int32)))]))
  refine Go.st (fun t k => iremM X0 hx rfl (hb hby at_6) rfl (by decide) k) ?_
  generalize hn8 : ((p1 &&& (2147483647 : Int32)) % (8 : Int32)) = n
  replace hn8 := own_8 _ _ hn8
  have hn7 : n.toNatClampNeg ≤ 7 := by have a := hn8.2; simp only [Int32.toNatClampNeg]; omega
  show Go p.tables e below PP (s₁.setTop (mkF m 7 #[.val (.int p1), .val (.long q2), .second, .unset, .unset, .unset, .unset, .unset, .unset, .unset, .unset, .unset, .unset, .unset, .unset, .unset] [(.int n)]))
  refine Go.st (fun t k => XS.istoreN X0.here hx rfl (hb hby at_7) rfl (l' := #[.val (.int p1), .val (.long q2), .second, .val (.int n), .unset, .unset, .unset, .unset, .unset, .unset, .unset, .unset, .unset, .unset, .unset, .unset]) rfl k) ?_
  show Go p.tables e below PP (s₁.setTop (mkF m 8 #[.val (.int p1), .val (.long q2), .second, .val (.int n), .unset, .unset, .unset, .unset, .unset, .unset, .unset, .unset, .unset, .unset, .unset, .unset] []))
  refine Go.st (fun t k => XS.lloadN X0.here hx rfl (hb hby at_8) rfl k) ?_
  show Go p.tables e below PP (s₁.setTop (mkF m 9 #[.val (.int p1), .val (.long q2), .second, .val (.int n), .unset, .unset, .unset, .unset, .unset, .unset, .unset, .unset, .unset, .unset, .unset, .unset] [(.long q2)]))
  refine Go.st (fun t k => XS.iconst X0.here hx rfl (hb hby at_9) k) ?_
  show Go p.tables e below PP (s₁.setTop (mkF m 10 #[.val (.int p1), .val (.long q2), .second, .val (.int n), .unset, .unset, .unset, .unset, .unset, .unset, .unset, .unset, .unset, .unset, .unset, .unset] [(.int (0 : Int32)), (.long q2)]))
  obtain ⟨v1, T1, L1, X1, hQ1, st1⟩ := callSt X0 hx hZ (y := (⟨"com/example/crossname/crossname/access/EmailsIsAddressPinLaw", "draw", "(JI)C"⟩ : MethodName)) (argsL := [(.long q2), (.int (0 : Int32))]) (rest := []) hown (hw _ (List.mem_of_getElem? (i := 1) rfl)) (hw _ (List.mem_of_getElem? (i := 2) rfl)) (hw _ (List.mem_of_getElem? (i := 3) rfl)) (hw _ (List.mem_of_getElem? (i := 4) rfl)) (by decide) (rm1 l Z a0 hw [] q2 (0 : Int32) h0 n0 Zn) e0 0 (by decide) (by decide) (by decide) (by decide) (g := (mkF m 10 #[.val (.int p1), .val (.long q2), .second, .val (.int n), .unset, .unset, .unset, .unset, .unset, .unset, .unset, .unset, .unset, .unset, .unset, .unset] [(.int (0 : Int32)), (.long q2)])) rfl (by rw [hml]; rfl) (lenOf pd_11 rfl) rfl (by show 2 * 0 + _ ≤ _; exact Nat.le_of_eq rfl) (hb hby at_10)
  obtain ⟨rfl, rfl, e1⟩ := hQ1
  rw [List.append_nil] at X1
  refine Go.st st1 ?_
  generalize hch0 : (drawC q2 (0 : Int32)) = ch0
  replace hch0 := own_draw _ _ _ hch0
  show Go p.tables e below PP (T1.setTop (mkF m 13 #[.val (.int p1), .val (.long q2), .second, .val (.int n), .unset, .unset, .unset, .unset, .unset, .unset, .unset, .unset, .unset, .unset, .unset, .unset] [(.int ch0)]))
  refine Go.st (fun t k => XS.istore X1.here hx rfl (hb hby at_13) rfl (l' := #[.val (.int p1), .val (.long q2), .second, .val (.int n), .val (.int ch0), .unset, .unset, .unset, .unset, .unset, .unset, .unset, .unset, .unset, .unset, .unset]) rfl k) ?_
  show Go p.tables e below PP (T1.setTop (mkF m 15 #[.val (.int p1), .val (.long q2), .second, .val (.int n), .val (.int ch0), .unset, .unset, .unset, .unset, .unset, .unset, .unset, .unset, .unset, .unset, .unset] []))
  refine Go.st (fun t k => XS.lloadN X1.here hx rfl (hb hby at_15) rfl k) ?_
  show Go p.tables e below PP (T1.setTop (mkF m 16 #[.val (.int p1), .val (.long q2), .second, .val (.int n), .val (.int ch0), .unset, .unset, .unset, .unset, .unset, .unset, .unset, .unset, .unset, .unset, .unset] [(.long q2)]))
  refine Go.st (fun t k => XS.iconst X1.here hx rfl (hb hby at_16) k) ?_
  show Go p.tables e below PP (T1.setTop (mkF m 17 #[.val (.int p1), .val (.long q2), .second, .val (.int n), .val (.int ch0), .unset, .unset, .unset, .unset, .unset, .unset, .unset, .unset, .unset, .unset, .unset] [(.int (1 : Int32)), (.long q2)]))
  obtain ⟨v2, T2, L2, X2, hQ2, st2⟩ := callSt X1 hx hZ (y := (⟨"com/example/crossname/crossname/access/EmailsIsAddressPinLaw", "draw", "(JI)C"⟩ : MethodName)) (argsL := [(.long q2), (.int (1 : Int32))]) (rest := []) hown (hw _ (List.mem_of_getElem? (i := 1) rfl)) (hw _ (List.mem_of_getElem? (i := 2) rfl)) (hw _ (List.mem_of_getElem? (i := 3) rfl)) (hw _ (List.mem_of_getElem? (i := 4) rfl)) (by decide) (rm1 l Z a0 hw [] q2 (1 : Int32) h0 n0 Zn) e1 0 (by decide) (by decide) (by decide) (by decide) (g := (mkF m 17 #[.val (.int p1), .val (.long q2), .second, .val (.int n), .val (.int ch0), .unset, .unset, .unset, .unset, .unset, .unset, .unset, .unset, .unset, .unset, .unset] [(.int (1 : Int32)), (.long q2)])) rfl (by rw [hml]; rfl) (lenOf pd_11 rfl) rfl (by show 2 * 0 + _ ≤ _; exact Nat.le_of_eq rfl) (hb hby at_17)
  obtain ⟨rfl, rfl, e2⟩ := hQ2
  rw [List.append_nil] at X2
  refine Go.st st2 ?_
  generalize hch1 : (drawC q2 (1 : Int32)) = ch1
  replace hch1 := own_draw _ _ _ hch1
  show Go p.tables e below PP (T2.setTop (mkF m 20 #[.val (.int p1), .val (.long q2), .second, .val (.int n), .val (.int ch0), .unset, .unset, .unset, .unset, .unset, .unset, .unset, .unset, .unset, .unset, .unset] [(.int ch1)]))
  refine Go.st (fun t k => XS.istore X2.here hx rfl (hb hby at_20) rfl (l' := #[.val (.int p1), .val (.long q2), .second, .val (.int n), .val (.int ch0), .val (.int ch1), .unset, .unset, .unset, .unset, .unset, .unset, .unset, .unset, .unset, .unset]) rfl k) ?_
  show Go p.tables e below PP (T2.setTop (mkF m 22 #[.val (.int p1), .val (.long q2), .second, .val (.int n), .val (.int ch0), .val (.int ch1), .unset, .unset, .unset, .unset, .unset, .unset, .unset, .unset, .unset, .unset] []))
  refine Go.st (fun t k => XS.lloadN X2.here hx rfl (hb hby at_22) rfl k) ?_
  show Go p.tables e below PP (T2.setTop (mkF m 23 #[.val (.int p1), .val (.long q2), .second, .val (.int n), .val (.int ch0), .val (.int ch1), .unset, .unset, .unset, .unset, .unset, .unset, .unset, .unset, .unset, .unset] [(.long q2)]))
  refine Go.st (fun t k => XS.iconst X2.here hx rfl (hb hby at_23) k) ?_
  show Go p.tables e below PP (T2.setTop (mkF m 24 #[.val (.int p1), .val (.long q2), .second, .val (.int n), .val (.int ch0), .val (.int ch1), .unset, .unset, .unset, .unset, .unset, .unset, .unset, .unset, .unset, .unset] [(.int (2 : Int32)), (.long q2)]))
  obtain ⟨v3, T3, L3, X3, hQ3, st3⟩ := callSt X2 hx hZ (y := (⟨"com/example/crossname/crossname/access/EmailsIsAddressPinLaw", "draw", "(JI)C"⟩ : MethodName)) (argsL := [(.long q2), (.int (2 : Int32))]) (rest := []) hown (hw _ (List.mem_of_getElem? (i := 1) rfl)) (hw _ (List.mem_of_getElem? (i := 2) rfl)) (hw _ (List.mem_of_getElem? (i := 3) rfl)) (hw _ (List.mem_of_getElem? (i := 4) rfl)) (by decide) (rm1 l Z a0 hw [] q2 (2 : Int32) h0 n0 Zn) e2 0 (by decide) (by decide) (by decide) (by decide) (g := (mkF m 24 #[.val (.int p1), .val (.long q2), .second, .val (.int n), .val (.int ch0), .val (.int ch1), .unset, .unset, .unset, .unset, .unset, .unset, .unset, .unset, .unset, .unset] [(.int (2 : Int32)), (.long q2)])) rfl (by rw [hml]; rfl) (lenOf pd_11 rfl) rfl (by show 2 * 0 + _ ≤ _; exact Nat.le_of_eq rfl) (hb hby at_24)
  obtain ⟨rfl, rfl, e3⟩ := hQ3
  rw [List.append_nil] at X3
  refine Go.st st3 ?_
  generalize hch2 : (drawC q2 (2 : Int32)) = ch2
  replace hch2 := own_draw _ _ _ hch2
  show Go p.tables e below PP (T3.setTop (mkF m 27 #[.val (.int p1), .val (.long q2), .second, .val (.int n), .val (.int ch0), .val (.int ch1), .unset, .unset, .unset, .unset, .unset, .unset, .unset, .unset, .unset, .unset] [(.int ch2)]))
  refine Go.st (fun t k => XS.istore X3.here hx rfl (hb hby at_27) rfl (l' := #[.val (.int p1), .val (.long q2), .second, .val (.int n), .val (.int ch0), .val (.int ch1), .val (.int ch2), .unset, .unset, .unset, .unset, .unset, .unset, .unset, .unset, .unset]) rfl k) ?_
  show Go p.tables e below PP (T3.setTop (mkF m 29 #[.val (.int p1), .val (.long q2), .second, .val (.int n), .val (.int ch0), .val (.int ch1), .val (.int ch2), .unset, .unset, .unset, .unset, .unset, .unset, .unset, .unset, .unset] []))
  refine Go.st (fun t k => XS.lloadN X3.here hx rfl (hb hby at_29) rfl k) ?_
  show Go p.tables e below PP (T3.setTop (mkF m 30 #[.val (.int p1), .val (.long q2), .second, .val (.int n), .val (.int ch0), .val (.int ch1), .val (.int ch2), .unset, .unset, .unset, .unset, .unset, .unset, .unset, .unset, .unset] [(.long q2)]))
  refine Go.st (fun t k => XS.iconst X3.here hx rfl (hb hby at_30) k) ?_
  show Go p.tables e below PP (T3.setTop (mkF m 31 #[.val (.int p1), .val (.long q2), .second, .val (.int n), .val (.int ch0), .val (.int ch1), .val (.int ch2), .unset, .unset, .unset, .unset, .unset, .unset, .unset, .unset, .unset] [(.int (3 : Int32)), (.long q2)]))
  obtain ⟨v4, T4, L4, X4, hQ4, st4⟩ := callSt X3 hx hZ (y := (⟨"com/example/crossname/crossname/access/EmailsIsAddressPinLaw", "draw", "(JI)C"⟩ : MethodName)) (argsL := [(.long q2), (.int (3 : Int32))]) (rest := []) hown (hw _ (List.mem_of_getElem? (i := 1) rfl)) (hw _ (List.mem_of_getElem? (i := 2) rfl)) (hw _ (List.mem_of_getElem? (i := 3) rfl)) (hw _ (List.mem_of_getElem? (i := 4) rfl)) (by decide) (rm1 l Z a0 hw [] q2 (3 : Int32) h0 n0 Zn) e3 0 (by decide) (by decide) (by decide) (by decide) (g := (mkF m 31 #[.val (.int p1), .val (.long q2), .second, .val (.int n), .val (.int ch0), .val (.int ch1), .val (.int ch2), .unset, .unset, .unset, .unset, .unset, .unset, .unset, .unset, .unset] [(.int (3 : Int32)), (.long q2)])) rfl (by rw [hml]; rfl) (lenOf pd_11 rfl) rfl (by show 2 * 0 + _ ≤ _; exact Nat.le_of_eq rfl) (hb hby at_31)
  obtain ⟨rfl, rfl, e4⟩ := hQ4
  rw [List.append_nil] at X4
  refine Go.st st4 ?_
  generalize hch3 : (drawC q2 (3 : Int32)) = ch3
  replace hch3 := own_draw _ _ _ hch3
  show Go p.tables e below PP (T4.setTop (mkF m 34 #[.val (.int p1), .val (.long q2), .second, .val (.int n), .val (.int ch0), .val (.int ch1), .val (.int ch2), .unset, .unset, .unset, .unset, .unset, .unset, .unset, .unset, .unset] [(.int ch3)]))
  refine Go.st (fun t k => XS.istore X4.here hx rfl (hb hby at_34) rfl (l' := #[.val (.int p1), .val (.long q2), .second, .val (.int n), .val (.int ch0), .val (.int ch1), .val (.int ch2), .val (.int ch3), .unset, .unset, .unset, .unset, .unset, .unset, .unset, .unset]) rfl k) ?_
  show Go p.tables e below PP (T4.setTop (mkF m 36 #[.val (.int p1), .val (.long q2), .second, .val (.int n), .val (.int ch0), .val (.int ch1), .val (.int ch2), .val (.int ch3), .unset, .unset, .unset, .unset, .unset, .unset, .unset, .unset] []))
  refine Go.st (fun t k => XS.lloadN X4.here hx rfl (hb hby at_36) rfl k) ?_
  show Go p.tables e below PP (T4.setTop (mkF m 37 #[.val (.int p1), .val (.long q2), .second, .val (.int n), .val (.int ch0), .val (.int ch1), .val (.int ch2), .val (.int ch3), .unset, .unset, .unset, .unset, .unset, .unset, .unset, .unset] [(.long q2)]))
  refine Go.st (fun t k => XS.iconst X4.here hx rfl (hb hby at_37) k) ?_
  show Go p.tables e below PP (T4.setTop (mkF m 38 #[.val (.int p1), .val (.long q2), .second, .val (.int n), .val (.int ch0), .val (.int ch1), .val (.int ch2), .val (.int ch3), .unset, .unset, .unset, .unset, .unset, .unset, .unset, .unset] [(.int (4 : Int32)), (.long q2)]))
  obtain ⟨v5, T5, L5, X5, hQ5, st5⟩ := callSt X4 hx hZ (y := (⟨"com/example/crossname/crossname/access/EmailsIsAddressPinLaw", "draw", "(JI)C"⟩ : MethodName)) (argsL := [(.long q2), (.int (4 : Int32))]) (rest := []) hown (hw _ (List.mem_of_getElem? (i := 1) rfl)) (hw _ (List.mem_of_getElem? (i := 2) rfl)) (hw _ (List.mem_of_getElem? (i := 3) rfl)) (hw _ (List.mem_of_getElem? (i := 4) rfl)) (by decide) (rm1 l Z a0 hw [] q2 (4 : Int32) h0 n0 Zn) e4 0 (by decide) (by decide) (by decide) (by decide) (g := (mkF m 38 #[.val (.int p1), .val (.long q2), .second, .val (.int n), .val (.int ch0), .val (.int ch1), .val (.int ch2), .val (.int ch3), .unset, .unset, .unset, .unset, .unset, .unset, .unset, .unset] [(.int (4 : Int32)), (.long q2)])) rfl (by rw [hml]; rfl) (lenOf pd_11 rfl) rfl (by show 2 * 0 + _ ≤ _; exact Nat.le_of_eq rfl) (hb hby at_38)
  obtain ⟨rfl, rfl, e5⟩ := hQ5
  rw [List.append_nil] at X5
  refine Go.st st5 ?_
  generalize hch4 : (drawC q2 (4 : Int32)) = ch4
  replace hch4 := own_draw _ _ _ hch4
  show Go p.tables e below PP (T5.setTop (mkF m 41 #[.val (.int p1), .val (.long q2), .second, .val (.int n), .val (.int ch0), .val (.int ch1), .val (.int ch2), .val (.int ch3), .unset, .unset, .unset, .unset, .unset, .unset, .unset, .unset] [(.int ch4)]))
  refine Go.st (fun t k => XS.istore X5.here hx rfl (hb hby at_41) rfl (l' := #[.val (.int p1), .val (.long q2), .second, .val (.int n), .val (.int ch0), .val (.int ch1), .val (.int ch2), .val (.int ch3), .val (.int ch4), .unset, .unset, .unset, .unset, .unset, .unset, .unset]) rfl k) ?_
  show Go p.tables e below PP (T5.setTop (mkF m 43 #[.val (.int p1), .val (.long q2), .second, .val (.int n), .val (.int ch0), .val (.int ch1), .val (.int ch2), .val (.int ch3), .val (.int ch4), .unset, .unset, .unset, .unset, .unset, .unset, .unset] []))
  refine Go.st (fun t k => XS.lloadN X5.here hx rfl (hb hby at_43) rfl k) ?_
  show Go p.tables e below PP (T5.setTop (mkF m 44 #[.val (.int p1), .val (.long q2), .second, .val (.int n), .val (.int ch0), .val (.int ch1), .val (.int ch2), .val (.int ch3), .val (.int ch4), .unset, .unset, .unset, .unset, .unset, .unset, .unset] [(.long q2)]))
  refine Go.st (fun t k => XS.iconst X5.here hx rfl (hb hby at_44) k) ?_
  show Go p.tables e below PP (T5.setTop (mkF m 45 #[.val (.int p1), .val (.long q2), .second, .val (.int n), .val (.int ch0), .val (.int ch1), .val (.int ch2), .val (.int ch3), .val (.int ch4), .unset, .unset, .unset, .unset, .unset, .unset, .unset] [(.int (5 : Int32)), (.long q2)]))
  obtain ⟨v6, T6, L6, X6, hQ6, st6⟩ := callSt X5 hx hZ (y := (⟨"com/example/crossname/crossname/access/EmailsIsAddressPinLaw", "draw", "(JI)C"⟩ : MethodName)) (argsL := [(.long q2), (.int (5 : Int32))]) (rest := []) hown (hw _ (List.mem_of_getElem? (i := 1) rfl)) (hw _ (List.mem_of_getElem? (i := 2) rfl)) (hw _ (List.mem_of_getElem? (i := 3) rfl)) (hw _ (List.mem_of_getElem? (i := 4) rfl)) (by decide) (rm1 l Z a0 hw [] q2 (5 : Int32) h0 n0 Zn) e5 0 (by decide) (by decide) (by decide) (by decide) (g := (mkF m 45 #[.val (.int p1), .val (.long q2), .second, .val (.int n), .val (.int ch0), .val (.int ch1), .val (.int ch2), .val (.int ch3), .val (.int ch4), .unset, .unset, .unset, .unset, .unset, .unset, .unset] [(.int (5 : Int32)), (.long q2)])) rfl (by rw [hml]; rfl) (lenOf pd_11 rfl) rfl (by show 2 * 0 + _ ≤ _; exact Nat.le_of_eq rfl) (hb hby at_45)
  obtain ⟨rfl, rfl, e6⟩ := hQ6
  rw [List.append_nil] at X6
  refine Go.st st6 ?_
  generalize hch5 : (drawC q2 (5 : Int32)) = ch5
  replace hch5 := own_draw _ _ _ hch5
  show Go p.tables e below PP (T6.setTop (mkF m 48 #[.val (.int p1), .val (.long q2), .second, .val (.int n), .val (.int ch0), .val (.int ch1), .val (.int ch2), .val (.int ch3), .val (.int ch4), .unset, .unset, .unset, .unset, .unset, .unset, .unset] [(.int ch5)]))
  refine Go.st (fun t k => XS.istore X6.here hx rfl (hb hby at_48) rfl (l' := #[.val (.int p1), .val (.long q2), .second, .val (.int n), .val (.int ch0), .val (.int ch1), .val (.int ch2), .val (.int ch3), .val (.int ch4), .val (.int ch5), .unset, .unset, .unset, .unset, .unset, .unset]) rfl k) ?_
  show Go p.tables e below PP (T6.setTop (mkF m 50 #[.val (.int p1), .val (.long q2), .second, .val (.int n), .val (.int ch0), .val (.int ch1), .val (.int ch2), .val (.int ch3), .val (.int ch4), .val (.int ch5), .unset, .unset, .unset, .unset, .unset, .unset] []))
  refine Go.st (fun t k => XS.lloadN X6.here hx rfl (hb hby at_50) rfl k) ?_
  show Go p.tables e below PP (T6.setTop (mkF m 51 #[.val (.int p1), .val (.long q2), .second, .val (.int n), .val (.int ch0), .val (.int ch1), .val (.int ch2), .val (.int ch3), .val (.int ch4), .val (.int ch5), .unset, .unset, .unset, .unset, .unset, .unset] [(.long q2)]))
  refine Go.st (fun t k => XS.bipush X6.here hx rfl (hb hby at_51) k) ?_
  show Go p.tables e below PP (T6.setTop (mkF m 53 #[.val (.int p1), .val (.long q2), .second, .val (.int n), .val (.int ch0), .val (.int ch1), .val (.int ch2), .val (.int ch3), .val (.int ch4), .val (.int ch5), .unset, .unset, .unset, .unset, .unset, .unset] [(.int (6 : Int32)), (.long q2)]))
  obtain ⟨v7, T7, L7, X7, hQ7, st7⟩ := callSt X6 hx hZ (y := (⟨"com/example/crossname/crossname/access/EmailsIsAddressPinLaw", "draw", "(JI)C"⟩ : MethodName)) (argsL := [(.long q2), (.int (6 : Int32))]) (rest := []) hown (hw _ (List.mem_of_getElem? (i := 1) rfl)) (hw _ (List.mem_of_getElem? (i := 2) rfl)) (hw _ (List.mem_of_getElem? (i := 3) rfl)) (hw _ (List.mem_of_getElem? (i := 4) rfl)) (by decide) (rm1 l Z a0 hw [] q2 (6 : Int32) h0 n0 Zn) e6 0 (by decide) (by decide) (by decide) (by decide) (g := (mkF m 53 #[.val (.int p1), .val (.long q2), .second, .val (.int n), .val (.int ch0), .val (.int ch1), .val (.int ch2), .val (.int ch3), .val (.int ch4), .val (.int ch5), .unset, .unset, .unset, .unset, .unset, .unset] [(.int (6 : Int32)), (.long q2)])) rfl (by rw [hml]; rfl) (lenOf pd_11 rfl) rfl (by show 2 * 0 + _ ≤ _; exact Nat.le_of_eq rfl) (hb hby at_53)
  obtain ⟨rfl, rfl, e7⟩ := hQ7
  rw [List.append_nil] at X7
  refine Go.st st7 ?_
  generalize hch6 : (drawC q2 (6 : Int32)) = ch6
  replace hch6 := own_draw _ _ _ hch6
  show Go p.tables e below PP (T7.setTop (mkF m 56 #[.val (.int p1), .val (.long q2), .second, .val (.int n), .val (.int ch0), .val (.int ch1), .val (.int ch2), .val (.int ch3), .val (.int ch4), .val (.int ch5), .unset, .unset, .unset, .unset, .unset, .unset] [(.int ch6)]))
  refine Go.st (fun t k => XS.istore X7.here hx rfl (hb hby at_56) rfl (l' := #[.val (.int p1), .val (.long q2), .second, .val (.int n), .val (.int ch0), .val (.int ch1), .val (.int ch2), .val (.int ch3), .val (.int ch4), .val (.int ch5), .val (.int ch6), .unset, .unset, .unset, .unset, .unset]) rfl k) ?_
  obtain ⟨cs, hcs⟩ : ∃ f : Nat → Int32, f = cs7 ch0 ch1 ch2 ch3 ch4 ch5 ch6 := ⟨_, rfl⟩
  have hcb : ∀ k, k < n.toNatClampNeg → ¬ cs k < (0 : Int32) ∧ ¬ (255 : Int32) < cs k := by rw [hcs]; exact own_cb ch0 ch1 ch2 ch3 ch4 ch5 ch6 n hch0 hch1 hch2 hch3 hch4 hch5 hch6
  show Go p.tables e below PP (T7.setTop (mkF m 58 #[.val (.int p1), .val (.long q2), .second, .val (.int n), .val (.int ch0), .val (.int ch1), .val (.int ch2), .val (.int ch3), .val (.int ch4), .val (.int ch5), .val (.int ch6), .unset, .unset, .unset, .unset, .unset] []))
  refine Go.st (fun t k => XS.iloadN X7.here hx rfl (hb hby at_58) rfl k) ?_
  show Go p.tables e below PP (T7.setTop (mkF m 59 #[.val (.int p1), .val (.long q2), .second, .val (.int n), .val (.int ch0), .val (.int ch1), .val (.int ch2), .val (.int ch3), .val (.int ch4), .val (.int ch5), .val (.int ch6), .unset, .unset, .unset, .unset, .unset] [(.int n)]))
  obtain ⟨T8, h8, k8, X8, e8, E8, A8, st8⟩ := newP X7 hx hZ (hw _ (List.mem_of_getElem? (i := 6) rfl)) e7 (g := (mkF m 59 #[.val (.int p1), .val (.long q2), .second, .val (.int n), .val (.int ch0), .val (.int ch1), .val (.int ch2), .val (.int ch3), .val (.int ch4), .val (.int ch5), .val (.int ch6), .unset, .unset, .unset, .unset, .unset] [(.int n)])) rfl (hb hby at_59) rfl hn8.1 (cap := 7) hn7 (by decide) (by decide) (by decide)
  obtain ⟨b8, gz8⟩ : ∃ z, z = h0.size := ⟨_, rfl⟩
  rw [← gz8] at A8 st8
  have g_b8 : n0 ≤ b8 := Nat.le_trans Zn (Nat.le_of_eq gz8.symm)
  have SF_b8 : Safe Z consts_1 vm0 h0 b8 := Safe.new (Nat.le_of_eq gz8.symm)
  refine Go.st st8 ?_
  replace SF_b8 := Safe.ext E8 CH SF_b8
  replace CR := CR.trans (CHr.ext E8 CH)
  replace CH := CH.ext E8
  replace hk := Nat.le_trans hk E8.1
  replace O := O.ext E8
  replace Zn := Nat.le_trans Zn E8.1
  have V_b8 : Afn Z h8 b8 .char n (fun _ => (.int (0 : Int32))) := Afn.new A8 hn8.1
  show Go p.tables e below PP (T8.setTop (mkF m 61 #[.val (.int p1), .val (.long q2), .second, .val (.int n), .val (.int ch0), .val (.int ch1), .val (.int ch2), .val (.int ch3), .val (.int ch4), .val (.int ch5), .val (.int ch6), .unset, .unset, .unset, .unset, .unset] [(.ref b8)]))
  refine Go.st (fun t k => XS.astore X8.here hx rfl (hb hby at_61) rfl rfl (l' := #[.val (.int p1), .val (.long q2), .second, .val (.int n), .val (.int ch0), .val (.int ch1), .val (.int ch2), .val (.int ch3), .val (.int ch4), .val (.int ch5), .val (.int ch6), .val (.ref b8), .unset, .unset, .unset, .unset]) rfl k) ?_
  replace V_b8 := V_b8.congr (g := fun k => .int (if k < 0 then cs k else 0)) (fun k _ => by simp)
  have J73 : ∀ (T9 : State) (L9 : List Loc) (h9 : Heap) , Stand p l e room_1 (s.setVm vm0) m #[(.int p1), (.long q2)] below meth c T9 L9 1 7 → T9.heap = h9 → Fr n0 L9 → Afn Z h9 b8 .char n (fun k => .int (if k < 1 then cs k else 0)) → Old Z n0 h9 → n0 ≤ h9.size → CHv Z consts_1 vm0 h9 → CHr Z consts_1 s.vm s.heap vm0 h9 → k0 ≤ h9.size → Safe Z consts_1 vm0 h9 b8 → True → Go p.tables e below PP (T9.setTop (mkF m 73 #[.val (.int p1), .val (.long q2), .second, .val (.int n), .val (.int ch0), .val (.int ch1), .val (.int ch2), .val (.int ch3), .val (.int ch4), .val (.int ch5), .val (.int ch6), .val (.ref b8), .unset, .unset, .unset, .unset] [])) := by
    clear V_b8
    clear Zn O CH CR hk SF_b8
    intro T9 L9 h9  X9 e9 N9 V_b8 O Zn CH CR hk SF_b8 hJ73
    have J84 : ∀ (T10 : State) (L10 : List Loc) (h10 : Heap) , Stand p l e room_1 (s.setVm vm0) m #[(.int p1), (.long q2)] below meth c T10 L10 1 7 → T10.heap = h10 → Fr n0 L10 → Afn Z h10 b8 .char n (fun k => .int (if k < 2 then cs k else 0)) → Old Z n0 h10 → n0 ≤ h10.size → CHv Z consts_1 vm0 h10 → CHr Z consts_1 s.vm s.heap vm0 h10 → k0 ≤ h10.size → Safe Z consts_1 vm0 h10 b8 → True → Go p.tables e below PP (T10.setTop (mkF m 84 #[.val (.int p1), .val (.long q2), .second, .val (.int n), .val (.int ch0), .val (.int ch1), .val (.int ch2), .val (.int ch3), .val (.int ch4), .val (.int ch5), .val (.int ch6), .val (.ref b8), .unset, .unset, .unset, .unset] [])) := by
      clear V_b8
      clear Zn O CH CR hk SF_b8
      intro T10 L10 h10  X10 e10 N10 V_b8 O Zn CH CR hk SF_b8 hJ84
      have J95 : ∀ (T11 : State) (L11 : List Loc) (h11 : Heap) , Stand p l e room_1 (s.setVm vm0) m #[(.int p1), (.long q2)] below meth c T11 L11 1 7 → T11.heap = h11 → Fr n0 L11 → Afn Z h11 b8 .char n (fun k => .int (if k < 3 then cs k else 0)) → Old Z n0 h11 → n0 ≤ h11.size → CHv Z consts_1 vm0 h11 → CHr Z consts_1 s.vm s.heap vm0 h11 → k0 ≤ h11.size → Safe Z consts_1 vm0 h11 b8 → True → Go p.tables e below PP (T11.setTop (mkF m 95 #[.val (.int p1), .val (.long q2), .second, .val (.int n), .val (.int ch0), .val (.int ch1), .val (.int ch2), .val (.int ch3), .val (.int ch4), .val (.int ch5), .val (.int ch6), .val (.ref b8), .unset, .unset, .unset, .unset] [])) := by
        clear V_b8
        clear Zn O CH CR hk SF_b8
        intro T11 L11 h11  X11 e11 N11 V_b8 O Zn CH CR hk SF_b8 hJ95
        have J106 : ∀ (T12 : State) (L12 : List Loc) (h12 : Heap) , Stand p l e room_1 (s.setVm vm0) m #[(.int p1), (.long q2)] below meth c T12 L12 1 7 → T12.heap = h12 → Fr n0 L12 → Afn Z h12 b8 .char n (fun k => .int (if k < 4 then cs k else 0)) → Old Z n0 h12 → n0 ≤ h12.size → CHv Z consts_1 vm0 h12 → CHr Z consts_1 s.vm s.heap vm0 h12 → k0 ≤ h12.size → Safe Z consts_1 vm0 h12 b8 → True → Go p.tables e below PP (T12.setTop (mkF m 106 #[.val (.int p1), .val (.long q2), .second, .val (.int n), .val (.int ch0), .val (.int ch1), .val (.int ch2), .val (.int ch3), .val (.int ch4), .val (.int ch5), .val (.int ch6), .val (.ref b8), .unset, .unset, .unset, .unset] [])) := by
          clear V_b8
          clear Zn O CH CR hk SF_b8
          intro T12 L12 h12  X12 e12 N12 V_b8 O Zn CH CR hk SF_b8 hJ106
          have J117 : ∀ (T13 : State) (L13 : List Loc) (h13 : Heap) , Stand p l e room_1 (s.setVm vm0) m #[(.int p1), (.long q2)] below meth c T13 L13 1 7 → T13.heap = h13 → Fr n0 L13 → Afn Z h13 b8 .char n (fun k => .int (if k < 5 then cs k else 0)) → Old Z n0 h13 → n0 ≤ h13.size → CHv Z consts_1 vm0 h13 → CHr Z consts_1 s.vm s.heap vm0 h13 → k0 ≤ h13.size → Safe Z consts_1 vm0 h13 b8 → True → Go p.tables e below PP (T13.setTop (mkF m 117 #[.val (.int p1), .val (.long q2), .second, .val (.int n), .val (.int ch0), .val (.int ch1), .val (.int ch2), .val (.int ch3), .val (.int ch4), .val (.int ch5), .val (.int ch6), .val (.ref b8), .unset, .unset, .unset, .unset] [])) := by
            clear V_b8
            clear Zn O CH CR hk SF_b8
            intro T13 L13 h13  X13 e13 N13 V_b8 O Zn CH CR hk SF_b8 hJ117
            have J128 : ∀ (T14 : State) (L14 : List Loc) (h14 : Heap) , Stand p l e room_1 (s.setVm vm0) m #[(.int p1), (.long q2)] below meth c T14 L14 1 7 → T14.heap = h14 → Fr n0 L14 → Afn Z h14 b8 .char n (fun k => .int (if k < 6 then cs k else 0)) → Old Z n0 h14 → n0 ≤ h14.size → CHv Z consts_1 vm0 h14 → CHr Z consts_1 s.vm s.heap vm0 h14 → k0 ≤ h14.size → Safe Z consts_1 vm0 h14 b8 → True → Go p.tables e below PP (T14.setTop (mkF m 128 #[.val (.int p1), .val (.long q2), .second, .val (.int n), .val (.int ch0), .val (.int ch1), .val (.int ch2), .val (.int ch3), .val (.int ch4), .val (.int ch5), .val (.int ch6), .val (.ref b8), .unset, .unset, .unset, .unset] [])) := by
              clear V_b8
              clear Zn O CH CR hk SF_b8
              intro T14 L14 h14  X14 e14 N14 V_b8 O Zn CH CR hk SF_b8 hJ128
              have J141 : ∀ (T15 : State) (L15 : List Loc) (h15 : Heap) , Stand p l e room_1 (s.setVm vm0) m #[(.int p1), (.long q2)] below meth c T15 L15 1 7 → T15.heap = h15 → Fr n0 L15 → Afn Z h15 b8 .char n (fun k => .int (if k < 7 then cs k else 0)) → Old Z n0 h15 → n0 ≤ h15.size → CHv Z consts_1 vm0 h15 → CHr Z consts_1 s.vm s.heap vm0 h15 → k0 ≤ h15.size → Safe Z consts_1 vm0 h15 b8 → True → Go p.tables e below PP (T15.setTop (mkF m 141 #[.val (.int p1), .val (.long q2), .second, .val (.int n), .val (.int ch0), .val (.int ch1), .val (.int ch2), .val (.int ch3), .val (.int ch4), .val (.int ch5), .val (.int ch6), .val (.ref b8), .unset, .unset, .unset, .unset] [])) := by
                clear V_b8
                clear Zn O CH CR hk SF_b8
                intro T15 L15 h15  X15 e15 N15 V_b8 O Zn CH CR hk SF_b8 hJ141
                replace V_b8 := V_b8.congr (g := fun k => .int (cs k)) (fun k hk => by rw [if_pos (by omega)])
                show Go p.tables e below PP (T15.setTop (mkF m 141 #[.val (.int p1), .val (.long q2), .second, .val (.int n), .val (.int ch0), .val (.int ch1), .val (.int ch2), .val (.int ch3), .val (.int ch4), .val (.int ch5), .val (.int ch6), .val (.ref b8), .unset, .unset, .unset, .unset] []))
                obtain ⟨T16, h16, X16, e16, E16, A16, D16, -, st16⟩ := newO X15 hx hZ hown (hw _ (List.mem_of_getElem? (i := 7) rfl)) (hw _ (List.mem_of_getElem? (i := 8) rfl)) (hw _ (List.mem_of_getElem? (i := 9) rfl)) e15 (g := (mkF m 141 #[.val (.int p1), .val (.long q2), .second, .val (.int n), .val (.int ch0), .val (.int ch1), .val (.int ch2), .val (.int ch3), .val (.int ch4), .val (.int ch5), .val (.int ch6), .val (.ref b8), .unset, .unset, .unset, .unset] [])) rfl (hb hby at_141) (by decide) (by decide)
                obtain ⟨b16, gz16⟩ : ∃ z, z = h15.size := ⟨_, rfl⟩
                rw [← gz16] at A16 D16 st16
                have ne_b8_b16 : b8 ≠ b16 := Nat.ne_of_lt (Nat.lt_of_lt_of_le V_b8.lt (Nat.le_of_eq gz16.symm))
                have g_b16 : n0 ≤ b16 := Nat.le_trans Zn (Nat.le_of_eq gz16.symm)
                have SF_b16 : Safe Z consts_1 vm0 h15 b16 := Safe.new (Nat.le_of_eq gz16.symm)
                refine Go.st st16 ?_
                replace V_b8 := V_b8.ext E16
                replace SF_b8 := Safe.ext E16 CH SF_b8
                replace SF_b16 := Safe.ext E16 CH SF_b16
                replace CR := CR.trans (CHr.ext E16 CH)
                replace CH := CH.ext E16
                replace hk := Nat.le_trans hk E16.1
                replace O := O.ext E16
                replace Zn := Nat.le_trans Zn E16.1
                have E_b16 := A16
                have F_value_b16 : Fld Z h16 b16 "java/lang/String" "value" "[B" .null := D16 (Or.inr (hw _ (List.mem_of_getElem? (i := 22) rfl))) (ty := (.array .byte)) (by decide)
                have F_coder_b16 : Fld Z h16 b16 "java/lang/String" "coder" "B" (.int (0 : Int32)) := D16 (Or.inr (hw _ (List.mem_of_getElem? (i := 23) rfl))) (ty := .byte) (by decide)
                show Go p.tables e below PP (T16.setTop (mkF m 144 #[.val (.int p1), .val (.long q2), .second, .val (.int n), .val (.int ch0), .val (.int ch1), .val (.int ch2), .val (.int ch3), .val (.int ch4), .val (.int ch5), .val (.int ch6), .val (.ref b8), .unset, .unset, .unset, .unset] [(.ref b16)]))
                refine Go.st (fun t k => XS.dup X16.here hx rfl (hb hby at_144) rfl rfl k) ?_
                show Go p.tables e below PP (T16.setTop (mkF m 145 #[.val (.int p1), .val (.long q2), .second, .val (.int n), .val (.int ch0), .val (.int ch1), .val (.int ch2), .val (.int ch3), .val (.int ch4), .val (.int ch5), .val (.int ch6), .val (.ref b8), .unset, .unset, .unset, .unset] [(.ref b16), (.ref b16)]))
                refine Go.st (fun t k => XS.aload X16.here hx rfl (hb hby at_145) rfl rfl k) ?_
                show Go p.tables e below PP (T16.setTop (mkF m 147 #[.val (.int p1), .val (.long q2), .second, .val (.int n), .val (.int ch0), .val (.int ch1), .val (.int ch2), .val (.int ch3), .val (.int ch4), .val (.int ch5), .val (.int ch6), .val (.ref b8), .unset, .unset, .unset, .unset] [(.ref b8), (.ref b16), (.ref b16)]))
                have hZ0 := hZ
                have hown0 := hown
                clear hZ hown
                obtain ⟨v17, T17, L17, X17, hQ17, hC17, hSn17, hZ, hown, st17⟩ := callInW X16 hx hZ0 (y := (⟨"java/lang/String", "<init>", "([C)V"⟩ : MethodName)) (a := b16) (argsL := [(.ref b8)]) (rest := [(.ref b16)]) rfl hown0 (hw _ (List.mem_of_getElem? (i := 10) rfl)) (hw _ (List.mem_of_getElem? (i := 11) rfl)) (hw _ (List.mem_of_getElem? (i := 9) rfl)) (hw _ (List.mem_of_getElem? (i := 12) rfl)) (by decide) (rmS1 l Z a0 hw [] b16 b8 n cs zc h16 n0 Zn hEL E_b16 F_value_b16 F_coder_b16 g_b16 V_b8 hcb hn7 (Ne.symm ne_b8_b16) SC hzc O) e16 hEL CH hS hk 1 (by decide) (by decide) (by decide) (by decide) (g := (mkF m 147 #[.val (.int p1), .val (.long q2), .second, .val (.int n), .val (.int ch0), .val (.int ch1), .val (.int ch2), .val (.int ch3), .val (.int ch4), .val (.int ch5), .val (.int ch6), .val (.ref b8), .unset, .unset, .unset, .unset] [(.ref b8), (.ref b16), (.ref b16)])) rfl (by rw [hml]; rfl) (lenOf pd_12 rfl) rfl (by show 2 * 0 + _ ≤ _; exact Nat.le_of_eq rfl) (hb hby at_147)
                clear hZ0 hown0
                replace hS := hSn17
                obtain ⟨h17, e17⟩ : ∃ z, T17.heap = z := ⟨_, rfl⟩
                rw [e17] at hQ17 hC17
                replace SF_b8 := hC17.safe V_b8.lt SF_b8
                replace SF_b16 := hC17.safe E_b16.lt SF_b16
                replace CR := CR.trans hC17
                replace CH := hC17.1
                replace hk : T17.heap.size ≤ h17.size := by rw [e17]; exact Nat.le_refl _
                obtain ⟨rfl, Nq17, Kq17, Eq17, Cq17, t17, Fq17, Vq17⟩ := hQ17
                have N17 := Fr.app N15 Nq17
                replace V_b8 := V_b8.keep Kq17 (ninS ne_b8_b16 nin0)
                replace E_b16 := E_b16.keep Kq17
                clear F_value_b16
                clear F_coder_b16
                replace O := O.keep Kq17 (allS g_b16 all0)
                replace Zn := Nat.le_trans Zn Kq17.1
                replace E_b16 := Eq17
                have F_value_b16 := Fq17
                have F_coder_b16 := Cq17
                refine Go.st st17 ?_
                show Go p.tables e below PP (T17.setTop (mkF m 150 #[.val (.int p1), .val (.long q2), .second, .val (.int n), .val (.int ch0), .val (.int ch1), .val (.int ch2), .val (.int ch3), .val (.int ch4), .val (.int ch5), .val (.int ch6), .val (.ref b8), .unset, .unset, .unset, .unset] [(.ref b16)]))
                refine Go.st (fun t k => XS.astore X17.here hx rfl (hb hby at_150) rfl rfl (l' := #[.val (.int p1), .val (.long q2), .second, .val (.int n), .val (.int ch0), .val (.int ch1), .val (.int ch2), .val (.int ch3), .val (.int ch4), .val (.int ch5), .val (.int ch6), .val (.ref b8), .val (.ref b16), .unset, .unset, .unset]) rfl k) ?_
                have J230 : ∀ (T18 : State) (L18 : List Loc) (b13 : Int32), Stand p l e room_1 (s.setVm T17.vm) m #[(.int p1), (.long q2)] below meth c T18 L18 6 19 → T18.heap = h17 → Fr n0 L18 → b13 = bi (((1 : Int32) < n ∧ ch1 = (64 : Int32)) ∨ ((2 : Int32) < n ∧ ch2 = (64 : Int32)) ∨ ((3 : Int32) < n ∧ ch3 = (64 : Int32)) ∨ ((4 : Int32) < n ∧ ch4 = (64 : Int32)) ∨ ((5 : Int32) < n ∧ ch5 = (64 : Int32)) ∨ ((6 : Int32) < n ∧ ch6 = (64 : Int32))) → Go p.tables e below PP (T18.setTop (mkF m 230 #[.val (.int p1), .val (.long q2), .second, .val (.int n), .val (.int ch0), .val (.int ch1), .val (.int ch2), .val (.int ch3), .val (.int ch4), .val (.int ch5), .val (.int ch6), .val (.ref b8), .val (.ref b16), .unset, .unset, .unset] [(.int b13)])) := by
                  intro T18 L18 b13 X18 e18 N18 hJ230
                  show Go p.tables e below PP (T18.setTop (mkF m 230 #[.val (.int p1), .val (.long q2), .second, .val (.int n), .val (.int ch0), .val (.int ch1), .val (.int ch2), .val (.int ch3), .val (.int ch4), .val (.int ch5), .val (.int ch6), .val (.ref b8), .val (.ref b16), .unset, .unset, .unset] [(.int b13)]))
                  refine Go.st (fun t k => XS.istore X18.here hx rfl (hb hby at_230) rfl (l' := #[.val (.int p1), .val (.long q2), .second, .val (.int n), .val (.int ch0), .val (.int ch1), .val (.int ch2), .val (.int ch3), .val (.int ch4), .val (.int ch5), .val (.int ch6), .val (.ref b8), .val (.ref b16), .val (.int b13), .unset, .unset]) rfl k) ?_
                  have J252 : ∀ (T19 : State) (L19 : List Loc) (b14 : Int32), Stand p l e room_1 (s.setVm T17.vm) m #[(.int p1), (.long q2)] below meth c T19 L19 6 19 → T19.heap = h17 → Fr n0 L19 → b14 = bi ((0 : Int32) < n ∧ cs (n - (1 : Int32)).toNatClampNeg = (64 : Int32)) → Go p.tables e below PP (T19.setTop (mkF m 252 #[.val (.int p1), .val (.long q2), .second, .val (.int n), .val (.int ch0), .val (.int ch1), .val (.int ch2), .val (.int ch3), .val (.int ch4), .val (.int ch5), .val (.int ch6), .val (.ref b8), .val (.ref b16), .val (.int b13), .unset, .unset] [(.int b14)])) := by
                    intro T19 L19 b14 X19 e19 N19 hJ252
                    show Go p.tables e below PP (T19.setTop (mkF m 252 #[.val (.int p1), .val (.long q2), .second, .val (.int n), .val (.int ch0), .val (.int ch1), .val (.int ch2), .val (.int ch3), .val (.int ch4), .val (.int ch5), .val (.int ch6), .val (.ref b8), .val (.ref b16), .val (.int b13), .unset, .unset] [(.int b14)]))
                    refine Go.st (fun t k => XS.istore X19.here hx rfl (hb hby at_252) rfl (l' := #[.val (.int p1), .val (.long q2), .second, .val (.int n), .val (.int ch0), .val (.int ch1), .val (.int ch2), .val (.int ch3), .val (.int ch4), .val (.int ch5), .val (.int ch6), .val (.ref b8), .val (.ref b16), .val (.int b13), .val (.int b14), .unset]) rfl k) ?_
                    have J273 : ∀ (T20 : State) (L20 : List Loc) (b15 : Int32), Stand p l e room_1 (s.setVm T17.vm) m #[(.int p1), (.long q2)] below meth c T20 L20 6 19 → T20.heap = h17 → Fr n0 L20 → b15 = bi ((0 : Int32) < n ∧ b14 = (0 : Int32) ∧ ¬ b13 = (0 : Int32)) → Go p.tables e below PP (T20.setTop (mkF m 273 #[.val (.int p1), .val (.long q2), .second, .val (.int n), .val (.int ch0), .val (.int ch1), .val (.int ch2), .val (.int ch3), .val (.int ch4), .val (.int ch5), .val (.int ch6), .val (.ref b8), .val (.ref b16), .val (.int b13), .val (.int b14), .unset] [(.int b15)])) := by
                      intro T20 L20 b15 X20 e20 N20 hJ273
                      show Go p.tables e below PP (T20.setTop (mkF m 273 #[.val (.int p1), .val (.long q2), .second, .val (.int n), .val (.int ch0), .val (.int ch1), .val (.int ch2), .val (.int ch3), .val (.int ch4), .val (.int ch5), .val (.int ch6), .val (.ref b8), .val (.ref b16), .val (.int b13), .val (.int b14), .unset] [(.int b15)]))
                      refine Go.st (fun t k => XS.istore X20.here hx rfl (hb hby at_273) rfl (l' := #[.val (.int p1), .val (.long q2), .second, .val (.int n), .val (.int ch0), .val (.int ch1), .val (.int ch2), .val (.int ch3), .val (.int ch4), .val (.int ch5), .val (.int ch6), .val (.ref b8), .val (.ref b16), .val (.int b13), .val (.int b14), .val (.int b15)]) rfl k) ?_
                      show Go p.tables e below PP (T20.setTop (mkF m 275 #[.val (.int p1), .val (.long q2), .second, .val (.int n), .val (.int ch0), .val (.int ch1), .val (.int ch2), .val (.int ch3), .val (.int ch4), .val (.int ch5), .val (.int ch6), .val (.ref b8), .val (.ref b16), .val (.int b13), .val (.int b14), .val (.int b15)] []))
                      refine Go.st (fun t k => XS.aload X20.here hx rfl (hb hby at_275) rfl rfl k) ?_
                      show Go p.tables e below PP (T20.setTop (mkF m 277 #[.val (.int p1), .val (.long q2), .second, .val (.int n), .val (.int ch0), .val (.int ch1), .val (.int ch2), .val (.int ch3), .val (.int ch4), .val (.int ch5), .val (.int ch6), .val (.ref b8), .val (.ref b16), .val (.int b13), .val (.int b14), .val (.int b15)] [(.ref b16)]))
                      obtain ⟨v21, T21, L21, X21, hQ21, st21⟩ := callSt X20 hx hZ (y := (⟨"com/example/crossname/crossname/access/Emails", "isAddress", "(Ljava/lang/String;)Z"⟩ : MethodName)) (argsL := [(.ref b16)]) (rest := []) hown (hw _ (List.mem_of_getElem? (i := 28) rfl)) (hw _ (List.mem_of_getElem? (i := 29) rfl)) (hw _ (List.mem_of_getElem? (i := 30) rfl)) (hw _ (List.mem_of_getElem? (i := 31) rfl)) (by decide) (rm5 l Z a0 hw [] b16 t17 n (fun k => (cs k).toInt8.toInt32) zc h17 n0 Zn F_value_b16 F_coder_b16 Vq17 E_b16 SC hzc O) e20 0 (by decide) (by decide) (by decide) (by decide) (g := (mkF m 277 #[.val (.int p1), .val (.long q2), .second, .val (.int n), .val (.int ch0), .val (.int ch1), .val (.int ch2), .val (.int ch3), .val (.int ch4), .val (.int ch5), .val (.int ch6), .val (.ref b8), .val (.ref b16), .val (.int b13), .val (.int b14), .val (.int b15)] [(.ref b16)])) rfl (by rw [hml]; rfl) (lenOf pd_13 rfl) rfl (by show 2 * 0 + _ ≤ _; exact Nat.le_of_eq rfl) (hb hby at_277)
                      obtain ⟨rfl, rfl, e21⟩ := hQ21
                      rw [List.append_nil] at X21
                      refine Go.st st21 ?_
                      show Go p.tables e below PP (T21.setTop (mkF m 280 #[.val (.int p1), .val (.long q2), .second, .val (.int n), .val (.int ch0), .val (.int ch1), .val (.int ch2), .val (.int ch3), .val (.int ch4), .val (.int ch5), .val (.int ch6), .val (.ref b8), .val (.ref b16), .val (.int b13), .val (.int b14), .val (.int b15)] [(.int (bi ((0 : Int32) < lastIx (fun k => (cs k).toInt8.toInt32) (64 : Int32) n.toNatClampNeg ∧ lastIx (fun k => (cs k).toInt8.toInt32) (64 : Int32) n.toNatClampNeg < (n - (1 : Int32)))))]))
                      refine Go.st (fun t k => XS.iload X21.here hx rfl (hb hby at_280) rfl k) ?_
                      show Go p.tables e below PP (T21.setTop (mkF m 282 #[.val (.int p1), .val (.long q2), .second, .val (.int n), .val (.int ch0), .val (.int ch1), .val (.int ch2), .val (.int ch3), .val (.int ch4), .val (.int ch5), .val (.int ch6), .val (.ref b8), .val (.ref b16), .val (.int b13), .val (.int b14), .val (.int b15)] [(.int b15), (.int (bi ((0 : Int32) < lastIx (fun k => (cs k).toInt8.toInt32) (64 : Int32) n.toNatClampNeg ∧ lastIx (fun k => (cs k).toInt8.toInt32) (64 : Int32) n.toNatClampNeg < (n - (1 : Int32)))))]))
                      refine Go.st (fun t k => XS.icmpNo X21.here hx rfl (hb hby at_282) rfl (XT.ii_ne_f (own_fin cs n ch0 ch1 ch2 ch3 ch4 ch5 ch6 b13 b14 b15 hcs hn8 hcb hJ230 hJ252 hJ273)) k) ?_
                      show Go p.tables e below PP (T21.setTop (mkF m 285 #[.val (.int p1), .val (.long q2), .second, .val (.int n), .val (.int ch0), .val (.int ch1), .val (.int ch2), .val (.int ch3), .val (.int ch4), .val (.int ch5), .val (.int ch6), .val (.ref b8), .val (.ref b16), .val (.int b13), .val (.int b14), .val (.int b15)] []))
                      refine Go.st (fun t k => XS.iconst X21.here hx rfl (hb hby at_285) k) ?_
                      show Go p.tables e below PP (T21.setTop (mkF m 286 #[.val (.int p1), .val (.long q2), .second, .val (.int n), .val (.int ch0), .val (.int ch1), .val (.int ch2), .val (.int ch3), .val (.int ch4), .val (.int ch5), .val (.int ch6), .val (.ref b8), .val (.ref b16), .val (.int b13), .val (.int b14), .val (.int b15)] [(.int (1 : Int32))]))
                      refine Go.st (fun t k => XS.goto X21.here hx rfl (pc0 := 286) (pc' := 290) rfl (hb hby at_286) (by decide) (by decide) k) ?_
                      show Go p.tables e below PP (T21.setTop (mkF m 290 #[.val (.int p1), .val (.long q2), .second, .val (.int n), .val (.int ch0), .val (.int ch1), .val (.int ch2), .val (.int ch3), .val (.int ch4), .val (.int ch5), .val (.int ch6), .val (.ref b8), .val (.ref b16), .val (.int b13), .val (.int b14), .val (.int b15)] [(.int (1 : Int32))]))
                      rw [hPP]
                      refine endNW X21 hx hlk hZ hS e21 hk hEL CH CR (t := .boolean) hret (by simp) (hb hby at_290) (w := (1 : Int32)) (rfl) ?_ (by decide) (by decide)
                      show Q0 Z p1 q2 zc h0 n0 (some (.int (1 : Int32))) T21.heap _
                      rw [e21]
                      exact ⟨rfl, N20⟩
                    show Go p.tables e below PP (T19.setTop (mkF m 254 #[.val (.int p1), .val (.long q2), .second, .val (.int n), .val (.int ch0), .val (.int ch1), .val (.int ch2), .val (.int ch3), .val (.int ch4), .val (.int ch5), .val (.int ch6), .val (.ref b8), .val (.ref b16), .val (.int b13), .val (.int b14), .unset] []))
                    refine Go.st (fun t k => XS.iloadN X19.here hx rfl (hb hby at_254) rfl k) ?_
                    show Go p.tables e below PP (T19.setTop (mkF m 255 #[.val (.int p1), .val (.long q2), .second, .val (.int n), .val (.int ch0), .val (.int ch1), .val (.int ch2), .val (.int ch3), .val (.int ch4), .val (.int ch5), .val (.int ch6), .val (.ref b8), .val (.ref b16), .val (.int b13), .val (.int b14), .unset] [(.int n)]))
                    by_cases hc255 : (0 : Int32) < n
                    · --
                      refine Go.st (fun t k => XS.ifNo X19.here hx rfl (hb hby at_255) rfl (XT.i0_le_f hc255) k) ?_
                      show Go p.tables e below PP (T19.setTop (mkF m 258 #[.val (.int p1), .val (.long q2), .second, .val (.int n), .val (.int ch0), .val (.int ch1), .val (.int ch2), .val (.int ch3), .val (.int ch4), .val (.int ch5), .val (.int ch6), .val (.ref b8), .val (.ref b16), .val (.int b13), .val (.int b14), .unset] []))
                      refine Go.st (fun t k => XS.iload X19.here hx rfl (hb hby at_258) rfl k) ?_
                      show Go p.tables e below PP (T19.setTop (mkF m 260 #[.val (.int p1), .val (.long q2), .second, .val (.int n), .val (.int ch0), .val (.int ch1), .val (.int ch2), .val (.int ch3), .val (.int ch4), .val (.int ch5), .val (.int ch6), .val (.ref b8), .val (.ref b16), .val (.int b13), .val (.int b14), .unset] [(.int b14)]))
                      by_cases hc260 : b14 = (0 : Int32)
                      · --
                        refine Go.st (fun t k => XS.ifNo X19.here hx rfl (hb hby at_260) rfl (XT.i0_ne_f hc260) k) ?_
                        show Go p.tables e below PP (T19.setTop (mkF m 263 #[.val (.int p1), .val (.long q2), .second, .val (.int n), .val (.int ch0), .val (.int ch1), .val (.int ch2), .val (.int ch3), .val (.int ch4), .val (.int ch5), .val (.int ch6), .val (.ref b8), .val (.ref b16), .val (.int b13), .val (.int b14), .unset] []))
                        refine Go.st (fun t k => XS.iload X19.here hx rfl (hb hby at_263) rfl k) ?_
                        show Go p.tables e below PP (T19.setTop (mkF m 265 #[.val (.int p1), .val (.long q2), .second, .val (.int n), .val (.int ch0), .val (.int ch1), .val (.int ch2), .val (.int ch3), .val (.int ch4), .val (.int ch5), .val (.int ch6), .val (.ref b8), .val (.ref b16), .val (.int b13), .val (.int b14), .unset] [(.int b13)]))
                        by_cases hc265 : b13 = (0 : Int32)
                        · --
                          refine Go.st (fun t k => XS.ifYes X19.here hx rfl (pc0 := 265) (pc' := 272) rfl (hb hby at_265) rfl (XT.i0_eq_t hc265) (by decide) (by decide) k) ?_
                          show Go p.tables e below PP (T19.setTop (mkF m 272 #[.val (.int p1), .val (.long q2), .second, .val (.int n), .val (.int ch0), .val (.int ch1), .val (.int ch2), .val (.int ch3), .val (.int ch4), .val (.int ch5), .val (.int ch6), .val (.ref b8), .val (.ref b16), .val (.int b13), .val (.int b14), .unset] []))
                          refine Go.st (fun t k => XS.iconst X19.here hx rfl (hb hby at_272) k) ?_
                          show Go p.tables e below PP (T19.setTop (mkF m 273 #[.val (.int p1), .val (.long q2), .second, .val (.int n), .val (.int ch0), .val (.int ch1), .val (.int ch2), .val (.int ch3), .val (.int ch4), .val (.int ch5), .val (.int ch6), .val (.ref b8), .val (.ref b16), .val (.int b13), .val (.int b14), .unset] [(.int (0 : Int32))]))
                          exact J273 _ _ _ X19 e19 N19 (by simp [bi, hc255, hc260, hc265])
                        · --
                          refine Go.st (fun t k => XS.ifNo X19.here hx rfl (hb hby at_265) rfl (XT.i0_eq_f hc265) k) ?_
                          show Go p.tables e below PP (T19.setTop (mkF m 268 #[.val (.int p1), .val (.long q2), .second, .val (.int n), .val (.int ch0), .val (.int ch1), .val (.int ch2), .val (.int ch3), .val (.int ch4), .val (.int ch5), .val (.int ch6), .val (.ref b8), .val (.ref b16), .val (.int b13), .val (.int b14), .unset] []))
                          refine Go.st (fun t k => XS.iconst X19.here hx rfl (hb hby at_268) k) ?_
                          show Go p.tables e below PP (T19.setTop (mkF m 269 #[.val (.int p1), .val (.long q2), .second, .val (.int n), .val (.int ch0), .val (.int ch1), .val (.int ch2), .val (.int ch3), .val (.int ch4), .val (.int ch5), .val (.int ch6), .val (.ref b8), .val (.ref b16), .val (.int b13), .val (.int b14), .unset] [(.int (1 : Int32))]))
                          refine Go.st (fun t k => XS.goto X19.here hx rfl (pc0 := 269) (pc' := 273) rfl (hb hby at_269) (by decide) (by decide) k) ?_
                          show Go p.tables e below PP (T19.setTop (mkF m 273 #[.val (.int p1), .val (.long q2), .second, .val (.int n), .val (.int ch0), .val (.int ch1), .val (.int ch2), .val (.int ch3), .val (.int ch4), .val (.int ch5), .val (.int ch6), .val (.ref b8), .val (.ref b16), .val (.int b13), .val (.int b14), .unset] [(.int (1 : Int32))]))
                          exact J273 _ _ _ X19 e19 N19 (by simp [bi, hc255, hc260, hc265])
                      · --
                        refine Go.st (fun t k => XS.ifYes X19.here hx rfl (pc0 := 260) (pc' := 272) rfl (hb hby at_260) rfl (XT.i0_ne_t hc260) (by decide) (by decide) k) ?_
                        show Go p.tables e below PP (T19.setTop (mkF m 272 #[.val (.int p1), .val (.long q2), .second, .val (.int n), .val (.int ch0), .val (.int ch1), .val (.int ch2), .val (.int ch3), .val (.int ch4), .val (.int ch5), .val (.int ch6), .val (.ref b8), .val (.ref b16), .val (.int b13), .val (.int b14), .unset] []))
                        refine Go.st (fun t k => XS.iconst X19.here hx rfl (hb hby at_272) k) ?_
                        show Go p.tables e below PP (T19.setTop (mkF m 273 #[.val (.int p1), .val (.long q2), .second, .val (.int n), .val (.int ch0), .val (.int ch1), .val (.int ch2), .val (.int ch3), .val (.int ch4), .val (.int ch5), .val (.int ch6), .val (.ref b8), .val (.ref b16), .val (.int b13), .val (.int b14), .unset] [(.int (0 : Int32))]))
                        exact J273 _ _ _ X19 e19 N19 (by simp [bi, hc255, hc260])
                    · --
                      refine Go.st (fun t k => XS.ifYes X19.here hx rfl (pc0 := 255) (pc' := 272) rfl (hb hby at_255) rfl (XT.i0_le_t hc255) (by decide) (by decide) k) ?_
                      show Go p.tables e below PP (T19.setTop (mkF m 272 #[.val (.int p1), .val (.long q2), .second, .val (.int n), .val (.int ch0), .val (.int ch1), .val (.int ch2), .val (.int ch3), .val (.int ch4), .val (.int ch5), .val (.int ch6), .val (.ref b8), .val (.ref b16), .val (.int b13), .val (.int b14), .unset] []))
                      refine Go.st (fun t k => XS.iconst X19.here hx rfl (hb hby at_272) k) ?_
                      show Go p.tables e below PP (T19.setTop (mkF m 273 #[.val (.int p1), .val (.long q2), .second, .val (.int n), .val (.int ch0), .val (.int ch1), .val (.int ch2), .val (.int ch3), .val (.int ch4), .val (.int ch5), .val (.int ch6), .val (.ref b8), .val (.ref b16), .val (.int b13), .val (.int b14), .unset] [(.int (0 : Int32))]))
                      exact J273 _ _ _ X19 e19 N19 (by simp [bi, hc255])
                  show Go p.tables e below PP (T18.setTop (mkF m 232 #[.val (.int p1), .val (.long q2), .second, .val (.int n), .val (.int ch0), .val (.int ch1), .val (.int ch2), .val (.int ch3), .val (.int ch4), .val (.int ch5), .val (.int ch6), .val (.ref b8), .val (.ref b16), .val (.int b13), .unset, .unset] []))
                  refine Go.st (fun t k => XS.iloadN X18.here hx rfl (hb hby at_232) rfl k) ?_
                  show Go p.tables e below PP (T18.setTop (mkF m 233 #[.val (.int p1), .val (.long q2), .second, .val (.int n), .val (.int ch0), .val (.int ch1), .val (.int ch2), .val (.int ch3), .val (.int ch4), .val (.int ch5), .val (.int ch6), .val (.ref b8), .val (.ref b16), .val (.int b13), .unset, .unset] [(.int n)]))
                  by_cases hc233 : (0 : Int32) < n
                  · --
                    refine Go.st (fun t k => XS.ifNo X18.here hx rfl (hb hby at_233) rfl (XT.i0_le_f hc233) k) ?_
                    show Go p.tables e below PP (T18.setTop (mkF m 236 #[.val (.int p1), .val (.long q2), .second, .val (.int n), .val (.int ch0), .val (.int ch1), .val (.int ch2), .val (.int ch3), .val (.int ch4), .val (.int ch5), .val (.int ch6), .val (.ref b8), .val (.ref b16), .val (.int b13), .unset, .unset] []))
                    refine Go.st (fun t k => XS.aload X18.here hx rfl (hb hby at_236) rfl rfl k) ?_
                    show Go p.tables e below PP (T18.setTop (mkF m 238 #[.val (.int p1), .val (.long q2), .second, .val (.int n), .val (.int ch0), .val (.int ch1), .val (.int ch2), .val (.int ch3), .val (.int ch4), .val (.int ch5), .val (.int ch6), .val (.ref b8), .val (.ref b16), .val (.int b13), .unset, .unset] [(.ref b8)]))
                    refine Go.st (fun t k => XS.iloadN X18.here hx rfl (hb hby at_238) rfl k) ?_
                    show Go p.tables e below PP (T18.setTop (mkF m 239 #[.val (.int p1), .val (.long q2), .second, .val (.int n), .val (.int ch0), .val (.int ch1), .val (.int ch2), .val (.int ch3), .val (.int ch4), .val (.int ch5), .val (.int ch6), .val (.ref b8), .val (.ref b16), .val (.int b13), .unset, .unset] [(.int n), (.ref b8)]))
                    refine Go.st (fun t k => XS.iconst X18.here hx rfl (hb hby at_239) k) ?_
                    show Go p.tables e below PP (T18.setTop (mkF m 240 #[.val (.int p1), .val (.long q2), .second, .val (.int n), .val (.int ch0), .val (.int ch1), .val (.int ch2), .val (.int ch3), .val (.int ch4), .val (.int ch5), .val (.int ch6), .val (.ref b8), .val (.ref b16), .val (.int b13), .unset, .unset] [(.int (1 : Int32)), (.int n), (.ref b8)]))
                    refine Go.st (fun t k => XS.isub X18.here hx rfl (hb hby at_240) rfl k) ?_
                    show Go p.tables e below PP (T18.setTop (mkF m 241 #[.val (.int p1), .val (.long q2), .second, .val (.int n), .val (.int ch0), .val (.int ch1), .val (.int ch2), .val (.int ch3), .val (.int ch4), .val (.int ch5), .val (.int ch6), .val (.ref b8), .val (.ref b16), .val (.int b13), .unset, .unset] [(.int (n - (1 : Int32))), (.ref b8)]))
                    obtain ⟨cl22, Ar22, S22, Nn22, H22⟩ := id V_b8
                    have hin22 : ¬ ((n - (1 : Int32)) < 0 ∨ cl22.slots.size ≤ ((n - (1 : Int32))).toNatClampNeg) := inb_of S22 (own_n1 n hn8 hc233)
                    refine Go.st (fun t k => X18.caload hx (j := (n - (1 : Int32))) (v := (.int (cs (n - (1 : Int32)).toNatClampNeg))) (by rw [e18]; exact Ar22.1) (State.isArrayOf_alike hZ.alike Ar22.2.1) Ar22.2.2 hin22 ((H22 _ (inbN (own_n1 n hn8 hc233))).1.trans (congrArg some (rfl))) (g := (mkF m 241 #[.val (.int p1), .val (.long q2), .second, .val (.int n), .val (.int ch0), .val (.int ch1), .val (.int ch2), .val (.int ch3), .val (.int ch4), .val (.int ch5), .val (.int ch6), .val (.ref b8), .val (.ref b16), .val (.int b13), .unset, .unset] [(.int (n - (1 : Int32))), (.ref b8)])) rfl rfl (hb hby at_241) _ k) ?_
                    show Go p.tables e below PP (T18.setTop (mkF m 242 #[.val (.int p1), .val (.long q2), .second, .val (.int n), .val (.int ch0), .val (.int ch1), .val (.int ch2), .val (.int ch3), .val (.int ch4), .val (.int ch5), .val (.int ch6), .val (.ref b8), .val (.ref b16), .val (.int b13), .unset, .unset] [(.int (cs (n - (1 : Int32)).toNatClampNeg))]))
                    refine Go.st (fun t k => XS.bipush X18.here hx rfl (hb hby at_242) k) ?_
                    show Go p.tables e below PP (T18.setTop (mkF m 244 #[.val (.int p1), .val (.long q2), .second, .val (.int n), .val (.int ch0), .val (.int ch1), .val (.int ch2), .val (.int ch3), .val (.int ch4), .val (.int ch5), .val (.int ch6), .val (.ref b8), .val (.ref b16), .val (.int b13), .unset, .unset] [(.int (64 : Int32)), (.int (cs (n - (1 : Int32)).toNatClampNeg))]))
                    by_cases hc244 : (cs (n - (1 : Int32)).toNatClampNeg) = (64 : Int32)
                    · --
                      refine Go.st (fun t k => XS.icmpNo X18.here hx rfl (hb hby at_244) rfl (XT.ii_ne_f hc244) k) ?_
                      show Go p.tables e below PP (T18.setTop (mkF m 247 #[.val (.int p1), .val (.long q2), .second, .val (.int n), .val (.int ch0), .val (.int ch1), .val (.int ch2), .val (.int ch3), .val (.int ch4), .val (.int ch5), .val (.int ch6), .val (.ref b8), .val (.ref b16), .val (.int b13), .unset, .unset] []))
                      refine Go.st (fun t k => XS.iconst X18.here hx rfl (hb hby at_247) k) ?_
                      show Go p.tables e below PP (T18.setTop (mkF m 248 #[.val (.int p1), .val (.long q2), .second, .val (.int n), .val (.int ch0), .val (.int ch1), .val (.int ch2), .val (.int ch3), .val (.int ch4), .val (.int ch5), .val (.int ch6), .val (.ref b8), .val (.ref b16), .val (.int b13), .unset, .unset] [(.int (1 : Int32))]))
                      refine Go.st (fun t k => XS.goto X18.here hx rfl (pc0 := 248) (pc' := 252) rfl (hb hby at_248) (by decide) (by decide) k) ?_
                      show Go p.tables e below PP (T18.setTop (mkF m 252 #[.val (.int p1), .val (.long q2), .second, .val (.int n), .val (.int ch0), .val (.int ch1), .val (.int ch2), .val (.int ch3), .val (.int ch4), .val (.int ch5), .val (.int ch6), .val (.ref b8), .val (.ref b16), .val (.int b13), .unset, .unset] [(.int (1 : Int32))]))
                      exact J252 _ _ _ X18 e18 N18 (by simp [bi, hc233, hc244])
                    · --
                      refine Go.st (fun t k => XS.icmpYes X18.here hx rfl (pc0 := 244) (pc' := 251) rfl (hb hby at_244) rfl (XT.ii_ne_t hc244) (by decide) (by decide) k) ?_
                      show Go p.tables e below PP (T18.setTop (mkF m 251 #[.val (.int p1), .val (.long q2), .second, .val (.int n), .val (.int ch0), .val (.int ch1), .val (.int ch2), .val (.int ch3), .val (.int ch4), .val (.int ch5), .val (.int ch6), .val (.ref b8), .val (.ref b16), .val (.int b13), .unset, .unset] []))
                      refine Go.st (fun t k => XS.iconst X18.here hx rfl (hb hby at_251) k) ?_
                      show Go p.tables e below PP (T18.setTop (mkF m 252 #[.val (.int p1), .val (.long q2), .second, .val (.int n), .val (.int ch0), .val (.int ch1), .val (.int ch2), .val (.int ch3), .val (.int ch4), .val (.int ch5), .val (.int ch6), .val (.ref b8), .val (.ref b16), .val (.int b13), .unset, .unset] [(.int (0 : Int32))]))
                      exact J252 _ _ _ X18 e18 N18 (by simp [bi, hc233, hc244])
                  · --
                    refine Go.st (fun t k => XS.ifYes X18.here hx rfl (pc0 := 233) (pc' := 251) rfl (hb hby at_233) rfl (XT.i0_le_t hc233) (by decide) (by decide) k) ?_
                    show Go p.tables e below PP (T18.setTop (mkF m 251 #[.val (.int p1), .val (.long q2), .second, .val (.int n), .val (.int ch0), .val (.int ch1), .val (.int ch2), .val (.int ch3), .val (.int ch4), .val (.int ch5), .val (.int ch6), .val (.ref b8), .val (.ref b16), .val (.int b13), .unset, .unset] []))
                    refine Go.st (fun t k => XS.iconst X18.here hx rfl (hb hby at_251) k) ?_
                    show Go p.tables e below PP (T18.setTop (mkF m 252 #[.val (.int p1), .val (.long q2), .second, .val (.int n), .val (.int ch0), .val (.int ch1), .val (.int ch2), .val (.int ch3), .val (.int ch4), .val (.int ch5), .val (.int ch6), .val (.ref b8), .val (.ref b16), .val (.int b13), .unset, .unset] [(.int (0 : Int32))]))
                    exact J252 _ _ _ X18 e18 N18 (by simp [bi, hc233])
                show Go p.tables e below PP (T17.setTop (mkF m 152 #[.val (.int p1), .val (.long q2), .second, .val (.int n), .val (.int ch0), .val (.int ch1), .val (.int ch2), .val (.int ch3), .val (.int ch4), .val (.int ch5), .val (.int ch6), .val (.ref b8), .val (.ref b16), .unset, .unset, .unset] []))
                refine Go.st (fun t k => XS.iloadN X17.here hx rfl (hb hby at_152) rfl k) ?_
                show Go p.tables e below PP (T17.setTop (mkF m 153 #[.val (.int p1), .val (.long q2), .second, .val (.int n), .val (.int ch0), .val (.int ch1), .val (.int ch2), .val (.int ch3), .val (.int ch4), .val (.int ch5), .val (.int ch6), .val (.ref b8), .val (.ref b16), .unset, .unset, .unset] [(.int n)]))
                refine Go.st (fun t k => XS.iconst X17.here hx rfl (hb hby at_153) k) ?_
                show Go p.tables e below PP (T17.setTop (mkF m 154 #[.val (.int p1), .val (.long q2), .second, .val (.int n), .val (.int ch0), .val (.int ch1), .val (.int ch2), .val (.int ch3), .val (.int ch4), .val (.int ch5), .val (.int ch6), .val (.ref b8), .val (.ref b16), .unset, .unset, .unset] [(.int (1 : Int32)), (.int n)]))
                by_cases hc154 : (1 : Int32) < n
                · --
                  refine Go.st (fun t k => XS.icmpNo X17.here hx rfl (hb hby at_154) rfl (XT.ii_le_f hc154) k) ?_
                  show Go p.tables e below PP (T17.setTop (mkF m 157 #[.val (.int p1), .val (.long q2), .second, .val (.int n), .val (.int ch0), .val (.int ch1), .val (.int ch2), .val (.int ch3), .val (.int ch4), .val (.int ch5), .val (.int ch6), .val (.ref b8), .val (.ref b16), .unset, .unset, .unset] []))
                  refine Go.st (fun t k => XS.iload X17.here hx rfl (hb hby at_157) rfl k) ?_
                  show Go p.tables e below PP (T17.setTop (mkF m 159 #[.val (.int p1), .val (.long q2), .second, .val (.int n), .val (.int ch0), .val (.int ch1), .val (.int ch2), .val (.int ch3), .val (.int ch4), .val (.int ch5), .val (.int ch6), .val (.ref b8), .val (.ref b16), .unset, .unset, .unset] [(.int ch1)]))
                  refine Go.st (fun t k => XS.bipush X17.here hx rfl (hb hby at_159) k) ?_
                  show Go p.tables e below PP (T17.setTop (mkF m 161 #[.val (.int p1), .val (.long q2), .second, .val (.int n), .val (.int ch0), .val (.int ch1), .val (.int ch2), .val (.int ch3), .val (.int ch4), .val (.int ch5), .val (.int ch6), .val (.ref b8), .val (.ref b16), .unset, .unset, .unset] [(.int (64 : Int32)), (.int ch1)]))
                  by_cases hc161 : ch1 = (64 : Int32)
                  · --
                    refine Go.st (fun t k => XS.icmpYes X17.here hx rfl (pc0 := 161) (pc' := 225) rfl (hb hby at_161) rfl (XT.ii_eq_t hc161) (by decide) (by decide) k) ?_
                    show Go p.tables e below PP (T17.setTop (mkF m 225 #[.val (.int p1), .val (.long q2), .second, .val (.int n), .val (.int ch0), .val (.int ch1), .val (.int ch2), .val (.int ch3), .val (.int ch4), .val (.int ch5), .val (.int ch6), .val (.ref b8), .val (.ref b16), .unset, .unset, .unset] []))
                    refine Go.st (fun t k => XS.iconst X17.here hx rfl (hb hby at_225) k) ?_
                    show Go p.tables e below PP (T17.setTop (mkF m 226 #[.val (.int p1), .val (.long q2), .second, .val (.int n), .val (.int ch0), .val (.int ch1), .val (.int ch2), .val (.int ch3), .val (.int ch4), .val (.int ch5), .val (.int ch6), .val (.ref b8), .val (.ref b16), .unset, .unset, .unset] [(.int (1 : Int32))]))
                    refine Go.st (fun t k => XS.goto X17.here hx rfl (pc0 := 226) (pc' := 230) rfl (hb hby at_226) (by decide) (by decide) k) ?_
                    show Go p.tables e below PP (T17.setTop (mkF m 230 #[.val (.int p1), .val (.long q2), .second, .val (.int n), .val (.int ch0), .val (.int ch1), .val (.int ch2), .val (.int ch3), .val (.int ch4), .val (.int ch5), .val (.int ch6), .val (.ref b8), .val (.ref b16), .unset, .unset, .unset] [(.int (1 : Int32))]))
                    exact J230 _ _ _ X17 e17 N17 (by simp [bi, hc154, hc161])
                  · --
                    refine Go.st (fun t k => XS.icmpNo X17.here hx rfl (hb hby at_161) rfl (XT.ii_eq_f hc161) k) ?_
                    show Go p.tables e below PP (T17.setTop (mkF m 164 #[.val (.int p1), .val (.long q2), .second, .val (.int n), .val (.int ch0), .val (.int ch1), .val (.int ch2), .val (.int ch3), .val (.int ch4), .val (.int ch5), .val (.int ch6), .val (.ref b8), .val (.ref b16), .unset, .unset, .unset] []))
                    refine Go.st (fun t k => XS.iloadN X17.here hx rfl (hb hby at_164) rfl k) ?_
                    show Go p.tables e below PP (T17.setTop (mkF m 165 #[.val (.int p1), .val (.long q2), .second, .val (.int n), .val (.int ch0), .val (.int ch1), .val (.int ch2), .val (.int ch3), .val (.int ch4), .val (.int ch5), .val (.int ch6), .val (.ref b8), .val (.ref b16), .unset, .unset, .unset] [(.int n)]))
                    refine Go.st (fun t k => XS.iconst X17.here hx rfl (hb hby at_165) k) ?_
                    show Go p.tables e below PP (T17.setTop (mkF m 166 #[.val (.int p1), .val (.long q2), .second, .val (.int n), .val (.int ch0), .val (.int ch1), .val (.int ch2), .val (.int ch3), .val (.int ch4), .val (.int ch5), .val (.int ch6), .val (.ref b8), .val (.ref b16), .unset, .unset, .unset] [(.int (2 : Int32)), (.int n)]))
                    by_cases hc166 : (2 : Int32) < n
                    · --
                      refine Go.st (fun t k => XS.icmpNo X17.here hx rfl (hb hby at_166) rfl (XT.ii_le_f hc166) k) ?_
                      show Go p.tables e below PP (T17.setTop (mkF m 169 #[.val (.int p1), .val (.long q2), .second, .val (.int n), .val (.int ch0), .val (.int ch1), .val (.int ch2), .val (.int ch3), .val (.int ch4), .val (.int ch5), .val (.int ch6), .val (.ref b8), .val (.ref b16), .unset, .unset, .unset] []))
                      refine Go.st (fun t k => XS.iload X17.here hx rfl (hb hby at_169) rfl k) ?_
                      show Go p.tables e below PP (T17.setTop (mkF m 171 #[.val (.int p1), .val (.long q2), .second, .val (.int n), .val (.int ch0), .val (.int ch1), .val (.int ch2), .val (.int ch3), .val (.int ch4), .val (.int ch5), .val (.int ch6), .val (.ref b8), .val (.ref b16), .unset, .unset, .unset] [(.int ch2)]))
                      refine Go.st (fun t k => XS.bipush X17.here hx rfl (hb hby at_171) k) ?_
                      show Go p.tables e below PP (T17.setTop (mkF m 173 #[.val (.int p1), .val (.long q2), .second, .val (.int n), .val (.int ch0), .val (.int ch1), .val (.int ch2), .val (.int ch3), .val (.int ch4), .val (.int ch5), .val (.int ch6), .val (.ref b8), .val (.ref b16), .unset, .unset, .unset] [(.int (64 : Int32)), (.int ch2)]))
                      by_cases hc173 : ch2 = (64 : Int32)
                      · --
                        refine Go.st (fun t k => XS.icmpYes X17.here hx rfl (pc0 := 173) (pc' := 225) rfl (hb hby at_173) rfl (XT.ii_eq_t hc173) (by decide) (by decide) k) ?_
                        show Go p.tables e below PP (T17.setTop (mkF m 225 #[.val (.int p1), .val (.long q2), .second, .val (.int n), .val (.int ch0), .val (.int ch1), .val (.int ch2), .val (.int ch3), .val (.int ch4), .val (.int ch5), .val (.int ch6), .val (.ref b8), .val (.ref b16), .unset, .unset, .unset] []))
                        refine Go.st (fun t k => XS.iconst X17.here hx rfl (hb hby at_225) k) ?_
                        show Go p.tables e below PP (T17.setTop (mkF m 226 #[.val (.int p1), .val (.long q2), .second, .val (.int n), .val (.int ch0), .val (.int ch1), .val (.int ch2), .val (.int ch3), .val (.int ch4), .val (.int ch5), .val (.int ch6), .val (.ref b8), .val (.ref b16), .unset, .unset, .unset] [(.int (1 : Int32))]))
                        refine Go.st (fun t k => XS.goto X17.here hx rfl (pc0 := 226) (pc' := 230) rfl (hb hby at_226) (by decide) (by decide) k) ?_
                        show Go p.tables e below PP (T17.setTop (mkF m 230 #[.val (.int p1), .val (.long q2), .second, .val (.int n), .val (.int ch0), .val (.int ch1), .val (.int ch2), .val (.int ch3), .val (.int ch4), .val (.int ch5), .val (.int ch6), .val (.ref b8), .val (.ref b16), .unset, .unset, .unset] [(.int (1 : Int32))]))
                        exact J230 _ _ _ X17 e17 N17 (by simp [bi, hc154, hc161, hc166, hc173])
                      · --
                        refine Go.st (fun t k => XS.icmpNo X17.here hx rfl (hb hby at_173) rfl (XT.ii_eq_f hc173) k) ?_
                        show Go p.tables e below PP (T17.setTop (mkF m 176 #[.val (.int p1), .val (.long q2), .second, .val (.int n), .val (.int ch0), .val (.int ch1), .val (.int ch2), .val (.int ch3), .val (.int ch4), .val (.int ch5), .val (.int ch6), .val (.ref b8), .val (.ref b16), .unset, .unset, .unset] []))
                        refine Go.st (fun t k => XS.iloadN X17.here hx rfl (hb hby at_176) rfl k) ?_
                        show Go p.tables e below PP (T17.setTop (mkF m 177 #[.val (.int p1), .val (.long q2), .second, .val (.int n), .val (.int ch0), .val (.int ch1), .val (.int ch2), .val (.int ch3), .val (.int ch4), .val (.int ch5), .val (.int ch6), .val (.ref b8), .val (.ref b16), .unset, .unset, .unset] [(.int n)]))
                        refine Go.st (fun t k => XS.iconst X17.here hx rfl (hb hby at_177) k) ?_
                        show Go p.tables e below PP (T17.setTop (mkF m 178 #[.val (.int p1), .val (.long q2), .second, .val (.int n), .val (.int ch0), .val (.int ch1), .val (.int ch2), .val (.int ch3), .val (.int ch4), .val (.int ch5), .val (.int ch6), .val (.ref b8), .val (.ref b16), .unset, .unset, .unset] [(.int (3 : Int32)), (.int n)]))
                        by_cases hc178 : (3 : Int32) < n
                        · --
                          refine Go.st (fun t k => XS.icmpNo X17.here hx rfl (hb hby at_178) rfl (XT.ii_le_f hc178) k) ?_
                          show Go p.tables e below PP (T17.setTop (mkF m 181 #[.val (.int p1), .val (.long q2), .second, .val (.int n), .val (.int ch0), .val (.int ch1), .val (.int ch2), .val (.int ch3), .val (.int ch4), .val (.int ch5), .val (.int ch6), .val (.ref b8), .val (.ref b16), .unset, .unset, .unset] []))
                          refine Go.st (fun t k => XS.iload X17.here hx rfl (hb hby at_181) rfl k) ?_
                          show Go p.tables e below PP (T17.setTop (mkF m 183 #[.val (.int p1), .val (.long q2), .second, .val (.int n), .val (.int ch0), .val (.int ch1), .val (.int ch2), .val (.int ch3), .val (.int ch4), .val (.int ch5), .val (.int ch6), .val (.ref b8), .val (.ref b16), .unset, .unset, .unset] [(.int ch3)]))
                          refine Go.st (fun t k => XS.bipush X17.here hx rfl (hb hby at_183) k) ?_
                          show Go p.tables e below PP (T17.setTop (mkF m 185 #[.val (.int p1), .val (.long q2), .second, .val (.int n), .val (.int ch0), .val (.int ch1), .val (.int ch2), .val (.int ch3), .val (.int ch4), .val (.int ch5), .val (.int ch6), .val (.ref b8), .val (.ref b16), .unset, .unset, .unset] [(.int (64 : Int32)), (.int ch3)]))
                          by_cases hc185 : ch3 = (64 : Int32)
                          · --
                            refine Go.st (fun t k => XS.icmpYes X17.here hx rfl (pc0 := 185) (pc' := 225) rfl (hb hby at_185) rfl (XT.ii_eq_t hc185) (by decide) (by decide) k) ?_
                            show Go p.tables e below PP (T17.setTop (mkF m 225 #[.val (.int p1), .val (.long q2), .second, .val (.int n), .val (.int ch0), .val (.int ch1), .val (.int ch2), .val (.int ch3), .val (.int ch4), .val (.int ch5), .val (.int ch6), .val (.ref b8), .val (.ref b16), .unset, .unset, .unset] []))
                            refine Go.st (fun t k => XS.iconst X17.here hx rfl (hb hby at_225) k) ?_
                            show Go p.tables e below PP (T17.setTop (mkF m 226 #[.val (.int p1), .val (.long q2), .second, .val (.int n), .val (.int ch0), .val (.int ch1), .val (.int ch2), .val (.int ch3), .val (.int ch4), .val (.int ch5), .val (.int ch6), .val (.ref b8), .val (.ref b16), .unset, .unset, .unset] [(.int (1 : Int32))]))
                            refine Go.st (fun t k => XS.goto X17.here hx rfl (pc0 := 226) (pc' := 230) rfl (hb hby at_226) (by decide) (by decide) k) ?_
                            show Go p.tables e below PP (T17.setTop (mkF m 230 #[.val (.int p1), .val (.long q2), .second, .val (.int n), .val (.int ch0), .val (.int ch1), .val (.int ch2), .val (.int ch3), .val (.int ch4), .val (.int ch5), .val (.int ch6), .val (.ref b8), .val (.ref b16), .unset, .unset, .unset] [(.int (1 : Int32))]))
                            exact J230 _ _ _ X17 e17 N17 (by simp [bi, hc154, hc161, hc166, hc173, hc178, hc185])
                          · --
                            refine Go.st (fun t k => XS.icmpNo X17.here hx rfl (hb hby at_185) rfl (XT.ii_eq_f hc185) k) ?_
                            show Go p.tables e below PP (T17.setTop (mkF m 188 #[.val (.int p1), .val (.long q2), .second, .val (.int n), .val (.int ch0), .val (.int ch1), .val (.int ch2), .val (.int ch3), .val (.int ch4), .val (.int ch5), .val (.int ch6), .val (.ref b8), .val (.ref b16), .unset, .unset, .unset] []))
                            refine Go.st (fun t k => XS.iloadN X17.here hx rfl (hb hby at_188) rfl k) ?_
                            show Go p.tables e below PP (T17.setTop (mkF m 189 #[.val (.int p1), .val (.long q2), .second, .val (.int n), .val (.int ch0), .val (.int ch1), .val (.int ch2), .val (.int ch3), .val (.int ch4), .val (.int ch5), .val (.int ch6), .val (.ref b8), .val (.ref b16), .unset, .unset, .unset] [(.int n)]))
                            refine Go.st (fun t k => XS.iconst X17.here hx rfl (hb hby at_189) k) ?_
                            show Go p.tables e below PP (T17.setTop (mkF m 190 #[.val (.int p1), .val (.long q2), .second, .val (.int n), .val (.int ch0), .val (.int ch1), .val (.int ch2), .val (.int ch3), .val (.int ch4), .val (.int ch5), .val (.int ch6), .val (.ref b8), .val (.ref b16), .unset, .unset, .unset] [(.int (4 : Int32)), (.int n)]))
                            by_cases hc190 : (4 : Int32) < n
                            · --
                              refine Go.st (fun t k => XS.icmpNo X17.here hx rfl (hb hby at_190) rfl (XT.ii_le_f hc190) k) ?_
                              show Go p.tables e below PP (T17.setTop (mkF m 193 #[.val (.int p1), .val (.long q2), .second, .val (.int n), .val (.int ch0), .val (.int ch1), .val (.int ch2), .val (.int ch3), .val (.int ch4), .val (.int ch5), .val (.int ch6), .val (.ref b8), .val (.ref b16), .unset, .unset, .unset] []))
                              refine Go.st (fun t k => XS.iload X17.here hx rfl (hb hby at_193) rfl k) ?_
                              show Go p.tables e below PP (T17.setTop (mkF m 195 #[.val (.int p1), .val (.long q2), .second, .val (.int n), .val (.int ch0), .val (.int ch1), .val (.int ch2), .val (.int ch3), .val (.int ch4), .val (.int ch5), .val (.int ch6), .val (.ref b8), .val (.ref b16), .unset, .unset, .unset] [(.int ch4)]))
                              refine Go.st (fun t k => XS.bipush X17.here hx rfl (hb hby at_195) k) ?_
                              show Go p.tables e below PP (T17.setTop (mkF m 197 #[.val (.int p1), .val (.long q2), .second, .val (.int n), .val (.int ch0), .val (.int ch1), .val (.int ch2), .val (.int ch3), .val (.int ch4), .val (.int ch5), .val (.int ch6), .val (.ref b8), .val (.ref b16), .unset, .unset, .unset] [(.int (64 : Int32)), (.int ch4)]))
                              by_cases hc197 : ch4 = (64 : Int32)
                              · --
                                refine Go.st (fun t k => XS.icmpYes X17.here hx rfl (pc0 := 197) (pc' := 225) rfl (hb hby at_197) rfl (XT.ii_eq_t hc197) (by decide) (by decide) k) ?_
                                show Go p.tables e below PP (T17.setTop (mkF m 225 #[.val (.int p1), .val (.long q2), .second, .val (.int n), .val (.int ch0), .val (.int ch1), .val (.int ch2), .val (.int ch3), .val (.int ch4), .val (.int ch5), .val (.int ch6), .val (.ref b8), .val (.ref b16), .unset, .unset, .unset] []))
                                refine Go.st (fun t k => XS.iconst X17.here hx rfl (hb hby at_225) k) ?_
                                show Go p.tables e below PP (T17.setTop (mkF m 226 #[.val (.int p1), .val (.long q2), .second, .val (.int n), .val (.int ch0), .val (.int ch1), .val (.int ch2), .val (.int ch3), .val (.int ch4), .val (.int ch5), .val (.int ch6), .val (.ref b8), .val (.ref b16), .unset, .unset, .unset] [(.int (1 : Int32))]))
                                refine Go.st (fun t k => XS.goto X17.here hx rfl (pc0 := 226) (pc' := 230) rfl (hb hby at_226) (by decide) (by decide) k) ?_
                                show Go p.tables e below PP (T17.setTop (mkF m 230 #[.val (.int p1), .val (.long q2), .second, .val (.int n), .val (.int ch0), .val (.int ch1), .val (.int ch2), .val (.int ch3), .val (.int ch4), .val (.int ch5), .val (.int ch6), .val (.ref b8), .val (.ref b16), .unset, .unset, .unset] [(.int (1 : Int32))]))
                                exact J230 _ _ _ X17 e17 N17 (by simp [bi, hc154, hc161, hc166, hc173, hc178, hc185, hc190, hc197])
                              · --
                                refine Go.st (fun t k => XS.icmpNo X17.here hx rfl (hb hby at_197) rfl (XT.ii_eq_f hc197) k) ?_
                                show Go p.tables e below PP (T17.setTop (mkF m 200 #[.val (.int p1), .val (.long q2), .second, .val (.int n), .val (.int ch0), .val (.int ch1), .val (.int ch2), .val (.int ch3), .val (.int ch4), .val (.int ch5), .val (.int ch6), .val (.ref b8), .val (.ref b16), .unset, .unset, .unset] []))
                                refine Go.st (fun t k => XS.iloadN X17.here hx rfl (hb hby at_200) rfl k) ?_
                                show Go p.tables e below PP (T17.setTop (mkF m 201 #[.val (.int p1), .val (.long q2), .second, .val (.int n), .val (.int ch0), .val (.int ch1), .val (.int ch2), .val (.int ch3), .val (.int ch4), .val (.int ch5), .val (.int ch6), .val (.ref b8), .val (.ref b16), .unset, .unset, .unset] [(.int n)]))
                                refine Go.st (fun t k => XS.iconst X17.here hx rfl (hb hby at_201) k) ?_
                                show Go p.tables e below PP (T17.setTop (mkF m 202 #[.val (.int p1), .val (.long q2), .second, .val (.int n), .val (.int ch0), .val (.int ch1), .val (.int ch2), .val (.int ch3), .val (.int ch4), .val (.int ch5), .val (.int ch6), .val (.ref b8), .val (.ref b16), .unset, .unset, .unset] [(.int (5 : Int32)), (.int n)]))
                                by_cases hc202 : (5 : Int32) < n
                                · --
                                  refine Go.st (fun t k => XS.icmpNo X17.here hx rfl (hb hby at_202) rfl (XT.ii_le_f hc202) k) ?_
                                  show Go p.tables e below PP (T17.setTop (mkF m 205 #[.val (.int p1), .val (.long q2), .second, .val (.int n), .val (.int ch0), .val (.int ch1), .val (.int ch2), .val (.int ch3), .val (.int ch4), .val (.int ch5), .val (.int ch6), .val (.ref b8), .val (.ref b16), .unset, .unset, .unset] []))
                                  refine Go.st (fun t k => XS.iload X17.here hx rfl (hb hby at_205) rfl k) ?_
                                  show Go p.tables e below PP (T17.setTop (mkF m 207 #[.val (.int p1), .val (.long q2), .second, .val (.int n), .val (.int ch0), .val (.int ch1), .val (.int ch2), .val (.int ch3), .val (.int ch4), .val (.int ch5), .val (.int ch6), .val (.ref b8), .val (.ref b16), .unset, .unset, .unset] [(.int ch5)]))
                                  refine Go.st (fun t k => XS.bipush X17.here hx rfl (hb hby at_207) k) ?_
                                  show Go p.tables e below PP (T17.setTop (mkF m 209 #[.val (.int p1), .val (.long q2), .second, .val (.int n), .val (.int ch0), .val (.int ch1), .val (.int ch2), .val (.int ch3), .val (.int ch4), .val (.int ch5), .val (.int ch6), .val (.ref b8), .val (.ref b16), .unset, .unset, .unset] [(.int (64 : Int32)), (.int ch5)]))
                                  by_cases hc209 : ch5 = (64 : Int32)
                                  · --
                                    refine Go.st (fun t k => XS.icmpYes X17.here hx rfl (pc0 := 209) (pc' := 225) rfl (hb hby at_209) rfl (XT.ii_eq_t hc209) (by decide) (by decide) k) ?_
                                    show Go p.tables e below PP (T17.setTop (mkF m 225 #[.val (.int p1), .val (.long q2), .second, .val (.int n), .val (.int ch0), .val (.int ch1), .val (.int ch2), .val (.int ch3), .val (.int ch4), .val (.int ch5), .val (.int ch6), .val (.ref b8), .val (.ref b16), .unset, .unset, .unset] []))
                                    refine Go.st (fun t k => XS.iconst X17.here hx rfl (hb hby at_225) k) ?_
                                    show Go p.tables e below PP (T17.setTop (mkF m 226 #[.val (.int p1), .val (.long q2), .second, .val (.int n), .val (.int ch0), .val (.int ch1), .val (.int ch2), .val (.int ch3), .val (.int ch4), .val (.int ch5), .val (.int ch6), .val (.ref b8), .val (.ref b16), .unset, .unset, .unset] [(.int (1 : Int32))]))
                                    refine Go.st (fun t k => XS.goto X17.here hx rfl (pc0 := 226) (pc' := 230) rfl (hb hby at_226) (by decide) (by decide) k) ?_
                                    show Go p.tables e below PP (T17.setTop (mkF m 230 #[.val (.int p1), .val (.long q2), .second, .val (.int n), .val (.int ch0), .val (.int ch1), .val (.int ch2), .val (.int ch3), .val (.int ch4), .val (.int ch5), .val (.int ch6), .val (.ref b8), .val (.ref b16), .unset, .unset, .unset] [(.int (1 : Int32))]))
                                    exact J230 _ _ _ X17 e17 N17 (by simp [bi, hc154, hc161, hc166, hc173, hc178, hc185, hc190, hc197, hc202, hc209])
                                  · --
                                    refine Go.st (fun t k => XS.icmpNo X17.here hx rfl (hb hby at_209) rfl (XT.ii_eq_f hc209) k) ?_
                                    show Go p.tables e below PP (T17.setTop (mkF m 212 #[.val (.int p1), .val (.long q2), .second, .val (.int n), .val (.int ch0), .val (.int ch1), .val (.int ch2), .val (.int ch3), .val (.int ch4), .val (.int ch5), .val (.int ch6), .val (.ref b8), .val (.ref b16), .unset, .unset, .unset] []))
                                    refine Go.st (fun t k => XS.iloadN X17.here hx rfl (hb hby at_212) rfl k) ?_
                                    show Go p.tables e below PP (T17.setTop (mkF m 213 #[.val (.int p1), .val (.long q2), .second, .val (.int n), .val (.int ch0), .val (.int ch1), .val (.int ch2), .val (.int ch3), .val (.int ch4), .val (.int ch5), .val (.int ch6), .val (.ref b8), .val (.ref b16), .unset, .unset, .unset] [(.int n)]))
                                    refine Go.st (fun t k => XS.bipush X17.here hx rfl (hb hby at_213) k) ?_
                                    show Go p.tables e below PP (T17.setTop (mkF m 215 #[.val (.int p1), .val (.long q2), .second, .val (.int n), .val (.int ch0), .val (.int ch1), .val (.int ch2), .val (.int ch3), .val (.int ch4), .val (.int ch5), .val (.int ch6), .val (.ref b8), .val (.ref b16), .unset, .unset, .unset] [(.int (6 : Int32)), (.int n)]))
                                    by_cases hc215 : (6 : Int32) < n
                                    · --
                                      refine Go.st (fun t k => XS.icmpNo X17.here hx rfl (hb hby at_215) rfl (XT.ii_le_f hc215) k) ?_
                                      show Go p.tables e below PP (T17.setTop (mkF m 218 #[.val (.int p1), .val (.long q2), .second, .val (.int n), .val (.int ch0), .val (.int ch1), .val (.int ch2), .val (.int ch3), .val (.int ch4), .val (.int ch5), .val (.int ch6), .val (.ref b8), .val (.ref b16), .unset, .unset, .unset] []))
                                      refine Go.st (fun t k => XS.iload X17.here hx rfl (hb hby at_218) rfl k) ?_
                                      show Go p.tables e below PP (T17.setTop (mkF m 220 #[.val (.int p1), .val (.long q2), .second, .val (.int n), .val (.int ch0), .val (.int ch1), .val (.int ch2), .val (.int ch3), .val (.int ch4), .val (.int ch5), .val (.int ch6), .val (.ref b8), .val (.ref b16), .unset, .unset, .unset] [(.int ch6)]))
                                      refine Go.st (fun t k => XS.bipush X17.here hx rfl (hb hby at_220) k) ?_
                                      show Go p.tables e below PP (T17.setTop (mkF m 222 #[.val (.int p1), .val (.long q2), .second, .val (.int n), .val (.int ch0), .val (.int ch1), .val (.int ch2), .val (.int ch3), .val (.int ch4), .val (.int ch5), .val (.int ch6), .val (.ref b8), .val (.ref b16), .unset, .unset, .unset] [(.int (64 : Int32)), (.int ch6)]))
                                      by_cases hc222 : ch6 = (64 : Int32)
                                      · --
                                        refine Go.st (fun t k => XS.icmpNo X17.here hx rfl (hb hby at_222) rfl (XT.ii_ne_f hc222) k) ?_
                                        show Go p.tables e below PP (T17.setTop (mkF m 225 #[.val (.int p1), .val (.long q2), .second, .val (.int n), .val (.int ch0), .val (.int ch1), .val (.int ch2), .val (.int ch3), .val (.int ch4), .val (.int ch5), .val (.int ch6), .val (.ref b8), .val (.ref b16), .unset, .unset, .unset] []))
                                        refine Go.st (fun t k => XS.iconst X17.here hx rfl (hb hby at_225) k) ?_
                                        show Go p.tables e below PP (T17.setTop (mkF m 226 #[.val (.int p1), .val (.long q2), .second, .val (.int n), .val (.int ch0), .val (.int ch1), .val (.int ch2), .val (.int ch3), .val (.int ch4), .val (.int ch5), .val (.int ch6), .val (.ref b8), .val (.ref b16), .unset, .unset, .unset] [(.int (1 : Int32))]))
                                        refine Go.st (fun t k => XS.goto X17.here hx rfl (pc0 := 226) (pc' := 230) rfl (hb hby at_226) (by decide) (by decide) k) ?_
                                        show Go p.tables e below PP (T17.setTop (mkF m 230 #[.val (.int p1), .val (.long q2), .second, .val (.int n), .val (.int ch0), .val (.int ch1), .val (.int ch2), .val (.int ch3), .val (.int ch4), .val (.int ch5), .val (.int ch6), .val (.ref b8), .val (.ref b16), .unset, .unset, .unset] [(.int (1 : Int32))]))
                                        exact J230 _ _ _ X17 e17 N17 (by simp [bi, hc154, hc161, hc166, hc173, hc178, hc185, hc190, hc197, hc202, hc209, hc215, hc222])
                                      · --
                                        refine Go.st (fun t k => XS.icmpYes X17.here hx rfl (pc0 := 222) (pc' := 229) rfl (hb hby at_222) rfl (XT.ii_ne_t hc222) (by decide) (by decide) k) ?_
                                        show Go p.tables e below PP (T17.setTop (mkF m 229 #[.val (.int p1), .val (.long q2), .second, .val (.int n), .val (.int ch0), .val (.int ch1), .val (.int ch2), .val (.int ch3), .val (.int ch4), .val (.int ch5), .val (.int ch6), .val (.ref b8), .val (.ref b16), .unset, .unset, .unset] []))
                                        refine Go.st (fun t k => XS.iconst X17.here hx rfl (hb hby at_229) k) ?_
                                        show Go p.tables e below PP (T17.setTop (mkF m 230 #[.val (.int p1), .val (.long q2), .second, .val (.int n), .val (.int ch0), .val (.int ch1), .val (.int ch2), .val (.int ch3), .val (.int ch4), .val (.int ch5), .val (.int ch6), .val (.ref b8), .val (.ref b16), .unset, .unset, .unset] [(.int (0 : Int32))]))
                                        exact J230 _ _ _ X17 e17 N17 (by simp [bi, hc154, hc161, hc166, hc173, hc178, hc185, hc190, hc197, hc202, hc209, hc215, hc222])
                                    · --
                                      refine Go.st (fun t k => XS.icmpYes X17.here hx rfl (pc0 := 215) (pc' := 229) rfl (hb hby at_215) rfl (XT.ii_le_t hc215) (by decide) (by decide) k) ?_
                                      show Go p.tables e below PP (T17.setTop (mkF m 229 #[.val (.int p1), .val (.long q2), .second, .val (.int n), .val (.int ch0), .val (.int ch1), .val (.int ch2), .val (.int ch3), .val (.int ch4), .val (.int ch5), .val (.int ch6), .val (.ref b8), .val (.ref b16), .unset, .unset, .unset] []))
                                      refine Go.st (fun t k => XS.iconst X17.here hx rfl (hb hby at_229) k) ?_
                                      show Go p.tables e below PP (T17.setTop (mkF m 230 #[.val (.int p1), .val (.long q2), .second, .val (.int n), .val (.int ch0), .val (.int ch1), .val (.int ch2), .val (.int ch3), .val (.int ch4), .val (.int ch5), .val (.int ch6), .val (.ref b8), .val (.ref b16), .unset, .unset, .unset] [(.int (0 : Int32))]))
                                      exact J230 _ _ _ X17 e17 N17 (by simp [bi, hc154, hc161, hc166, hc173, hc178, hc185, hc190, hc197, hc202, hc209, hc215])
                                · --
                                  refine Go.st (fun t k => XS.icmpYes X17.here hx rfl (pc0 := 202) (pc' := 212) rfl (hb hby at_202) rfl (XT.ii_le_t hc202) (by decide) (by decide) k) ?_
                                  show Go p.tables e below PP (T17.setTop (mkF m 212 #[.val (.int p1), .val (.long q2), .second, .val (.int n), .val (.int ch0), .val (.int ch1), .val (.int ch2), .val (.int ch3), .val (.int ch4), .val (.int ch5), .val (.int ch6), .val (.ref b8), .val (.ref b16), .unset, .unset, .unset] []))
                                  refine Go.st (fun t k => XS.iloadN X17.here hx rfl (hb hby at_212) rfl k) ?_
                                  show Go p.tables e below PP (T17.setTop (mkF m 213 #[.val (.int p1), .val (.long q2), .second, .val (.int n), .val (.int ch0), .val (.int ch1), .val (.int ch2), .val (.int ch3), .val (.int ch4), .val (.int ch5), .val (.int ch6), .val (.ref b8), .val (.ref b16), .unset, .unset, .unset] [(.int n)]))
                                  refine Go.st (fun t k => XS.bipush X17.here hx rfl (hb hby at_213) k) ?_
                                  show Go p.tables e below PP (T17.setTop (mkF m 215 #[.val (.int p1), .val (.long q2), .second, .val (.int n), .val (.int ch0), .val (.int ch1), .val (.int ch2), .val (.int ch3), .val (.int ch4), .val (.int ch5), .val (.int ch6), .val (.ref b8), .val (.ref b16), .unset, .unset, .unset] [(.int (6 : Int32)), (.int n)]))
                                  by_cases hc215 : (6 : Int32) < n
                                  · --
                                    refine Go.st (fun t k => XS.icmpNo X17.here hx rfl (hb hby at_215) rfl (XT.ii_le_f hc215) k) ?_
                                    show Go p.tables e below PP (T17.setTop (mkF m 218 #[.val (.int p1), .val (.long q2), .second, .val (.int n), .val (.int ch0), .val (.int ch1), .val (.int ch2), .val (.int ch3), .val (.int ch4), .val (.int ch5), .val (.int ch6), .val (.ref b8), .val (.ref b16), .unset, .unset, .unset] []))
                                    refine Go.st (fun t k => XS.iload X17.here hx rfl (hb hby at_218) rfl k) ?_
                                    show Go p.tables e below PP (T17.setTop (mkF m 220 #[.val (.int p1), .val (.long q2), .second, .val (.int n), .val (.int ch0), .val (.int ch1), .val (.int ch2), .val (.int ch3), .val (.int ch4), .val (.int ch5), .val (.int ch6), .val (.ref b8), .val (.ref b16), .unset, .unset, .unset] [(.int ch6)]))
                                    refine Go.st (fun t k => XS.bipush X17.here hx rfl (hb hby at_220) k) ?_
                                    show Go p.tables e below PP (T17.setTop (mkF m 222 #[.val (.int p1), .val (.long q2), .second, .val (.int n), .val (.int ch0), .val (.int ch1), .val (.int ch2), .val (.int ch3), .val (.int ch4), .val (.int ch5), .val (.int ch6), .val (.ref b8), .val (.ref b16), .unset, .unset, .unset] [(.int (64 : Int32)), (.int ch6)]))
                                    by_cases hc222 : ch6 = (64 : Int32)
                                    · --
                                      refine Go.st (fun t k => XS.icmpNo X17.here hx rfl (hb hby at_222) rfl (XT.ii_ne_f hc222) k) ?_
                                      show Go p.tables e below PP (T17.setTop (mkF m 225 #[.val (.int p1), .val (.long q2), .second, .val (.int n), .val (.int ch0), .val (.int ch1), .val (.int ch2), .val (.int ch3), .val (.int ch4), .val (.int ch5), .val (.int ch6), .val (.ref b8), .val (.ref b16), .unset, .unset, .unset] []))
                                      refine Go.st (fun t k => XS.iconst X17.here hx rfl (hb hby at_225) k) ?_
                                      show Go p.tables e below PP (T17.setTop (mkF m 226 #[.val (.int p1), .val (.long q2), .second, .val (.int n), .val (.int ch0), .val (.int ch1), .val (.int ch2), .val (.int ch3), .val (.int ch4), .val (.int ch5), .val (.int ch6), .val (.ref b8), .val (.ref b16), .unset, .unset, .unset] [(.int (1 : Int32))]))
                                      refine Go.st (fun t k => XS.goto X17.here hx rfl (pc0 := 226) (pc' := 230) rfl (hb hby at_226) (by decide) (by decide) k) ?_
                                      show Go p.tables e below PP (T17.setTop (mkF m 230 #[.val (.int p1), .val (.long q2), .second, .val (.int n), .val (.int ch0), .val (.int ch1), .val (.int ch2), .val (.int ch3), .val (.int ch4), .val (.int ch5), .val (.int ch6), .val (.ref b8), .val (.ref b16), .unset, .unset, .unset] [(.int (1 : Int32))]))
                                      exact J230 _ _ _ X17 e17 N17 (by simp [bi, hc154, hc161, hc166, hc173, hc178, hc185, hc190, hc197, hc202, hc215, hc222])
                                    · --
                                      refine Go.st (fun t k => XS.icmpYes X17.here hx rfl (pc0 := 222) (pc' := 229) rfl (hb hby at_222) rfl (XT.ii_ne_t hc222) (by decide) (by decide) k) ?_
                                      show Go p.tables e below PP (T17.setTop (mkF m 229 #[.val (.int p1), .val (.long q2), .second, .val (.int n), .val (.int ch0), .val (.int ch1), .val (.int ch2), .val (.int ch3), .val (.int ch4), .val (.int ch5), .val (.int ch6), .val (.ref b8), .val (.ref b16), .unset, .unset, .unset] []))
                                      refine Go.st (fun t k => XS.iconst X17.here hx rfl (hb hby at_229) k) ?_
                                      show Go p.tables e below PP (T17.setTop (mkF m 230 #[.val (.int p1), .val (.long q2), .second, .val (.int n), .val (.int ch0), .val (.int ch1), .val (.int ch2), .val (.int ch3), .val (.int ch4), .val (.int ch5), .val (.int ch6), .val (.ref b8), .val (.ref b16), .unset, .unset, .unset] [(.int (0 : Int32))]))
                                      exact J230 _ _ _ X17 e17 N17 (by simp [bi, hc154, hc161, hc166, hc173, hc178, hc185, hc190, hc197, hc202, hc215, hc222])
                                  · --
                                    refine Go.st (fun t k => XS.icmpYes X17.here hx rfl (pc0 := 215) (pc' := 229) rfl (hb hby at_215) rfl (XT.ii_le_t hc215) (by decide) (by decide) k) ?_
                                    show Go p.tables e below PP (T17.setTop (mkF m 229 #[.val (.int p1), .val (.long q2), .second, .val (.int n), .val (.int ch0), .val (.int ch1), .val (.int ch2), .val (.int ch3), .val (.int ch4), .val (.int ch5), .val (.int ch6), .val (.ref b8), .val (.ref b16), .unset, .unset, .unset] []))
                                    refine Go.st (fun t k => XS.iconst X17.here hx rfl (hb hby at_229) k) ?_
                                    show Go p.tables e below PP (T17.setTop (mkF m 230 #[.val (.int p1), .val (.long q2), .second, .val (.int n), .val (.int ch0), .val (.int ch1), .val (.int ch2), .val (.int ch3), .val (.int ch4), .val (.int ch5), .val (.int ch6), .val (.ref b8), .val (.ref b16), .unset, .unset, .unset] [(.int (0 : Int32))]))
                                    exact J230 _ _ _ X17 e17 N17 (by simp [bi, hc154, hc161, hc166, hc173, hc178, hc185, hc190, hc197, hc202, hc215])
                            · --
                              refine Go.st (fun t k => XS.icmpYes X17.here hx rfl (pc0 := 190) (pc' := 200) rfl (hb hby at_190) rfl (XT.ii_le_t hc190) (by decide) (by decide) k) ?_
                              show Go p.tables e below PP (T17.setTop (mkF m 200 #[.val (.int p1), .val (.long q2), .second, .val (.int n), .val (.int ch0), .val (.int ch1), .val (.int ch2), .val (.int ch3), .val (.int ch4), .val (.int ch5), .val (.int ch6), .val (.ref b8), .val (.ref b16), .unset, .unset, .unset] []))
                              refine Go.st (fun t k => XS.iloadN X17.here hx rfl (hb hby at_200) rfl k) ?_
                              show Go p.tables e below PP (T17.setTop (mkF m 201 #[.val (.int p1), .val (.long q2), .second, .val (.int n), .val (.int ch0), .val (.int ch1), .val (.int ch2), .val (.int ch3), .val (.int ch4), .val (.int ch5), .val (.int ch6), .val (.ref b8), .val (.ref b16), .unset, .unset, .unset] [(.int n)]))
                              refine Go.st (fun t k => XS.iconst X17.here hx rfl (hb hby at_201) k) ?_
                              show Go p.tables e below PP (T17.setTop (mkF m 202 #[.val (.int p1), .val (.long q2), .second, .val (.int n), .val (.int ch0), .val (.int ch1), .val (.int ch2), .val (.int ch3), .val (.int ch4), .val (.int ch5), .val (.int ch6), .val (.ref b8), .val (.ref b16), .unset, .unset, .unset] [(.int (5 : Int32)), (.int n)]))
                              by_cases hc202 : (5 : Int32) < n
                              · --
                                refine Go.st (fun t k => XS.icmpNo X17.here hx rfl (hb hby at_202) rfl (XT.ii_le_f hc202) k) ?_
                                show Go p.tables e below PP (T17.setTop (mkF m 205 #[.val (.int p1), .val (.long q2), .second, .val (.int n), .val (.int ch0), .val (.int ch1), .val (.int ch2), .val (.int ch3), .val (.int ch4), .val (.int ch5), .val (.int ch6), .val (.ref b8), .val (.ref b16), .unset, .unset, .unset] []))
                                refine Go.st (fun t k => XS.iload X17.here hx rfl (hb hby at_205) rfl k) ?_
                                show Go p.tables e below PP (T17.setTop (mkF m 207 #[.val (.int p1), .val (.long q2), .second, .val (.int n), .val (.int ch0), .val (.int ch1), .val (.int ch2), .val (.int ch3), .val (.int ch4), .val (.int ch5), .val (.int ch6), .val (.ref b8), .val (.ref b16), .unset, .unset, .unset] [(.int ch5)]))
                                refine Go.st (fun t k => XS.bipush X17.here hx rfl (hb hby at_207) k) ?_
                                show Go p.tables e below PP (T17.setTop (mkF m 209 #[.val (.int p1), .val (.long q2), .second, .val (.int n), .val (.int ch0), .val (.int ch1), .val (.int ch2), .val (.int ch3), .val (.int ch4), .val (.int ch5), .val (.int ch6), .val (.ref b8), .val (.ref b16), .unset, .unset, .unset] [(.int (64 : Int32)), (.int ch5)]))
                                by_cases hc209 : ch5 = (64 : Int32)
                                · --
                                  refine Go.st (fun t k => XS.icmpYes X17.here hx rfl (pc0 := 209) (pc' := 225) rfl (hb hby at_209) rfl (XT.ii_eq_t hc209) (by decide) (by decide) k) ?_
                                  show Go p.tables e below PP (T17.setTop (mkF m 225 #[.val (.int p1), .val (.long q2), .second, .val (.int n), .val (.int ch0), .val (.int ch1), .val (.int ch2), .val (.int ch3), .val (.int ch4), .val (.int ch5), .val (.int ch6), .val (.ref b8), .val (.ref b16), .unset, .unset, .unset] []))
                                  refine Go.st (fun t k => XS.iconst X17.here hx rfl (hb hby at_225) k) ?_
                                  show Go p.tables e below PP (T17.setTop (mkF m 226 #[.val (.int p1), .val (.long q2), .second, .val (.int n), .val (.int ch0), .val (.int ch1), .val (.int ch2), .val (.int ch3), .val (.int ch4), .val (.int ch5), .val (.int ch6), .val (.ref b8), .val (.ref b16), .unset, .unset, .unset] [(.int (1 : Int32))]))
                                  refine Go.st (fun t k => XS.goto X17.here hx rfl (pc0 := 226) (pc' := 230) rfl (hb hby at_226) (by decide) (by decide) k) ?_
                                  show Go p.tables e below PP (T17.setTop (mkF m 230 #[.val (.int p1), .val (.long q2), .second, .val (.int n), .val (.int ch0), .val (.int ch1), .val (.int ch2), .val (.int ch3), .val (.int ch4), .val (.int ch5), .val (.int ch6), .val (.ref b8), .val (.ref b16), .unset, .unset, .unset] [(.int (1 : Int32))]))
                                  exact J230 _ _ _ X17 e17 N17 (by simp [bi, hc154, hc161, hc166, hc173, hc178, hc185, hc190, hc202, hc209])
                                · --
                                  refine Go.st (fun t k => XS.icmpNo X17.here hx rfl (hb hby at_209) rfl (XT.ii_eq_f hc209) k) ?_
                                  show Go p.tables e below PP (T17.setTop (mkF m 212 #[.val (.int p1), .val (.long q2), .second, .val (.int n), .val (.int ch0), .val (.int ch1), .val (.int ch2), .val (.int ch3), .val (.int ch4), .val (.int ch5), .val (.int ch6), .val (.ref b8), .val (.ref b16), .unset, .unset, .unset] []))
                                  refine Go.st (fun t k => XS.iloadN X17.here hx rfl (hb hby at_212) rfl k) ?_
                                  show Go p.tables e below PP (T17.setTop (mkF m 213 #[.val (.int p1), .val (.long q2), .second, .val (.int n), .val (.int ch0), .val (.int ch1), .val (.int ch2), .val (.int ch3), .val (.int ch4), .val (.int ch5), .val (.int ch6), .val (.ref b8), .val (.ref b16), .unset, .unset, .unset] [(.int n)]))
                                  refine Go.st (fun t k => XS.bipush X17.here hx rfl (hb hby at_213) k) ?_
                                  show Go p.tables e below PP (T17.setTop (mkF m 215 #[.val (.int p1), .val (.long q2), .second, .val (.int n), .val (.int ch0), .val (.int ch1), .val (.int ch2), .val (.int ch3), .val (.int ch4), .val (.int ch5), .val (.int ch6), .val (.ref b8), .val (.ref b16), .unset, .unset, .unset] [(.int (6 : Int32)), (.int n)]))
                                  by_cases hc215 : (6 : Int32) < n
                                  · --
                                    refine Go.st (fun t k => XS.icmpNo X17.here hx rfl (hb hby at_215) rfl (XT.ii_le_f hc215) k) ?_
                                    show Go p.tables e below PP (T17.setTop (mkF m 218 #[.val (.int p1), .val (.long q2), .second, .val (.int n), .val (.int ch0), .val (.int ch1), .val (.int ch2), .val (.int ch3), .val (.int ch4), .val (.int ch5), .val (.int ch6), .val (.ref b8), .val (.ref b16), .unset, .unset, .unset] []))
                                    refine Go.st (fun t k => XS.iload X17.here hx rfl (hb hby at_218) rfl k) ?_
                                    show Go p.tables e below PP (T17.setTop (mkF m 220 #[.val (.int p1), .val (.long q2), .second, .val (.int n), .val (.int ch0), .val (.int ch1), .val (.int ch2), .val (.int ch3), .val (.int ch4), .val (.int ch5), .val (.int ch6), .val (.ref b8), .val (.ref b16), .unset, .unset, .unset] [(.int ch6)]))
                                    refine Go.st (fun t k => XS.bipush X17.here hx rfl (hb hby at_220) k) ?_
                                    show Go p.tables e below PP (T17.setTop (mkF m 222 #[.val (.int p1), .val (.long q2), .second, .val (.int n), .val (.int ch0), .val (.int ch1), .val (.int ch2), .val (.int ch3), .val (.int ch4), .val (.int ch5), .val (.int ch6), .val (.ref b8), .val (.ref b16), .unset, .unset, .unset] [(.int (64 : Int32)), (.int ch6)]))
                                    by_cases hc222 : ch6 = (64 : Int32)
                                    · --
                                      refine Go.st (fun t k => XS.icmpNo X17.here hx rfl (hb hby at_222) rfl (XT.ii_ne_f hc222) k) ?_
                                      show Go p.tables e below PP (T17.setTop (mkF m 225 #[.val (.int p1), .val (.long q2), .second, .val (.int n), .val (.int ch0), .val (.int ch1), .val (.int ch2), .val (.int ch3), .val (.int ch4), .val (.int ch5), .val (.int ch6), .val (.ref b8), .val (.ref b16), .unset, .unset, .unset] []))
                                      refine Go.st (fun t k => XS.iconst X17.here hx rfl (hb hby at_225) k) ?_
                                      show Go p.tables e below PP (T17.setTop (mkF m 226 #[.val (.int p1), .val (.long q2), .second, .val (.int n), .val (.int ch0), .val (.int ch1), .val (.int ch2), .val (.int ch3), .val (.int ch4), .val (.int ch5), .val (.int ch6), .val (.ref b8), .val (.ref b16), .unset, .unset, .unset] [(.int (1 : Int32))]))
                                      refine Go.st (fun t k => XS.goto X17.here hx rfl (pc0 := 226) (pc' := 230) rfl (hb hby at_226) (by decide) (by decide) k) ?_
                                      show Go p.tables e below PP (T17.setTop (mkF m 230 #[.val (.int p1), .val (.long q2), .second, .val (.int n), .val (.int ch0), .val (.int ch1), .val (.int ch2), .val (.int ch3), .val (.int ch4), .val (.int ch5), .val (.int ch6), .val (.ref b8), .val (.ref b16), .unset, .unset, .unset] [(.int (1 : Int32))]))
                                      exact J230 _ _ _ X17 e17 N17 (by simp [bi, hc154, hc161, hc166, hc173, hc178, hc185, hc190, hc202, hc209, hc215, hc222])
                                    · --
                                      refine Go.st (fun t k => XS.icmpYes X17.here hx rfl (pc0 := 222) (pc' := 229) rfl (hb hby at_222) rfl (XT.ii_ne_t hc222) (by decide) (by decide) k) ?_
                                      show Go p.tables e below PP (T17.setTop (mkF m 229 #[.val (.int p1), .val (.long q2), .second, .val (.int n), .val (.int ch0), .val (.int ch1), .val (.int ch2), .val (.int ch3), .val (.int ch4), .val (.int ch5), .val (.int ch6), .val (.ref b8), .val (.ref b16), .unset, .unset, .unset] []))
                                      refine Go.st (fun t k => XS.iconst X17.here hx rfl (hb hby at_229) k) ?_
                                      show Go p.tables e below PP (T17.setTop (mkF m 230 #[.val (.int p1), .val (.long q2), .second, .val (.int n), .val (.int ch0), .val (.int ch1), .val (.int ch2), .val (.int ch3), .val (.int ch4), .val (.int ch5), .val (.int ch6), .val (.ref b8), .val (.ref b16), .unset, .unset, .unset] [(.int (0 : Int32))]))
                                      exact J230 _ _ _ X17 e17 N17 (by simp [bi, hc154, hc161, hc166, hc173, hc178, hc185, hc190, hc202, hc209, hc215, hc222])
                                  · --
                                    refine Go.st (fun t k => XS.icmpYes X17.here hx rfl (pc0 := 215) (pc' := 229) rfl (hb hby at_215) rfl (XT.ii_le_t hc215) (by decide) (by decide) k) ?_
                                    show Go p.tables e below PP (T17.setTop (mkF m 229 #[.val (.int p1), .val (.long q2), .second, .val (.int n), .val (.int ch0), .val (.int ch1), .val (.int ch2), .val (.int ch3), .val (.int ch4), .val (.int ch5), .val (.int ch6), .val (.ref b8), .val (.ref b16), .unset, .unset, .unset] []))
                                    refine Go.st (fun t k => XS.iconst X17.here hx rfl (hb hby at_229) k) ?_
                                    show Go p.tables e below PP (T17.setTop (mkF m 230 #[.val (.int p1), .val (.long q2), .second, .val (.int n), .val (.int ch0), .val (.int ch1), .val (.int ch2), .val (.int ch3), .val (.int ch4), .val (.int ch5), .val (.int ch6), .val (.ref b8), .val (.ref b16), .unset, .unset, .unset] [(.int (0 : Int32))]))
                                    exact J230 _ _ _ X17 e17 N17 (by simp [bi, hc154, hc161, hc166, hc173, hc178, hc185, hc190, hc202, hc209, hc215])
                              · --
                                refine Go.st (fun t k => XS.icmpYes X17.here hx rfl (pc0 := 202) (pc' := 212) rfl (hb hby at_202) rfl (XT.ii_le_t hc202) (by decide) (by decide) k) ?_
                                show Go p.tables e below PP (T17.setTop (mkF m 212 #[.val (.int p1), .val (.long q2), .second, .val (.int n), .val (.int ch0), .val (.int ch1), .val (.int ch2), .val (.int ch3), .val (.int ch4), .val (.int ch5), .val (.int ch6), .val (.ref b8), .val (.ref b16), .unset, .unset, .unset] []))
                                refine Go.st (fun t k => XS.iloadN X17.here hx rfl (hb hby at_212) rfl k) ?_
                                show Go p.tables e below PP (T17.setTop (mkF m 213 #[.val (.int p1), .val (.long q2), .second, .val (.int n), .val (.int ch0), .val (.int ch1), .val (.int ch2), .val (.int ch3), .val (.int ch4), .val (.int ch5), .val (.int ch6), .val (.ref b8), .val (.ref b16), .unset, .unset, .unset] [(.int n)]))
                                refine Go.st (fun t k => XS.bipush X17.here hx rfl (hb hby at_213) k) ?_
                                show Go p.tables e below PP (T17.setTop (mkF m 215 #[.val (.int p1), .val (.long q2), .second, .val (.int n), .val (.int ch0), .val (.int ch1), .val (.int ch2), .val (.int ch3), .val (.int ch4), .val (.int ch5), .val (.int ch6), .val (.ref b8), .val (.ref b16), .unset, .unset, .unset] [(.int (6 : Int32)), (.int n)]))
                                by_cases hc215 : (6 : Int32) < n
                                · --
                                  refine Go.st (fun t k => XS.icmpNo X17.here hx rfl (hb hby at_215) rfl (XT.ii_le_f hc215) k) ?_
                                  show Go p.tables e below PP (T17.setTop (mkF m 218 #[.val (.int p1), .val (.long q2), .second, .val (.int n), .val (.int ch0), .val (.int ch1), .val (.int ch2), .val (.int ch3), .val (.int ch4), .val (.int ch5), .val (.int ch6), .val (.ref b8), .val (.ref b16), .unset, .unset, .unset] []))
                                  refine Go.st (fun t k => XS.iload X17.here hx rfl (hb hby at_218) rfl k) ?_
                                  show Go p.tables e below PP (T17.setTop (mkF m 220 #[.val (.int p1), .val (.long q2), .second, .val (.int n), .val (.int ch0), .val (.int ch1), .val (.int ch2), .val (.int ch3), .val (.int ch4), .val (.int ch5), .val (.int ch6), .val (.ref b8), .val (.ref b16), .unset, .unset, .unset] [(.int ch6)]))
                                  refine Go.st (fun t k => XS.bipush X17.here hx rfl (hb hby at_220) k) ?_
                                  show Go p.tables e below PP (T17.setTop (mkF m 222 #[.val (.int p1), .val (.long q2), .second, .val (.int n), .val (.int ch0), .val (.int ch1), .val (.int ch2), .val (.int ch3), .val (.int ch4), .val (.int ch5), .val (.int ch6), .val (.ref b8), .val (.ref b16), .unset, .unset, .unset] [(.int (64 : Int32)), (.int ch6)]))
                                  by_cases hc222 : ch6 = (64 : Int32)
                                  · --
                                    refine Go.st (fun t k => XS.icmpNo X17.here hx rfl (hb hby at_222) rfl (XT.ii_ne_f hc222) k) ?_
                                    show Go p.tables e below PP (T17.setTop (mkF m 225 #[.val (.int p1), .val (.long q2), .second, .val (.int n), .val (.int ch0), .val (.int ch1), .val (.int ch2), .val (.int ch3), .val (.int ch4), .val (.int ch5), .val (.int ch6), .val (.ref b8), .val (.ref b16), .unset, .unset, .unset] []))
                                    refine Go.st (fun t k => XS.iconst X17.here hx rfl (hb hby at_225) k) ?_
                                    show Go p.tables e below PP (T17.setTop (mkF m 226 #[.val (.int p1), .val (.long q2), .second, .val (.int n), .val (.int ch0), .val (.int ch1), .val (.int ch2), .val (.int ch3), .val (.int ch4), .val (.int ch5), .val (.int ch6), .val (.ref b8), .val (.ref b16), .unset, .unset, .unset] [(.int (1 : Int32))]))
                                    refine Go.st (fun t k => XS.goto X17.here hx rfl (pc0 := 226) (pc' := 230) rfl (hb hby at_226) (by decide) (by decide) k) ?_
                                    show Go p.tables e below PP (T17.setTop (mkF m 230 #[.val (.int p1), .val (.long q2), .second, .val (.int n), .val (.int ch0), .val (.int ch1), .val (.int ch2), .val (.int ch3), .val (.int ch4), .val (.int ch5), .val (.int ch6), .val (.ref b8), .val (.ref b16), .unset, .unset, .unset] [(.int (1 : Int32))]))
                                    exact J230 _ _ _ X17 e17 N17 (by simp [bi, hc154, hc161, hc166, hc173, hc178, hc185, hc190, hc202, hc215, hc222])
                                  · --
                                    refine Go.st (fun t k => XS.icmpYes X17.here hx rfl (pc0 := 222) (pc' := 229) rfl (hb hby at_222) rfl (XT.ii_ne_t hc222) (by decide) (by decide) k) ?_
                                    show Go p.tables e below PP (T17.setTop (mkF m 229 #[.val (.int p1), .val (.long q2), .second, .val (.int n), .val (.int ch0), .val (.int ch1), .val (.int ch2), .val (.int ch3), .val (.int ch4), .val (.int ch5), .val (.int ch6), .val (.ref b8), .val (.ref b16), .unset, .unset, .unset] []))
                                    refine Go.st (fun t k => XS.iconst X17.here hx rfl (hb hby at_229) k) ?_
                                    show Go p.tables e below PP (T17.setTop (mkF m 230 #[.val (.int p1), .val (.long q2), .second, .val (.int n), .val (.int ch0), .val (.int ch1), .val (.int ch2), .val (.int ch3), .val (.int ch4), .val (.int ch5), .val (.int ch6), .val (.ref b8), .val (.ref b16), .unset, .unset, .unset] [(.int (0 : Int32))]))
                                    exact J230 _ _ _ X17 e17 N17 (by simp [bi, hc154, hc161, hc166, hc173, hc178, hc185, hc190, hc202, hc215, hc222])
                                · --
                                  refine Go.st (fun t k => XS.icmpYes X17.here hx rfl (pc0 := 215) (pc' := 229) rfl (hb hby at_215) rfl (XT.ii_le_t hc215) (by decide) (by decide) k) ?_
                                  show Go p.tables e below PP (T17.setTop (mkF m 229 #[.val (.int p1), .val (.long q2), .second, .val (.int n), .val (.int ch0), .val (.int ch1), .val (.int ch2), .val (.int ch3), .val (.int ch4), .val (.int ch5), .val (.int ch6), .val (.ref b8), .val (.ref b16), .unset, .unset, .unset] []))
                                  refine Go.st (fun t k => XS.iconst X17.here hx rfl (hb hby at_229) k) ?_
                                  show Go p.tables e below PP (T17.setTop (mkF m 230 #[.val (.int p1), .val (.long q2), .second, .val (.int n), .val (.int ch0), .val (.int ch1), .val (.int ch2), .val (.int ch3), .val (.int ch4), .val (.int ch5), .val (.int ch6), .val (.ref b8), .val (.ref b16), .unset, .unset, .unset] [(.int (0 : Int32))]))
                                  exact J230 _ _ _ X17 e17 N17 (by simp [bi, hc154, hc161, hc166, hc173, hc178, hc185, hc190, hc202, hc215])
                        · --
                          refine Go.st (fun t k => XS.icmpYes X17.here hx rfl (pc0 := 178) (pc' := 188) rfl (hb hby at_178) rfl (XT.ii_le_t hc178) (by decide) (by decide) k) ?_
                          show Go p.tables e below PP (T17.setTop (mkF m 188 #[.val (.int p1), .val (.long q2), .second, .val (.int n), .val (.int ch0), .val (.int ch1), .val (.int ch2), .val (.int ch3), .val (.int ch4), .val (.int ch5), .val (.int ch6), .val (.ref b8), .val (.ref b16), .unset, .unset, .unset] []))
                          refine Go.st (fun t k => XS.iloadN X17.here hx rfl (hb hby at_188) rfl k) ?_
                          show Go p.tables e below PP (T17.setTop (mkF m 189 #[.val (.int p1), .val (.long q2), .second, .val (.int n), .val (.int ch0), .val (.int ch1), .val (.int ch2), .val (.int ch3), .val (.int ch4), .val (.int ch5), .val (.int ch6), .val (.ref b8), .val (.ref b16), .unset, .unset, .unset] [(.int n)]))
                          refine Go.st (fun t k => XS.iconst X17.here hx rfl (hb hby at_189) k) ?_
                          show Go p.tables e below PP (T17.setTop (mkF m 190 #[.val (.int p1), .val (.long q2), .second, .val (.int n), .val (.int ch0), .val (.int ch1), .val (.int ch2), .val (.int ch3), .val (.int ch4), .val (.int ch5), .val (.int ch6), .val (.ref b8), .val (.ref b16), .unset, .unset, .unset] [(.int (4 : Int32)), (.int n)]))
                          by_cases hc190 : (4 : Int32) < n
                          · --
                            refine Go.st (fun t k => XS.icmpNo X17.here hx rfl (hb hby at_190) rfl (XT.ii_le_f hc190) k) ?_
                            show Go p.tables e below PP (T17.setTop (mkF m 193 #[.val (.int p1), .val (.long q2), .second, .val (.int n), .val (.int ch0), .val (.int ch1), .val (.int ch2), .val (.int ch3), .val (.int ch4), .val (.int ch5), .val (.int ch6), .val (.ref b8), .val (.ref b16), .unset, .unset, .unset] []))
                            refine Go.st (fun t k => XS.iload X17.here hx rfl (hb hby at_193) rfl k) ?_
                            show Go p.tables e below PP (T17.setTop (mkF m 195 #[.val (.int p1), .val (.long q2), .second, .val (.int n), .val (.int ch0), .val (.int ch1), .val (.int ch2), .val (.int ch3), .val (.int ch4), .val (.int ch5), .val (.int ch6), .val (.ref b8), .val (.ref b16), .unset, .unset, .unset] [(.int ch4)]))
                            refine Go.st (fun t k => XS.bipush X17.here hx rfl (hb hby at_195) k) ?_
                            show Go p.tables e below PP (T17.setTop (mkF m 197 #[.val (.int p1), .val (.long q2), .second, .val (.int n), .val (.int ch0), .val (.int ch1), .val (.int ch2), .val (.int ch3), .val (.int ch4), .val (.int ch5), .val (.int ch6), .val (.ref b8), .val (.ref b16), .unset, .unset, .unset] [(.int (64 : Int32)), (.int ch4)]))
                            by_cases hc197 : ch4 = (64 : Int32)
                            · --
                              refine Go.st (fun t k => XS.icmpYes X17.here hx rfl (pc0 := 197) (pc' := 225) rfl (hb hby at_197) rfl (XT.ii_eq_t hc197) (by decide) (by decide) k) ?_
                              show Go p.tables e below PP (T17.setTop (mkF m 225 #[.val (.int p1), .val (.long q2), .second, .val (.int n), .val (.int ch0), .val (.int ch1), .val (.int ch2), .val (.int ch3), .val (.int ch4), .val (.int ch5), .val (.int ch6), .val (.ref b8), .val (.ref b16), .unset, .unset, .unset] []))
                              refine Go.st (fun t k => XS.iconst X17.here hx rfl (hb hby at_225) k) ?_
                              show Go p.tables e below PP (T17.setTop (mkF m 226 #[.val (.int p1), .val (.long q2), .second, .val (.int n), .val (.int ch0), .val (.int ch1), .val (.int ch2), .val (.int ch3), .val (.int ch4), .val (.int ch5), .val (.int ch6), .val (.ref b8), .val (.ref b16), .unset, .unset, .unset] [(.int (1 : Int32))]))
                              refine Go.st (fun t k => XS.goto X17.here hx rfl (pc0 := 226) (pc' := 230) rfl (hb hby at_226) (by decide) (by decide) k) ?_
                              show Go p.tables e below PP (T17.setTop (mkF m 230 #[.val (.int p1), .val (.long q2), .second, .val (.int n), .val (.int ch0), .val (.int ch1), .val (.int ch2), .val (.int ch3), .val (.int ch4), .val (.int ch5), .val (.int ch6), .val (.ref b8), .val (.ref b16), .unset, .unset, .unset] [(.int (1 : Int32))]))
                              exact J230 _ _ _ X17 e17 N17 (by simp [bi, hc154, hc161, hc166, hc173, hc178, hc190, hc197])
                            · --
                              refine Go.st (fun t k => XS.icmpNo X17.here hx rfl (hb hby at_197) rfl (XT.ii_eq_f hc197) k) ?_
                              show Go p.tables e below PP (T17.setTop (mkF m 200 #[.val (.int p1), .val (.long q2), .second, .val (.int n), .val (.int ch0), .val (.int ch1), .val (.int ch2), .val (.int ch3), .val (.int ch4), .val (.int ch5), .val (.int ch6), .val (.ref b8), .val (.ref b16), .unset, .unset, .unset] []))
                              refine Go.st (fun t k => XS.iloadN X17.here hx rfl (hb hby at_200) rfl k) ?_
                              show Go p.tables e below PP (T17.setTop (mkF m 201 #[.val (.int p1), .val (.long q2), .second, .val (.int n), .val (.int ch0), .val (.int ch1), .val (.int ch2), .val (.int ch3), .val (.int ch4), .val (.int ch5), .val (.int ch6), .val (.ref b8), .val (.ref b16), .unset, .unset, .unset] [(.int n)]))
                              refine Go.st (fun t k => XS.iconst X17.here hx rfl (hb hby at_201) k) ?_
                              show Go p.tables e below PP (T17.setTop (mkF m 202 #[.val (.int p1), .val (.long q2), .second, .val (.int n), .val (.int ch0), .val (.int ch1), .val (.int ch2), .val (.int ch3), .val (.int ch4), .val (.int ch5), .val (.int ch6), .val (.ref b8), .val (.ref b16), .unset, .unset, .unset] [(.int (5 : Int32)), (.int n)]))
                              by_cases hc202 : (5 : Int32) < n
                              · --
                                refine Go.st (fun t k => XS.icmpNo X17.here hx rfl (hb hby at_202) rfl (XT.ii_le_f hc202) k) ?_
                                show Go p.tables e below PP (T17.setTop (mkF m 205 #[.val (.int p1), .val (.long q2), .second, .val (.int n), .val (.int ch0), .val (.int ch1), .val (.int ch2), .val (.int ch3), .val (.int ch4), .val (.int ch5), .val (.int ch6), .val (.ref b8), .val (.ref b16), .unset, .unset, .unset] []))
                                refine Go.st (fun t k => XS.iload X17.here hx rfl (hb hby at_205) rfl k) ?_
                                show Go p.tables e below PP (T17.setTop (mkF m 207 #[.val (.int p1), .val (.long q2), .second, .val (.int n), .val (.int ch0), .val (.int ch1), .val (.int ch2), .val (.int ch3), .val (.int ch4), .val (.int ch5), .val (.int ch6), .val (.ref b8), .val (.ref b16), .unset, .unset, .unset] [(.int ch5)]))
                                refine Go.st (fun t k => XS.bipush X17.here hx rfl (hb hby at_207) k) ?_
                                show Go p.tables e below PP (T17.setTop (mkF m 209 #[.val (.int p1), .val (.long q2), .second, .val (.int n), .val (.int ch0), .val (.int ch1), .val (.int ch2), .val (.int ch3), .val (.int ch4), .val (.int ch5), .val (.int ch6), .val (.ref b8), .val (.ref b16), .unset, .unset, .unset] [(.int (64 : Int32)), (.int ch5)]))
                                by_cases hc209 : ch5 = (64 : Int32)
                                · --
                                  refine Go.st (fun t k => XS.icmpYes X17.here hx rfl (pc0 := 209) (pc' := 225) rfl (hb hby at_209) rfl (XT.ii_eq_t hc209) (by decide) (by decide) k) ?_
                                  show Go p.tables e below PP (T17.setTop (mkF m 225 #[.val (.int p1), .val (.long q2), .second, .val (.int n), .val (.int ch0), .val (.int ch1), .val (.int ch2), .val (.int ch3), .val (.int ch4), .val (.int ch5), .val (.int ch6), .val (.ref b8), .val (.ref b16), .unset, .unset, .unset] []))
                                  refine Go.st (fun t k => XS.iconst X17.here hx rfl (hb hby at_225) k) ?_
                                  show Go p.tables e below PP (T17.setTop (mkF m 226 #[.val (.int p1), .val (.long q2), .second, .val (.int n), .val (.int ch0), .val (.int ch1), .val (.int ch2), .val (.int ch3), .val (.int ch4), .val (.int ch5), .val (.int ch6), .val (.ref b8), .val (.ref b16), .unset, .unset, .unset] [(.int (1 : Int32))]))
                                  refine Go.st (fun t k => XS.goto X17.here hx rfl (pc0 := 226) (pc' := 230) rfl (hb hby at_226) (by decide) (by decide) k) ?_
                                  show Go p.tables e below PP (T17.setTop (mkF m 230 #[.val (.int p1), .val (.long q2), .second, .val (.int n), .val (.int ch0), .val (.int ch1), .val (.int ch2), .val (.int ch3), .val (.int ch4), .val (.int ch5), .val (.int ch6), .val (.ref b8), .val (.ref b16), .unset, .unset, .unset] [(.int (1 : Int32))]))
                                  exact J230 _ _ _ X17 e17 N17 (by simp [bi, hc154, hc161, hc166, hc173, hc178, hc190, hc197, hc202, hc209])
                                · --
                                  refine Go.st (fun t k => XS.icmpNo X17.here hx rfl (hb hby at_209) rfl (XT.ii_eq_f hc209) k) ?_
                                  show Go p.tables e below PP (T17.setTop (mkF m 212 #[.val (.int p1), .val (.long q2), .second, .val (.int n), .val (.int ch0), .val (.int ch1), .val (.int ch2), .val (.int ch3), .val (.int ch4), .val (.int ch5), .val (.int ch6), .val (.ref b8), .val (.ref b16), .unset, .unset, .unset] []))
                                  refine Go.st (fun t k => XS.iloadN X17.here hx rfl (hb hby at_212) rfl k) ?_
                                  show Go p.tables e below PP (T17.setTop (mkF m 213 #[.val (.int p1), .val (.long q2), .second, .val (.int n), .val (.int ch0), .val (.int ch1), .val (.int ch2), .val (.int ch3), .val (.int ch4), .val (.int ch5), .val (.int ch6), .val (.ref b8), .val (.ref b16), .unset, .unset, .unset] [(.int n)]))
                                  refine Go.st (fun t k => XS.bipush X17.here hx rfl (hb hby at_213) k) ?_
                                  show Go p.tables e below PP (T17.setTop (mkF m 215 #[.val (.int p1), .val (.long q2), .second, .val (.int n), .val (.int ch0), .val (.int ch1), .val (.int ch2), .val (.int ch3), .val (.int ch4), .val (.int ch5), .val (.int ch6), .val (.ref b8), .val (.ref b16), .unset, .unset, .unset] [(.int (6 : Int32)), (.int n)]))
                                  by_cases hc215 : (6 : Int32) < n
                                  · --
                                    refine Go.st (fun t k => XS.icmpNo X17.here hx rfl (hb hby at_215) rfl (XT.ii_le_f hc215) k) ?_
                                    show Go p.tables e below PP (T17.setTop (mkF m 218 #[.val (.int p1), .val (.long q2), .second, .val (.int n), .val (.int ch0), .val (.int ch1), .val (.int ch2), .val (.int ch3), .val (.int ch4), .val (.int ch5), .val (.int ch6), .val (.ref b8), .val (.ref b16), .unset, .unset, .unset] []))
                                    refine Go.st (fun t k => XS.iload X17.here hx rfl (hb hby at_218) rfl k) ?_
                                    show Go p.tables e below PP (T17.setTop (mkF m 220 #[.val (.int p1), .val (.long q2), .second, .val (.int n), .val (.int ch0), .val (.int ch1), .val (.int ch2), .val (.int ch3), .val (.int ch4), .val (.int ch5), .val (.int ch6), .val (.ref b8), .val (.ref b16), .unset, .unset, .unset] [(.int ch6)]))
                                    refine Go.st (fun t k => XS.bipush X17.here hx rfl (hb hby at_220) k) ?_
                                    show Go p.tables e below PP (T17.setTop (mkF m 222 #[.val (.int p1), .val (.long q2), .second, .val (.int n), .val (.int ch0), .val (.int ch1), .val (.int ch2), .val (.int ch3), .val (.int ch4), .val (.int ch5), .val (.int ch6), .val (.ref b8), .val (.ref b16), .unset, .unset, .unset] [(.int (64 : Int32)), (.int ch6)]))
                                    by_cases hc222 : ch6 = (64 : Int32)
                                    · --
                                      refine Go.st (fun t k => XS.icmpNo X17.here hx rfl (hb hby at_222) rfl (XT.ii_ne_f hc222) k) ?_
                                      show Go p.tables e below PP (T17.setTop (mkF m 225 #[.val (.int p1), .val (.long q2), .second, .val (.int n), .val (.int ch0), .val (.int ch1), .val (.int ch2), .val (.int ch3), .val (.int ch4), .val (.int ch5), .val (.int ch6), .val (.ref b8), .val (.ref b16), .unset, .unset, .unset] []))
                                      refine Go.st (fun t k => XS.iconst X17.here hx rfl (hb hby at_225) k) ?_
                                      show Go p.tables e below PP (T17.setTop (mkF m 226 #[.val (.int p1), .val (.long q2), .second, .val (.int n), .val (.int ch0), .val (.int ch1), .val (.int ch2), .val (.int ch3), .val (.int ch4), .val (.int ch5), .val (.int ch6), .val (.ref b8), .val (.ref b16), .unset, .unset, .unset] [(.int (1 : Int32))]))
                                      refine Go.st (fun t k => XS.goto X17.here hx rfl (pc0 := 226) (pc' := 230) rfl (hb hby at_226) (by decide) (by decide) k) ?_
                                      show Go p.tables e below PP (T17.setTop (mkF m 230 #[.val (.int p1), .val (.long q2), .second, .val (.int n), .val (.int ch0), .val (.int ch1), .val (.int ch2), .val (.int ch3), .val (.int ch4), .val (.int ch5), .val (.int ch6), .val (.ref b8), .val (.ref b16), .unset, .unset, .unset] [(.int (1 : Int32))]))
                                      exact J230 _ _ _ X17 e17 N17 (by simp [bi, hc154, hc161, hc166, hc173, hc178, hc190, hc197, hc202, hc209, hc215, hc222])
                                    · --
                                      refine Go.st (fun t k => XS.icmpYes X17.here hx rfl (pc0 := 222) (pc' := 229) rfl (hb hby at_222) rfl (XT.ii_ne_t hc222) (by decide) (by decide) k) ?_
                                      show Go p.tables e below PP (T17.setTop (mkF m 229 #[.val (.int p1), .val (.long q2), .second, .val (.int n), .val (.int ch0), .val (.int ch1), .val (.int ch2), .val (.int ch3), .val (.int ch4), .val (.int ch5), .val (.int ch6), .val (.ref b8), .val (.ref b16), .unset, .unset, .unset] []))
                                      refine Go.st (fun t k => XS.iconst X17.here hx rfl (hb hby at_229) k) ?_
                                      show Go p.tables e below PP (T17.setTop (mkF m 230 #[.val (.int p1), .val (.long q2), .second, .val (.int n), .val (.int ch0), .val (.int ch1), .val (.int ch2), .val (.int ch3), .val (.int ch4), .val (.int ch5), .val (.int ch6), .val (.ref b8), .val (.ref b16), .unset, .unset, .unset] [(.int (0 : Int32))]))
                                      exact J230 _ _ _ X17 e17 N17 (by simp [bi, hc154, hc161, hc166, hc173, hc178, hc190, hc197, hc202, hc209, hc215, hc222])
                                  · --
                                    refine Go.st (fun t k => XS.icmpYes X17.here hx rfl (pc0 := 215) (pc' := 229) rfl (hb hby at_215) rfl (XT.ii_le_t hc215) (by decide) (by decide) k) ?_
                                    show Go p.tables e below PP (T17.setTop (mkF m 229 #[.val (.int p1), .val (.long q2), .second, .val (.int n), .val (.int ch0), .val (.int ch1), .val (.int ch2), .val (.int ch3), .val (.int ch4), .val (.int ch5), .val (.int ch6), .val (.ref b8), .val (.ref b16), .unset, .unset, .unset] []))
                                    refine Go.st (fun t k => XS.iconst X17.here hx rfl (hb hby at_229) k) ?_
                                    show Go p.tables e below PP (T17.setTop (mkF m 230 #[.val (.int p1), .val (.long q2), .second, .val (.int n), .val (.int ch0), .val (.int ch1), .val (.int ch2), .val (.int ch3), .val (.int ch4), .val (.int ch5), .val (.int ch6), .val (.ref b8), .val (.ref b16), .unset, .unset, .unset] [(.int (0 : Int32))]))
                                    exact J230 _ _ _ X17 e17 N17 (by simp [bi, hc154, hc161, hc166, hc173, hc178, hc190, hc197, hc202, hc209, hc215])
                              · --
                                refine Go.st (fun t k => XS.icmpYes X17.here hx rfl (pc0 := 202) (pc' := 212) rfl (hb hby at_202) rfl (XT.ii_le_t hc202) (by decide) (by decide) k) ?_
                                show Go p.tables e below PP (T17.setTop (mkF m 212 #[.val (.int p1), .val (.long q2), .second, .val (.int n), .val (.int ch0), .val (.int ch1), .val (.int ch2), .val (.int ch3), .val (.int ch4), .val (.int ch5), .val (.int ch6), .val (.ref b8), .val (.ref b16), .unset, .unset, .unset] []))
                                refine Go.st (fun t k => XS.iloadN X17.here hx rfl (hb hby at_212) rfl k) ?_
                                show Go p.tables e below PP (T17.setTop (mkF m 213 #[.val (.int p1), .val (.long q2), .second, .val (.int n), .val (.int ch0), .val (.int ch1), .val (.int ch2), .val (.int ch3), .val (.int ch4), .val (.int ch5), .val (.int ch6), .val (.ref b8), .val (.ref b16), .unset, .unset, .unset] [(.int n)]))
                                refine Go.st (fun t k => XS.bipush X17.here hx rfl (hb hby at_213) k) ?_
                                show Go p.tables e below PP (T17.setTop (mkF m 215 #[.val (.int p1), .val (.long q2), .second, .val (.int n), .val (.int ch0), .val (.int ch1), .val (.int ch2), .val (.int ch3), .val (.int ch4), .val (.int ch5), .val (.int ch6), .val (.ref b8), .val (.ref b16), .unset, .unset, .unset] [(.int (6 : Int32)), (.int n)]))
                                by_cases hc215 : (6 : Int32) < n
                                · --
                                  refine Go.st (fun t k => XS.icmpNo X17.here hx rfl (hb hby at_215) rfl (XT.ii_le_f hc215) k) ?_
                                  show Go p.tables e below PP (T17.setTop (mkF m 218 #[.val (.int p1), .val (.long q2), .second, .val (.int n), .val (.int ch0), .val (.int ch1), .val (.int ch2), .val (.int ch3), .val (.int ch4), .val (.int ch5), .val (.int ch6), .val (.ref b8), .val (.ref b16), .unset, .unset, .unset] []))
                                  refine Go.st (fun t k => XS.iload X17.here hx rfl (hb hby at_218) rfl k) ?_
                                  show Go p.tables e below PP (T17.setTop (mkF m 220 #[.val (.int p1), .val (.long q2), .second, .val (.int n), .val (.int ch0), .val (.int ch1), .val (.int ch2), .val (.int ch3), .val (.int ch4), .val (.int ch5), .val (.int ch6), .val (.ref b8), .val (.ref b16), .unset, .unset, .unset] [(.int ch6)]))
                                  refine Go.st (fun t k => XS.bipush X17.here hx rfl (hb hby at_220) k) ?_
                                  show Go p.tables e below PP (T17.setTop (mkF m 222 #[.val (.int p1), .val (.long q2), .second, .val (.int n), .val (.int ch0), .val (.int ch1), .val (.int ch2), .val (.int ch3), .val (.int ch4), .val (.int ch5), .val (.int ch6), .val (.ref b8), .val (.ref b16), .unset, .unset, .unset] [(.int (64 : Int32)), (.int ch6)]))
                                  by_cases hc222 : ch6 = (64 : Int32)
                                  · --
                                    refine Go.st (fun t k => XS.icmpNo X17.here hx rfl (hb hby at_222) rfl (XT.ii_ne_f hc222) k) ?_
                                    show Go p.tables e below PP (T17.setTop (mkF m 225 #[.val (.int p1), .val (.long q2), .second, .val (.int n), .val (.int ch0), .val (.int ch1), .val (.int ch2), .val (.int ch3), .val (.int ch4), .val (.int ch5), .val (.int ch6), .val (.ref b8), .val (.ref b16), .unset, .unset, .unset] []))
                                    refine Go.st (fun t k => XS.iconst X17.here hx rfl (hb hby at_225) k) ?_
                                    show Go p.tables e below PP (T17.setTop (mkF m 226 #[.val (.int p1), .val (.long q2), .second, .val (.int n), .val (.int ch0), .val (.int ch1), .val (.int ch2), .val (.int ch3), .val (.int ch4), .val (.int ch5), .val (.int ch6), .val (.ref b8), .val (.ref b16), .unset, .unset, .unset] [(.int (1 : Int32))]))
                                    refine Go.st (fun t k => XS.goto X17.here hx rfl (pc0 := 226) (pc' := 230) rfl (hb hby at_226) (by decide) (by decide) k) ?_
                                    show Go p.tables e below PP (T17.setTop (mkF m 230 #[.val (.int p1), .val (.long q2), .second, .val (.int n), .val (.int ch0), .val (.int ch1), .val (.int ch2), .val (.int ch3), .val (.int ch4), .val (.int ch5), .val (.int ch6), .val (.ref b8), .val (.ref b16), .unset, .unset, .unset] [(.int (1 : Int32))]))
                                    exact J230 _ _ _ X17 e17 N17 (by simp [bi, hc154, hc161, hc166, hc173, hc178, hc190, hc197, hc202, hc215, hc222])
                                  · --
                                    refine Go.st (fun t k => XS.icmpYes X17.here hx rfl (pc0 := 222) (pc' := 229) rfl (hb hby at_222) rfl (XT.ii_ne_t hc222) (by decide) (by decide) k) ?_
                                    show Go p.tables e below PP (T17.setTop (mkF m 229 #[.val (.int p1), .val (.long q2), .second, .val (.int n), .val (.int ch0), .val (.int ch1), .val (.int ch2), .val (.int ch3), .val (.int ch4), .val (.int ch5), .val (.int ch6), .val (.ref b8), .val (.ref b16), .unset, .unset, .unset] []))
                                    refine Go.st (fun t k => XS.iconst X17.here hx rfl (hb hby at_229) k) ?_
                                    show Go p.tables e below PP (T17.setTop (mkF m 230 #[.val (.int p1), .val (.long q2), .second, .val (.int n), .val (.int ch0), .val (.int ch1), .val (.int ch2), .val (.int ch3), .val (.int ch4), .val (.int ch5), .val (.int ch6), .val (.ref b8), .val (.ref b16), .unset, .unset, .unset] [(.int (0 : Int32))]))
                                    exact J230 _ _ _ X17 e17 N17 (by simp [bi, hc154, hc161, hc166, hc173, hc178, hc190, hc197, hc202, hc215, hc222])
                                · --
                                  refine Go.st (fun t k => XS.icmpYes X17.here hx rfl (pc0 := 215) (pc' := 229) rfl (hb hby at_215) rfl (XT.ii_le_t hc215) (by decide) (by decide) k) ?_
                                  show Go p.tables e below PP (T17.setTop (mkF m 229 #[.val (.int p1), .val (.long q2), .second, .val (.int n), .val (.int ch0), .val (.int ch1), .val (.int ch2), .val (.int ch3), .val (.int ch4), .val (.int ch5), .val (.int ch6), .val (.ref b8), .val (.ref b16), .unset, .unset, .unset] []))
                                  refine Go.st (fun t k => XS.iconst X17.here hx rfl (hb hby at_229) k) ?_
                                  show Go p.tables e below PP (T17.setTop (mkF m 230 #[.val (.int p1), .val (.long q2), .second, .val (.int n), .val (.int ch0), .val (.int ch1), .val (.int ch2), .val (.int ch3), .val (.int ch4), .val (.int ch5), .val (.int ch6), .val (.ref b8), .val (.ref b16), .unset, .unset, .unset] [(.int (0 : Int32))]))
                                  exact J230 _ _ _ X17 e17 N17 (by simp [bi, hc154, hc161, hc166, hc173, hc178, hc190, hc197, hc202, hc215])
                          · --
                            refine Go.st (fun t k => XS.icmpYes X17.here hx rfl (pc0 := 190) (pc' := 200) rfl (hb hby at_190) rfl (XT.ii_le_t hc190) (by decide) (by decide) k) ?_
                            show Go p.tables e below PP (T17.setTop (mkF m 200 #[.val (.int p1), .val (.long q2), .second, .val (.int n), .val (.int ch0), .val (.int ch1), .val (.int ch2), .val (.int ch3), .val (.int ch4), .val (.int ch5), .val (.int ch6), .val (.ref b8), .val (.ref b16), .unset, .unset, .unset] []))
                            refine Go.st (fun t k => XS.iloadN X17.here hx rfl (hb hby at_200) rfl k) ?_
                            show Go p.tables e below PP (T17.setTop (mkF m 201 #[.val (.int p1), .val (.long q2), .second, .val (.int n), .val (.int ch0), .val (.int ch1), .val (.int ch2), .val (.int ch3), .val (.int ch4), .val (.int ch5), .val (.int ch6), .val (.ref b8), .val (.ref b16), .unset, .unset, .unset] [(.int n)]))
                            refine Go.st (fun t k => XS.iconst X17.here hx rfl (hb hby at_201) k) ?_
                            show Go p.tables e below PP (T17.setTop (mkF m 202 #[.val (.int p1), .val (.long q2), .second, .val (.int n), .val (.int ch0), .val (.int ch1), .val (.int ch2), .val (.int ch3), .val (.int ch4), .val (.int ch5), .val (.int ch6), .val (.ref b8), .val (.ref b16), .unset, .unset, .unset] [(.int (5 : Int32)), (.int n)]))
                            by_cases hc202 : (5 : Int32) < n
                            · --
                              refine Go.st (fun t k => XS.icmpNo X17.here hx rfl (hb hby at_202) rfl (XT.ii_le_f hc202) k) ?_
                              show Go p.tables e below PP (T17.setTop (mkF m 205 #[.val (.int p1), .val (.long q2), .second, .val (.int n), .val (.int ch0), .val (.int ch1), .val (.int ch2), .val (.int ch3), .val (.int ch4), .val (.int ch5), .val (.int ch6), .val (.ref b8), .val (.ref b16), .unset, .unset, .unset] []))
                              refine Go.st (fun t k => XS.iload X17.here hx rfl (hb hby at_205) rfl k) ?_
                              show Go p.tables e below PP (T17.setTop (mkF m 207 #[.val (.int p1), .val (.long q2), .second, .val (.int n), .val (.int ch0), .val (.int ch1), .val (.int ch2), .val (.int ch3), .val (.int ch4), .val (.int ch5), .val (.int ch6), .val (.ref b8), .val (.ref b16), .unset, .unset, .unset] [(.int ch5)]))
                              refine Go.st (fun t k => XS.bipush X17.here hx rfl (hb hby at_207) k) ?_
                              show Go p.tables e below PP (T17.setTop (mkF m 209 #[.val (.int p1), .val (.long q2), .second, .val (.int n), .val (.int ch0), .val (.int ch1), .val (.int ch2), .val (.int ch3), .val (.int ch4), .val (.int ch5), .val (.int ch6), .val (.ref b8), .val (.ref b16), .unset, .unset, .unset] [(.int (64 : Int32)), (.int ch5)]))
                              by_cases hc209 : ch5 = (64 : Int32)
                              · --
                                refine Go.st (fun t k => XS.icmpYes X17.here hx rfl (pc0 := 209) (pc' := 225) rfl (hb hby at_209) rfl (XT.ii_eq_t hc209) (by decide) (by decide) k) ?_
                                show Go p.tables e below PP (T17.setTop (mkF m 225 #[.val (.int p1), .val (.long q2), .second, .val (.int n), .val (.int ch0), .val (.int ch1), .val (.int ch2), .val (.int ch3), .val (.int ch4), .val (.int ch5), .val (.int ch6), .val (.ref b8), .val (.ref b16), .unset, .unset, .unset] []))
                                refine Go.st (fun t k => XS.iconst X17.here hx rfl (hb hby at_225) k) ?_
                                show Go p.tables e below PP (T17.setTop (mkF m 226 #[.val (.int p1), .val (.long q2), .second, .val (.int n), .val (.int ch0), .val (.int ch1), .val (.int ch2), .val (.int ch3), .val (.int ch4), .val (.int ch5), .val (.int ch6), .val (.ref b8), .val (.ref b16), .unset, .unset, .unset] [(.int (1 : Int32))]))
                                refine Go.st (fun t k => XS.goto X17.here hx rfl (pc0 := 226) (pc' := 230) rfl (hb hby at_226) (by decide) (by decide) k) ?_
                                show Go p.tables e below PP (T17.setTop (mkF m 230 #[.val (.int p1), .val (.long q2), .second, .val (.int n), .val (.int ch0), .val (.int ch1), .val (.int ch2), .val (.int ch3), .val (.int ch4), .val (.int ch5), .val (.int ch6), .val (.ref b8), .val (.ref b16), .unset, .unset, .unset] [(.int (1 : Int32))]))
                                exact J230 _ _ _ X17 e17 N17 (by simp [bi, hc154, hc161, hc166, hc173, hc178, hc190, hc202, hc209])
                              · --
                                refine Go.st (fun t k => XS.icmpNo X17.here hx rfl (hb hby at_209) rfl (XT.ii_eq_f hc209) k) ?_
                                show Go p.tables e below PP (T17.setTop (mkF m 212 #[.val (.int p1), .val (.long q2), .second, .val (.int n), .val (.int ch0), .val (.int ch1), .val (.int ch2), .val (.int ch3), .val (.int ch4), .val (.int ch5), .val (.int ch6), .val (.ref b8), .val (.ref b16), .unset, .unset, .unset] []))
                                refine Go.st (fun t k => XS.iloadN X17.here hx rfl (hb hby at_212) rfl k) ?_
                                show Go p.tables e below PP (T17.setTop (mkF m 213 #[.val (.int p1), .val (.long q2), .second, .val (.int n), .val (.int ch0), .val (.int ch1), .val (.int ch2), .val (.int ch3), .val (.int ch4), .val (.int ch5), .val (.int ch6), .val (.ref b8), .val (.ref b16), .unset, .unset, .unset] [(.int n)]))
                                refine Go.st (fun t k => XS.bipush X17.here hx rfl (hb hby at_213) k) ?_
                                show Go p.tables e below PP (T17.setTop (mkF m 215 #[.val (.int p1), .val (.long q2), .second, .val (.int n), .val (.int ch0), .val (.int ch1), .val (.int ch2), .val (.int ch3), .val (.int ch4), .val (.int ch5), .val (.int ch6), .val (.ref b8), .val (.ref b16), .unset, .unset, .unset] [(.int (6 : Int32)), (.int n)]))
                                by_cases hc215 : (6 : Int32) < n
                                · --
                                  refine Go.st (fun t k => XS.icmpNo X17.here hx rfl (hb hby at_215) rfl (XT.ii_le_f hc215) k) ?_
                                  show Go p.tables e below PP (T17.setTop (mkF m 218 #[.val (.int p1), .val (.long q2), .second, .val (.int n), .val (.int ch0), .val (.int ch1), .val (.int ch2), .val (.int ch3), .val (.int ch4), .val (.int ch5), .val (.int ch6), .val (.ref b8), .val (.ref b16), .unset, .unset, .unset] []))
                                  refine Go.st (fun t k => XS.iload X17.here hx rfl (hb hby at_218) rfl k) ?_
                                  show Go p.tables e below PP (T17.setTop (mkF m 220 #[.val (.int p1), .val (.long q2), .second, .val (.int n), .val (.int ch0), .val (.int ch1), .val (.int ch2), .val (.int ch3), .val (.int ch4), .val (.int ch5), .val (.int ch6), .val (.ref b8), .val (.ref b16), .unset, .unset, .unset] [(.int ch6)]))
                                  refine Go.st (fun t k => XS.bipush X17.here hx rfl (hb hby at_220) k) ?_
                                  show Go p.tables e below PP (T17.setTop (mkF m 222 #[.val (.int p1), .val (.long q2), .second, .val (.int n), .val (.int ch0), .val (.int ch1), .val (.int ch2), .val (.int ch3), .val (.int ch4), .val (.int ch5), .val (.int ch6), .val (.ref b8), .val (.ref b16), .unset, .unset, .unset] [(.int (64 : Int32)), (.int ch6)]))
                                  by_cases hc222 : ch6 = (64 : Int32)
                                  · --
                                    refine Go.st (fun t k => XS.icmpNo X17.here hx rfl (hb hby at_222) rfl (XT.ii_ne_f hc222) k) ?_
                                    show Go p.tables e below PP (T17.setTop (mkF m 225 #[.val (.int p1), .val (.long q2), .second, .val (.int n), .val (.int ch0), .val (.int ch1), .val (.int ch2), .val (.int ch3), .val (.int ch4), .val (.int ch5), .val (.int ch6), .val (.ref b8), .val (.ref b16), .unset, .unset, .unset] []))
                                    refine Go.st (fun t k => XS.iconst X17.here hx rfl (hb hby at_225) k) ?_
                                    show Go p.tables e below PP (T17.setTop (mkF m 226 #[.val (.int p1), .val (.long q2), .second, .val (.int n), .val (.int ch0), .val (.int ch1), .val (.int ch2), .val (.int ch3), .val (.int ch4), .val (.int ch5), .val (.int ch6), .val (.ref b8), .val (.ref b16), .unset, .unset, .unset] [(.int (1 : Int32))]))
                                    refine Go.st (fun t k => XS.goto X17.here hx rfl (pc0 := 226) (pc' := 230) rfl (hb hby at_226) (by decide) (by decide) k) ?_
                                    show Go p.tables e below PP (T17.setTop (mkF m 230 #[.val (.int p1), .val (.long q2), .second, .val (.int n), .val (.int ch0), .val (.int ch1), .val (.int ch2), .val (.int ch3), .val (.int ch4), .val (.int ch5), .val (.int ch6), .val (.ref b8), .val (.ref b16), .unset, .unset, .unset] [(.int (1 : Int32))]))
                                    exact J230 _ _ _ X17 e17 N17 (by simp [bi, hc154, hc161, hc166, hc173, hc178, hc190, hc202, hc209, hc215, hc222])
                                  · --
                                    refine Go.st (fun t k => XS.icmpYes X17.here hx rfl (pc0 := 222) (pc' := 229) rfl (hb hby at_222) rfl (XT.ii_ne_t hc222) (by decide) (by decide) k) ?_
                                    show Go p.tables e below PP (T17.setTop (mkF m 229 #[.val (.int p1), .val (.long q2), .second, .val (.int n), .val (.int ch0), .val (.int ch1), .val (.int ch2), .val (.int ch3), .val (.int ch4), .val (.int ch5), .val (.int ch6), .val (.ref b8), .val (.ref b16), .unset, .unset, .unset] []))
                                    refine Go.st (fun t k => XS.iconst X17.here hx rfl (hb hby at_229) k) ?_
                                    show Go p.tables e below PP (T17.setTop (mkF m 230 #[.val (.int p1), .val (.long q2), .second, .val (.int n), .val (.int ch0), .val (.int ch1), .val (.int ch2), .val (.int ch3), .val (.int ch4), .val (.int ch5), .val (.int ch6), .val (.ref b8), .val (.ref b16), .unset, .unset, .unset] [(.int (0 : Int32))]))
                                    exact J230 _ _ _ X17 e17 N17 (by simp [bi, hc154, hc161, hc166, hc173, hc178, hc190, hc202, hc209, hc215, hc222])
                                · --
                                  refine Go.st (fun t k => XS.icmpYes X17.here hx rfl (pc0 := 215) (pc' := 229) rfl (hb hby at_215) rfl (XT.ii_le_t hc215) (by decide) (by decide) k) ?_
                                  show Go p.tables e below PP (T17.setTop (mkF m 229 #[.val (.int p1), .val (.long q2), .second, .val (.int n), .val (.int ch0), .val (.int ch1), .val (.int ch2), .val (.int ch3), .val (.int ch4), .val (.int ch5), .val (.int ch6), .val (.ref b8), .val (.ref b16), .unset, .unset, .unset] []))
                                  refine Go.st (fun t k => XS.iconst X17.here hx rfl (hb hby at_229) k) ?_
                                  show Go p.tables e below PP (T17.setTop (mkF m 230 #[.val (.int p1), .val (.long q2), .second, .val (.int n), .val (.int ch0), .val (.int ch1), .val (.int ch2), .val (.int ch3), .val (.int ch4), .val (.int ch5), .val (.int ch6), .val (.ref b8), .val (.ref b16), .unset, .unset, .unset] [(.int (0 : Int32))]))
                                  exact J230 _ _ _ X17 e17 N17 (by simp [bi, hc154, hc161, hc166, hc173, hc178, hc190, hc202, hc209, hc215])
                            · --
                              refine Go.st (fun t k => XS.icmpYes X17.here hx rfl (pc0 := 202) (pc' := 212) rfl (hb hby at_202) rfl (XT.ii_le_t hc202) (by decide) (by decide) k) ?_
                              show Go p.tables e below PP (T17.setTop (mkF m 212 #[.val (.int p1), .val (.long q2), .second, .val (.int n), .val (.int ch0), .val (.int ch1), .val (.int ch2), .val (.int ch3), .val (.int ch4), .val (.int ch5), .val (.int ch6), .val (.ref b8), .val (.ref b16), .unset, .unset, .unset] []))
                              refine Go.st (fun t k => XS.iloadN X17.here hx rfl (hb hby at_212) rfl k) ?_
                              show Go p.tables e below PP (T17.setTop (mkF m 213 #[.val (.int p1), .val (.long q2), .second, .val (.int n), .val (.int ch0), .val (.int ch1), .val (.int ch2), .val (.int ch3), .val (.int ch4), .val (.int ch5), .val (.int ch6), .val (.ref b8), .val (.ref b16), .unset, .unset, .unset] [(.int n)]))
                              refine Go.st (fun t k => XS.bipush X17.here hx rfl (hb hby at_213) k) ?_
                              show Go p.tables e below PP (T17.setTop (mkF m 215 #[.val (.int p1), .val (.long q2), .second, .val (.int n), .val (.int ch0), .val (.int ch1), .val (.int ch2), .val (.int ch3), .val (.int ch4), .val (.int ch5), .val (.int ch6), .val (.ref b8), .val (.ref b16), .unset, .unset, .unset] [(.int (6 : Int32)), (.int n)]))
                              by_cases hc215 : (6 : Int32) < n
                              · --
                                refine Go.st (fun t k => XS.icmpNo X17.here hx rfl (hb hby at_215) rfl (XT.ii_le_f hc215) k) ?_
                                show Go p.tables e below PP (T17.setTop (mkF m 218 #[.val (.int p1), .val (.long q2), .second, .val (.int n), .val (.int ch0), .val (.int ch1), .val (.int ch2), .val (.int ch3), .val (.int ch4), .val (.int ch5), .val (.int ch6), .val (.ref b8), .val (.ref b16), .unset, .unset, .unset] []))
                                refine Go.st (fun t k => XS.iload X17.here hx rfl (hb hby at_218) rfl k) ?_
                                show Go p.tables e below PP (T17.setTop (mkF m 220 #[.val (.int p1), .val (.long q2), .second, .val (.int n), .val (.int ch0), .val (.int ch1), .val (.int ch2), .val (.int ch3), .val (.int ch4), .val (.int ch5), .val (.int ch6), .val (.ref b8), .val (.ref b16), .unset, .unset, .unset] [(.int ch6)]))
                                refine Go.st (fun t k => XS.bipush X17.here hx rfl (hb hby at_220) k) ?_
                                show Go p.tables e below PP (T17.setTop (mkF m 222 #[.val (.int p1), .val (.long q2), .second, .val (.int n), .val (.int ch0), .val (.int ch1), .val (.int ch2), .val (.int ch3), .val (.int ch4), .val (.int ch5), .val (.int ch6), .val (.ref b8), .val (.ref b16), .unset, .unset, .unset] [(.int (64 : Int32)), (.int ch6)]))
                                by_cases hc222 : ch6 = (64 : Int32)
                                · --
                                  refine Go.st (fun t k => XS.icmpNo X17.here hx rfl (hb hby at_222) rfl (XT.ii_ne_f hc222) k) ?_
                                  show Go p.tables e below PP (T17.setTop (mkF m 225 #[.val (.int p1), .val (.long q2), .second, .val (.int n), .val (.int ch0), .val (.int ch1), .val (.int ch2), .val (.int ch3), .val (.int ch4), .val (.int ch5), .val (.int ch6), .val (.ref b8), .val (.ref b16), .unset, .unset, .unset] []))
                                  refine Go.st (fun t k => XS.iconst X17.here hx rfl (hb hby at_225) k) ?_
                                  show Go p.tables e below PP (T17.setTop (mkF m 226 #[.val (.int p1), .val (.long q2), .second, .val (.int n), .val (.int ch0), .val (.int ch1), .val (.int ch2), .val (.int ch3), .val (.int ch4), .val (.int ch5), .val (.int ch6), .val (.ref b8), .val (.ref b16), .unset, .unset, .unset] [(.int (1 : Int32))]))
                                  refine Go.st (fun t k => XS.goto X17.here hx rfl (pc0 := 226) (pc' := 230) rfl (hb hby at_226) (by decide) (by decide) k) ?_
                                  show Go p.tables e below PP (T17.setTop (mkF m 230 #[.val (.int p1), .val (.long q2), .second, .val (.int n), .val (.int ch0), .val (.int ch1), .val (.int ch2), .val (.int ch3), .val (.int ch4), .val (.int ch5), .val (.int ch6), .val (.ref b8), .val (.ref b16), .unset, .unset, .unset] [(.int (1 : Int32))]))
                                  exact J230 _ _ _ X17 e17 N17 (by simp [bi, hc154, hc161, hc166, hc173, hc178, hc190, hc202, hc215, hc222])
                                · --
                                  refine Go.st (fun t k => XS.icmpYes X17.here hx rfl (pc0 := 222) (pc' := 229) rfl (hb hby at_222) rfl (XT.ii_ne_t hc222) (by decide) (by decide) k) ?_
                                  show Go p.tables e below PP (T17.setTop (mkF m 229 #[.val (.int p1), .val (.long q2), .second, .val (.int n), .val (.int ch0), .val (.int ch1), .val (.int ch2), .val (.int ch3), .val (.int ch4), .val (.int ch5), .val (.int ch6), .val (.ref b8), .val (.ref b16), .unset, .unset, .unset] []))
                                  refine Go.st (fun t k => XS.iconst X17.here hx rfl (hb hby at_229) k) ?_
                                  show Go p.tables e below PP (T17.setTop (mkF m 230 #[.val (.int p1), .val (.long q2), .second, .val (.int n), .val (.int ch0), .val (.int ch1), .val (.int ch2), .val (.int ch3), .val (.int ch4), .val (.int ch5), .val (.int ch6), .val (.ref b8), .val (.ref b16), .unset, .unset, .unset] [(.int (0 : Int32))]))
                                  exact J230 _ _ _ X17 e17 N17 (by simp [bi, hc154, hc161, hc166, hc173, hc178, hc190, hc202, hc215, hc222])
                              · --
                                refine Go.st (fun t k => XS.icmpYes X17.here hx rfl (pc0 := 215) (pc' := 229) rfl (hb hby at_215) rfl (XT.ii_le_t hc215) (by decide) (by decide) k) ?_
                                show Go p.tables e below PP (T17.setTop (mkF m 229 #[.val (.int p1), .val (.long q2), .second, .val (.int n), .val (.int ch0), .val (.int ch1), .val (.int ch2), .val (.int ch3), .val (.int ch4), .val (.int ch5), .val (.int ch6), .val (.ref b8), .val (.ref b16), .unset, .unset, .unset] []))
                                refine Go.st (fun t k => XS.iconst X17.here hx rfl (hb hby at_229) k) ?_
                                show Go p.tables e below PP (T17.setTop (mkF m 230 #[.val (.int p1), .val (.long q2), .second, .val (.int n), .val (.int ch0), .val (.int ch1), .val (.int ch2), .val (.int ch3), .val (.int ch4), .val (.int ch5), .val (.int ch6), .val (.ref b8), .val (.ref b16), .unset, .unset, .unset] [(.int (0 : Int32))]))
                                exact J230 _ _ _ X17 e17 N17 (by simp [bi, hc154, hc161, hc166, hc173, hc178, hc190, hc202, hc215])
                    · --
                      refine Go.st (fun t k => XS.icmpYes X17.here hx rfl (pc0 := 166) (pc' := 176) rfl (hb hby at_166) rfl (XT.ii_le_t hc166) (by decide) (by decide) k) ?_
                      show Go p.tables e below PP (T17.setTop (mkF m 176 #[.val (.int p1), .val (.long q2), .second, .val (.int n), .val (.int ch0), .val (.int ch1), .val (.int ch2), .val (.int ch3), .val (.int ch4), .val (.int ch5), .val (.int ch6), .val (.ref b8), .val (.ref b16), .unset, .unset, .unset] []))
                      refine Go.st (fun t k => XS.iloadN X17.here hx rfl (hb hby at_176) rfl k) ?_
                      show Go p.tables e below PP (T17.setTop (mkF m 177 #[.val (.int p1), .val (.long q2), .second, .val (.int n), .val (.int ch0), .val (.int ch1), .val (.int ch2), .val (.int ch3), .val (.int ch4), .val (.int ch5), .val (.int ch6), .val (.ref b8), .val (.ref b16), .unset, .unset, .unset] [(.int n)]))
                      refine Go.st (fun t k => XS.iconst X17.here hx rfl (hb hby at_177) k) ?_
                      show Go p.tables e below PP (T17.setTop (mkF m 178 #[.val (.int p1), .val (.long q2), .second, .val (.int n), .val (.int ch0), .val (.int ch1), .val (.int ch2), .val (.int ch3), .val (.int ch4), .val (.int ch5), .val (.int ch6), .val (.ref b8), .val (.ref b16), .unset, .unset, .unset] [(.int (3 : Int32)), (.int n)]))
                      by_cases hc178 : (3 : Int32) < n
                      · --
                        refine Go.st (fun t k => XS.icmpNo X17.here hx rfl (hb hby at_178) rfl (XT.ii_le_f hc178) k) ?_
                        show Go p.tables e below PP (T17.setTop (mkF m 181 #[.val (.int p1), .val (.long q2), .second, .val (.int n), .val (.int ch0), .val (.int ch1), .val (.int ch2), .val (.int ch3), .val (.int ch4), .val (.int ch5), .val (.int ch6), .val (.ref b8), .val (.ref b16), .unset, .unset, .unset] []))
                        refine Go.st (fun t k => XS.iload X17.here hx rfl (hb hby at_181) rfl k) ?_
                        show Go p.tables e below PP (T17.setTop (mkF m 183 #[.val (.int p1), .val (.long q2), .second, .val (.int n), .val (.int ch0), .val (.int ch1), .val (.int ch2), .val (.int ch3), .val (.int ch4), .val (.int ch5), .val (.int ch6), .val (.ref b8), .val (.ref b16), .unset, .unset, .unset] [(.int ch3)]))
                        refine Go.st (fun t k => XS.bipush X17.here hx rfl (hb hby at_183) k) ?_
                        show Go p.tables e below PP (T17.setTop (mkF m 185 #[.val (.int p1), .val (.long q2), .second, .val (.int n), .val (.int ch0), .val (.int ch1), .val (.int ch2), .val (.int ch3), .val (.int ch4), .val (.int ch5), .val (.int ch6), .val (.ref b8), .val (.ref b16), .unset, .unset, .unset] [(.int (64 : Int32)), (.int ch3)]))
                        by_cases hc185 : ch3 = (64 : Int32)
                        · --
                          refine Go.st (fun t k => XS.icmpYes X17.here hx rfl (pc0 := 185) (pc' := 225) rfl (hb hby at_185) rfl (XT.ii_eq_t hc185) (by decide) (by decide) k) ?_
                          show Go p.tables e below PP (T17.setTop (mkF m 225 #[.val (.int p1), .val (.long q2), .second, .val (.int n), .val (.int ch0), .val (.int ch1), .val (.int ch2), .val (.int ch3), .val (.int ch4), .val (.int ch5), .val (.int ch6), .val (.ref b8), .val (.ref b16), .unset, .unset, .unset] []))
                          refine Go.st (fun t k => XS.iconst X17.here hx rfl (hb hby at_225) k) ?_
                          show Go p.tables e below PP (T17.setTop (mkF m 226 #[.val (.int p1), .val (.long q2), .second, .val (.int n), .val (.int ch0), .val (.int ch1), .val (.int ch2), .val (.int ch3), .val (.int ch4), .val (.int ch5), .val (.int ch6), .val (.ref b8), .val (.ref b16), .unset, .unset, .unset] [(.int (1 : Int32))]))
                          refine Go.st (fun t k => XS.goto X17.here hx rfl (pc0 := 226) (pc' := 230) rfl (hb hby at_226) (by decide) (by decide) k) ?_
                          show Go p.tables e below PP (T17.setTop (mkF m 230 #[.val (.int p1), .val (.long q2), .second, .val (.int n), .val (.int ch0), .val (.int ch1), .val (.int ch2), .val (.int ch3), .val (.int ch4), .val (.int ch5), .val (.int ch6), .val (.ref b8), .val (.ref b16), .unset, .unset, .unset] [(.int (1 : Int32))]))
                          exact J230 _ _ _ X17 e17 N17 (by simp [bi, hc154, hc161, hc166, hc178, hc185])
                        · --
                          refine Go.st (fun t k => XS.icmpNo X17.here hx rfl (hb hby at_185) rfl (XT.ii_eq_f hc185) k) ?_
                          show Go p.tables e below PP (T17.setTop (mkF m 188 #[.val (.int p1), .val (.long q2), .second, .val (.int n), .val (.int ch0), .val (.int ch1), .val (.int ch2), .val (.int ch3), .val (.int ch4), .val (.int ch5), .val (.int ch6), .val (.ref b8), .val (.ref b16), .unset, .unset, .unset] []))
                          refine Go.st (fun t k => XS.iloadN X17.here hx rfl (hb hby at_188) rfl k) ?_
                          show Go p.tables e below PP (T17.setTop (mkF m 189 #[.val (.int p1), .val (.long q2), .second, .val (.int n), .val (.int ch0), .val (.int ch1), .val (.int ch2), .val (.int ch3), .val (.int ch4), .val (.int ch5), .val (.int ch6), .val (.ref b8), .val (.ref b16), .unset, .unset, .unset] [(.int n)]))
                          refine Go.st (fun t k => XS.iconst X17.here hx rfl (hb hby at_189) k) ?_
                          show Go p.tables e below PP (T17.setTop (mkF m 190 #[.val (.int p1), .val (.long q2), .second, .val (.int n), .val (.int ch0), .val (.int ch1), .val (.int ch2), .val (.int ch3), .val (.int ch4), .val (.int ch5), .val (.int ch6), .val (.ref b8), .val (.ref b16), .unset, .unset, .unset] [(.int (4 : Int32)), (.int n)]))
                          by_cases hc190 : (4 : Int32) < n
                          · --
                            refine Go.st (fun t k => XS.icmpNo X17.here hx rfl (hb hby at_190) rfl (XT.ii_le_f hc190) k) ?_
                            show Go p.tables e below PP (T17.setTop (mkF m 193 #[.val (.int p1), .val (.long q2), .second, .val (.int n), .val (.int ch0), .val (.int ch1), .val (.int ch2), .val (.int ch3), .val (.int ch4), .val (.int ch5), .val (.int ch6), .val (.ref b8), .val (.ref b16), .unset, .unset, .unset] []))
                            refine Go.st (fun t k => XS.iload X17.here hx rfl (hb hby at_193) rfl k) ?_
                            show Go p.tables e below PP (T17.setTop (mkF m 195 #[.val (.int p1), .val (.long q2), .second, .val (.int n), .val (.int ch0), .val (.int ch1), .val (.int ch2), .val (.int ch3), .val (.int ch4), .val (.int ch5), .val (.int ch6), .val (.ref b8), .val (.ref b16), .unset, .unset, .unset] [(.int ch4)]))
                            refine Go.st (fun t k => XS.bipush X17.here hx rfl (hb hby at_195) k) ?_
                            show Go p.tables e below PP (T17.setTop (mkF m 197 #[.val (.int p1), .val (.long q2), .second, .val (.int n), .val (.int ch0), .val (.int ch1), .val (.int ch2), .val (.int ch3), .val (.int ch4), .val (.int ch5), .val (.int ch6), .val (.ref b8), .val (.ref b16), .unset, .unset, .unset] [(.int (64 : Int32)), (.int ch4)]))
                            by_cases hc197 : ch4 = (64 : Int32)
                            · --
                              refine Go.st (fun t k => XS.icmpYes X17.here hx rfl (pc0 := 197) (pc' := 225) rfl (hb hby at_197) rfl (XT.ii_eq_t hc197) (by decide) (by decide) k) ?_
                              show Go p.tables e below PP (T17.setTop (mkF m 225 #[.val (.int p1), .val (.long q2), .second, .val (.int n), .val (.int ch0), .val (.int ch1), .val (.int ch2), .val (.int ch3), .val (.int ch4), .val (.int ch5), .val (.int ch6), .val (.ref b8), .val (.ref b16), .unset, .unset, .unset] []))
                              refine Go.st (fun t k => XS.iconst X17.here hx rfl (hb hby at_225) k) ?_
                              show Go p.tables e below PP (T17.setTop (mkF m 226 #[.val (.int p1), .val (.long q2), .second, .val (.int n), .val (.int ch0), .val (.int ch1), .val (.int ch2), .val (.int ch3), .val (.int ch4), .val (.int ch5), .val (.int ch6), .val (.ref b8), .val (.ref b16), .unset, .unset, .unset] [(.int (1 : Int32))]))
                              refine Go.st (fun t k => XS.goto X17.here hx rfl (pc0 := 226) (pc' := 230) rfl (hb hby at_226) (by decide) (by decide) k) ?_
                              show Go p.tables e below PP (T17.setTop (mkF m 230 #[.val (.int p1), .val (.long q2), .second, .val (.int n), .val (.int ch0), .val (.int ch1), .val (.int ch2), .val (.int ch3), .val (.int ch4), .val (.int ch5), .val (.int ch6), .val (.ref b8), .val (.ref b16), .unset, .unset, .unset] [(.int (1 : Int32))]))
                              exact J230 _ _ _ X17 e17 N17 (by simp [bi, hc154, hc161, hc166, hc178, hc185, hc190, hc197])
                            · --
                              refine Go.st (fun t k => XS.icmpNo X17.here hx rfl (hb hby at_197) rfl (XT.ii_eq_f hc197) k) ?_
                              show Go p.tables e below PP (T17.setTop (mkF m 200 #[.val (.int p1), .val (.long q2), .second, .val (.int n), .val (.int ch0), .val (.int ch1), .val (.int ch2), .val (.int ch3), .val (.int ch4), .val (.int ch5), .val (.int ch6), .val (.ref b8), .val (.ref b16), .unset, .unset, .unset] []))
                              refine Go.st (fun t k => XS.iloadN X17.here hx rfl (hb hby at_200) rfl k) ?_
                              show Go p.tables e below PP (T17.setTop (mkF m 201 #[.val (.int p1), .val (.long q2), .second, .val (.int n), .val (.int ch0), .val (.int ch1), .val (.int ch2), .val (.int ch3), .val (.int ch4), .val (.int ch5), .val (.int ch6), .val (.ref b8), .val (.ref b16), .unset, .unset, .unset] [(.int n)]))
                              refine Go.st (fun t k => XS.iconst X17.here hx rfl (hb hby at_201) k) ?_
                              show Go p.tables e below PP (T17.setTop (mkF m 202 #[.val (.int p1), .val (.long q2), .second, .val (.int n), .val (.int ch0), .val (.int ch1), .val (.int ch2), .val (.int ch3), .val (.int ch4), .val (.int ch5), .val (.int ch6), .val (.ref b8), .val (.ref b16), .unset, .unset, .unset] [(.int (5 : Int32)), (.int n)]))
                              by_cases hc202 : (5 : Int32) < n
                              · --
                                refine Go.st (fun t k => XS.icmpNo X17.here hx rfl (hb hby at_202) rfl (XT.ii_le_f hc202) k) ?_
                                show Go p.tables e below PP (T17.setTop (mkF m 205 #[.val (.int p1), .val (.long q2), .second, .val (.int n), .val (.int ch0), .val (.int ch1), .val (.int ch2), .val (.int ch3), .val (.int ch4), .val (.int ch5), .val (.int ch6), .val (.ref b8), .val (.ref b16), .unset, .unset, .unset] []))
                                refine Go.st (fun t k => XS.iload X17.here hx rfl (hb hby at_205) rfl k) ?_
                                show Go p.tables e below PP (T17.setTop (mkF m 207 #[.val (.int p1), .val (.long q2), .second, .val (.int n), .val (.int ch0), .val (.int ch1), .val (.int ch2), .val (.int ch3), .val (.int ch4), .val (.int ch5), .val (.int ch6), .val (.ref b8), .val (.ref b16), .unset, .unset, .unset] [(.int ch5)]))
                                refine Go.st (fun t k => XS.bipush X17.here hx rfl (hb hby at_207) k) ?_
                                show Go p.tables e below PP (T17.setTop (mkF m 209 #[.val (.int p1), .val (.long q2), .second, .val (.int n), .val (.int ch0), .val (.int ch1), .val (.int ch2), .val (.int ch3), .val (.int ch4), .val (.int ch5), .val (.int ch6), .val (.ref b8), .val (.ref b16), .unset, .unset, .unset] [(.int (64 : Int32)), (.int ch5)]))
                                by_cases hc209 : ch5 = (64 : Int32)
                                · --
                                  refine Go.st (fun t k => XS.icmpYes X17.here hx rfl (pc0 := 209) (pc' := 225) rfl (hb hby at_209) rfl (XT.ii_eq_t hc209) (by decide) (by decide) k) ?_
                                  show Go p.tables e below PP (T17.setTop (mkF m 225 #[.val (.int p1), .val (.long q2), .second, .val (.int n), .val (.int ch0), .val (.int ch1), .val (.int ch2), .val (.int ch3), .val (.int ch4), .val (.int ch5), .val (.int ch6), .val (.ref b8), .val (.ref b16), .unset, .unset, .unset] []))
                                  refine Go.st (fun t k => XS.iconst X17.here hx rfl (hb hby at_225) k) ?_
                                  show Go p.tables e below PP (T17.setTop (mkF m 226 #[.val (.int p1), .val (.long q2), .second, .val (.int n), .val (.int ch0), .val (.int ch1), .val (.int ch2), .val (.int ch3), .val (.int ch4), .val (.int ch5), .val (.int ch6), .val (.ref b8), .val (.ref b16), .unset, .unset, .unset] [(.int (1 : Int32))]))
                                  refine Go.st (fun t k => XS.goto X17.here hx rfl (pc0 := 226) (pc' := 230) rfl (hb hby at_226) (by decide) (by decide) k) ?_
                                  show Go p.tables e below PP (T17.setTop (mkF m 230 #[.val (.int p1), .val (.long q2), .second, .val (.int n), .val (.int ch0), .val (.int ch1), .val (.int ch2), .val (.int ch3), .val (.int ch4), .val (.int ch5), .val (.int ch6), .val (.ref b8), .val (.ref b16), .unset, .unset, .unset] [(.int (1 : Int32))]))
                                  exact J230 _ _ _ X17 e17 N17 (by simp [bi, hc154, hc161, hc166, hc178, hc185, hc190, hc197, hc202, hc209])
                                · --
                                  refine Go.st (fun t k => XS.icmpNo X17.here hx rfl (hb hby at_209) rfl (XT.ii_eq_f hc209) k) ?_
                                  show Go p.tables e below PP (T17.setTop (mkF m 212 #[.val (.int p1), .val (.long q2), .second, .val (.int n), .val (.int ch0), .val (.int ch1), .val (.int ch2), .val (.int ch3), .val (.int ch4), .val (.int ch5), .val (.int ch6), .val (.ref b8), .val (.ref b16), .unset, .unset, .unset] []))
                                  refine Go.st (fun t k => XS.iloadN X17.here hx rfl (hb hby at_212) rfl k) ?_
                                  show Go p.tables e below PP (T17.setTop (mkF m 213 #[.val (.int p1), .val (.long q2), .second, .val (.int n), .val (.int ch0), .val (.int ch1), .val (.int ch2), .val (.int ch3), .val (.int ch4), .val (.int ch5), .val (.int ch6), .val (.ref b8), .val (.ref b16), .unset, .unset, .unset] [(.int n)]))
                                  refine Go.st (fun t k => XS.bipush X17.here hx rfl (hb hby at_213) k) ?_
                                  show Go p.tables e below PP (T17.setTop (mkF m 215 #[.val (.int p1), .val (.long q2), .second, .val (.int n), .val (.int ch0), .val (.int ch1), .val (.int ch2), .val (.int ch3), .val (.int ch4), .val (.int ch5), .val (.int ch6), .val (.ref b8), .val (.ref b16), .unset, .unset, .unset] [(.int (6 : Int32)), (.int n)]))
                                  by_cases hc215 : (6 : Int32) < n
                                  · --
                                    refine Go.st (fun t k => XS.icmpNo X17.here hx rfl (hb hby at_215) rfl (XT.ii_le_f hc215) k) ?_
                                    show Go p.tables e below PP (T17.setTop (mkF m 218 #[.val (.int p1), .val (.long q2), .second, .val (.int n), .val (.int ch0), .val (.int ch1), .val (.int ch2), .val (.int ch3), .val (.int ch4), .val (.int ch5), .val (.int ch6), .val (.ref b8), .val (.ref b16), .unset, .unset, .unset] []))
                                    refine Go.st (fun t k => XS.iload X17.here hx rfl (hb hby at_218) rfl k) ?_
                                    show Go p.tables e below PP (T17.setTop (mkF m 220 #[.val (.int p1), .val (.long q2), .second, .val (.int n), .val (.int ch0), .val (.int ch1), .val (.int ch2), .val (.int ch3), .val (.int ch4), .val (.int ch5), .val (.int ch6), .val (.ref b8), .val (.ref b16), .unset, .unset, .unset] [(.int ch6)]))
                                    refine Go.st (fun t k => XS.bipush X17.here hx rfl (hb hby at_220) k) ?_
                                    show Go p.tables e below PP (T17.setTop (mkF m 222 #[.val (.int p1), .val (.long q2), .second, .val (.int n), .val (.int ch0), .val (.int ch1), .val (.int ch2), .val (.int ch3), .val (.int ch4), .val (.int ch5), .val (.int ch6), .val (.ref b8), .val (.ref b16), .unset, .unset, .unset] [(.int (64 : Int32)), (.int ch6)]))
                                    by_cases hc222 : ch6 = (64 : Int32)
                                    · --
                                      refine Go.st (fun t k => XS.icmpNo X17.here hx rfl (hb hby at_222) rfl (XT.ii_ne_f hc222) k) ?_
                                      show Go p.tables e below PP (T17.setTop (mkF m 225 #[.val (.int p1), .val (.long q2), .second, .val (.int n), .val (.int ch0), .val (.int ch1), .val (.int ch2), .val (.int ch3), .val (.int ch4), .val (.int ch5), .val (.int ch6), .val (.ref b8), .val (.ref b16), .unset, .unset, .unset] []))
                                      refine Go.st (fun t k => XS.iconst X17.here hx rfl (hb hby at_225) k) ?_
                                      show Go p.tables e below PP (T17.setTop (mkF m 226 #[.val (.int p1), .val (.long q2), .second, .val (.int n), .val (.int ch0), .val (.int ch1), .val (.int ch2), .val (.int ch3), .val (.int ch4), .val (.int ch5), .val (.int ch6), .val (.ref b8), .val (.ref b16), .unset, .unset, .unset] [(.int (1 : Int32))]))
                                      refine Go.st (fun t k => XS.goto X17.here hx rfl (pc0 := 226) (pc' := 230) rfl (hb hby at_226) (by decide) (by decide) k) ?_
                                      show Go p.tables e below PP (T17.setTop (mkF m 230 #[.val (.int p1), .val (.long q2), .second, .val (.int n), .val (.int ch0), .val (.int ch1), .val (.int ch2), .val (.int ch3), .val (.int ch4), .val (.int ch5), .val (.int ch6), .val (.ref b8), .val (.ref b16), .unset, .unset, .unset] [(.int (1 : Int32))]))
                                      exact J230 _ _ _ X17 e17 N17 (by simp [bi, hc154, hc161, hc166, hc178, hc185, hc190, hc197, hc202, hc209, hc215, hc222])
                                    · --
                                      refine Go.st (fun t k => XS.icmpYes X17.here hx rfl (pc0 := 222) (pc' := 229) rfl (hb hby at_222) rfl (XT.ii_ne_t hc222) (by decide) (by decide) k) ?_
                                      show Go p.tables e below PP (T17.setTop (mkF m 229 #[.val (.int p1), .val (.long q2), .second, .val (.int n), .val (.int ch0), .val (.int ch1), .val (.int ch2), .val (.int ch3), .val (.int ch4), .val (.int ch5), .val (.int ch6), .val (.ref b8), .val (.ref b16), .unset, .unset, .unset] []))
                                      refine Go.st (fun t k => XS.iconst X17.here hx rfl (hb hby at_229) k) ?_
                                      show Go p.tables e below PP (T17.setTop (mkF m 230 #[.val (.int p1), .val (.long q2), .second, .val (.int n), .val (.int ch0), .val (.int ch1), .val (.int ch2), .val (.int ch3), .val (.int ch4), .val (.int ch5), .val (.int ch6), .val (.ref b8), .val (.ref b16), .unset, .unset, .unset] [(.int (0 : Int32))]))
                                      exact J230 _ _ _ X17 e17 N17 (by simp [bi, hc154, hc161, hc166, hc178, hc185, hc190, hc197, hc202, hc209, hc215, hc222])
                                  · --
                                    refine Go.st (fun t k => XS.icmpYes X17.here hx rfl (pc0 := 215) (pc' := 229) rfl (hb hby at_215) rfl (XT.ii_le_t hc215) (by decide) (by decide) k) ?_
                                    show Go p.tables e below PP (T17.setTop (mkF m 229 #[.val (.int p1), .val (.long q2), .second, .val (.int n), .val (.int ch0), .val (.int ch1), .val (.int ch2), .val (.int ch3), .val (.int ch4), .val (.int ch5), .val (.int ch6), .val (.ref b8), .val (.ref b16), .unset, .unset, .unset] []))
                                    refine Go.st (fun t k => XS.iconst X17.here hx rfl (hb hby at_229) k) ?_
                                    show Go p.tables e below PP (T17.setTop (mkF m 230 #[.val (.int p1), .val (.long q2), .second, .val (.int n), .val (.int ch0), .val (.int ch1), .val (.int ch2), .val (.int ch3), .val (.int ch4), .val (.int ch5), .val (.int ch6), .val (.ref b8), .val (.ref b16), .unset, .unset, .unset] [(.int (0 : Int32))]))
                                    exact J230 _ _ _ X17 e17 N17 (by simp [bi, hc154, hc161, hc166, hc178, hc185, hc190, hc197, hc202, hc209, hc215])
                              · --
                                refine Go.st (fun t k => XS.icmpYes X17.here hx rfl (pc0 := 202) (pc' := 212) rfl (hb hby at_202) rfl (XT.ii_le_t hc202) (by decide) (by decide) k) ?_
                                show Go p.tables e below PP (T17.setTop (mkF m 212 #[.val (.int p1), .val (.long q2), .second, .val (.int n), .val (.int ch0), .val (.int ch1), .val (.int ch2), .val (.int ch3), .val (.int ch4), .val (.int ch5), .val (.int ch6), .val (.ref b8), .val (.ref b16), .unset, .unset, .unset] []))
                                refine Go.st (fun t k => XS.iloadN X17.here hx rfl (hb hby at_212) rfl k) ?_
                                show Go p.tables e below PP (T17.setTop (mkF m 213 #[.val (.int p1), .val (.long q2), .second, .val (.int n), .val (.int ch0), .val (.int ch1), .val (.int ch2), .val (.int ch3), .val (.int ch4), .val (.int ch5), .val (.int ch6), .val (.ref b8), .val (.ref b16), .unset, .unset, .unset] [(.int n)]))
                                refine Go.st (fun t k => XS.bipush X17.here hx rfl (hb hby at_213) k) ?_
                                show Go p.tables e below PP (T17.setTop (mkF m 215 #[.val (.int p1), .val (.long q2), .second, .val (.int n), .val (.int ch0), .val (.int ch1), .val (.int ch2), .val (.int ch3), .val (.int ch4), .val (.int ch5), .val (.int ch6), .val (.ref b8), .val (.ref b16), .unset, .unset, .unset] [(.int (6 : Int32)), (.int n)]))
                                by_cases hc215 : (6 : Int32) < n
                                · --
                                  refine Go.st (fun t k => XS.icmpNo X17.here hx rfl (hb hby at_215) rfl (XT.ii_le_f hc215) k) ?_
                                  show Go p.tables e below PP (T17.setTop (mkF m 218 #[.val (.int p1), .val (.long q2), .second, .val (.int n), .val (.int ch0), .val (.int ch1), .val (.int ch2), .val (.int ch3), .val (.int ch4), .val (.int ch5), .val (.int ch6), .val (.ref b8), .val (.ref b16), .unset, .unset, .unset] []))
                                  refine Go.st (fun t k => XS.iload X17.here hx rfl (hb hby at_218) rfl k) ?_
                                  show Go p.tables e below PP (T17.setTop (mkF m 220 #[.val (.int p1), .val (.long q2), .second, .val (.int n), .val (.int ch0), .val (.int ch1), .val (.int ch2), .val (.int ch3), .val (.int ch4), .val (.int ch5), .val (.int ch6), .val (.ref b8), .val (.ref b16), .unset, .unset, .unset] [(.int ch6)]))
                                  refine Go.st (fun t k => XS.bipush X17.here hx rfl (hb hby at_220) k) ?_
                                  show Go p.tables e below PP (T17.setTop (mkF m 222 #[.val (.int p1), .val (.long q2), .second, .val (.int n), .val (.int ch0), .val (.int ch1), .val (.int ch2), .val (.int ch3), .val (.int ch4), .val (.int ch5), .val (.int ch6), .val (.ref b8), .val (.ref b16), .unset, .unset, .unset] [(.int (64 : Int32)), (.int ch6)]))
                                  by_cases hc222 : ch6 = (64 : Int32)
                                  · --
                                    refine Go.st (fun t k => XS.icmpNo X17.here hx rfl (hb hby at_222) rfl (XT.ii_ne_f hc222) k) ?_
                                    show Go p.tables e below PP (T17.setTop (mkF m 225 #[.val (.int p1), .val (.long q2), .second, .val (.int n), .val (.int ch0), .val (.int ch1), .val (.int ch2), .val (.int ch3), .val (.int ch4), .val (.int ch5), .val (.int ch6), .val (.ref b8), .val (.ref b16), .unset, .unset, .unset] []))
                                    refine Go.st (fun t k => XS.iconst X17.here hx rfl (hb hby at_225) k) ?_
                                    show Go p.tables e below PP (T17.setTop (mkF m 226 #[.val (.int p1), .val (.long q2), .second, .val (.int n), .val (.int ch0), .val (.int ch1), .val (.int ch2), .val (.int ch3), .val (.int ch4), .val (.int ch5), .val (.int ch6), .val (.ref b8), .val (.ref b16), .unset, .unset, .unset] [(.int (1 : Int32))]))
                                    refine Go.st (fun t k => XS.goto X17.here hx rfl (pc0 := 226) (pc' := 230) rfl (hb hby at_226) (by decide) (by decide) k) ?_
                                    show Go p.tables e below PP (T17.setTop (mkF m 230 #[.val (.int p1), .val (.long q2), .second, .val (.int n), .val (.int ch0), .val (.int ch1), .val (.int ch2), .val (.int ch3), .val (.int ch4), .val (.int ch5), .val (.int ch6), .val (.ref b8), .val (.ref b16), .unset, .unset, .unset] [(.int (1 : Int32))]))
                                    exact J230 _ _ _ X17 e17 N17 (by simp [bi, hc154, hc161, hc166, hc178, hc185, hc190, hc197, hc202, hc215, hc222])
                                  · --
                                    refine Go.st (fun t k => XS.icmpYes X17.here hx rfl (pc0 := 222) (pc' := 229) rfl (hb hby at_222) rfl (XT.ii_ne_t hc222) (by decide) (by decide) k) ?_
                                    show Go p.tables e below PP (T17.setTop (mkF m 229 #[.val (.int p1), .val (.long q2), .second, .val (.int n), .val (.int ch0), .val (.int ch1), .val (.int ch2), .val (.int ch3), .val (.int ch4), .val (.int ch5), .val (.int ch6), .val (.ref b8), .val (.ref b16), .unset, .unset, .unset] []))
                                    refine Go.st (fun t k => XS.iconst X17.here hx rfl (hb hby at_229) k) ?_
                                    show Go p.tables e below PP (T17.setTop (mkF m 230 #[.val (.int p1), .val (.long q2), .second, .val (.int n), .val (.int ch0), .val (.int ch1), .val (.int ch2), .val (.int ch3), .val (.int ch4), .val (.int ch5), .val (.int ch6), .val (.ref b8), .val (.ref b16), .unset, .unset, .unset] [(.int (0 : Int32))]))
                                    exact J230 _ _ _ X17 e17 N17 (by simp [bi, hc154, hc161, hc166, hc178, hc185, hc190, hc197, hc202, hc215, hc222])
                                · --
                                  refine Go.st (fun t k => XS.icmpYes X17.here hx rfl (pc0 := 215) (pc' := 229) rfl (hb hby at_215) rfl (XT.ii_le_t hc215) (by decide) (by decide) k) ?_
                                  show Go p.tables e below PP (T17.setTop (mkF m 229 #[.val (.int p1), .val (.long q2), .second, .val (.int n), .val (.int ch0), .val (.int ch1), .val (.int ch2), .val (.int ch3), .val (.int ch4), .val (.int ch5), .val (.int ch6), .val (.ref b8), .val (.ref b16), .unset, .unset, .unset] []))
                                  refine Go.st (fun t k => XS.iconst X17.here hx rfl (hb hby at_229) k) ?_
                                  show Go p.tables e below PP (T17.setTop (mkF m 230 #[.val (.int p1), .val (.long q2), .second, .val (.int n), .val (.int ch0), .val (.int ch1), .val (.int ch2), .val (.int ch3), .val (.int ch4), .val (.int ch5), .val (.int ch6), .val (.ref b8), .val (.ref b16), .unset, .unset, .unset] [(.int (0 : Int32))]))
                                  exact J230 _ _ _ X17 e17 N17 (by simp [bi, hc154, hc161, hc166, hc178, hc185, hc190, hc197, hc202, hc215])
                          · --
                            refine Go.st (fun t k => XS.icmpYes X17.here hx rfl (pc0 := 190) (pc' := 200) rfl (hb hby at_190) rfl (XT.ii_le_t hc190) (by decide) (by decide) k) ?_
                            show Go p.tables e below PP (T17.setTop (mkF m 200 #[.val (.int p1), .val (.long q2), .second, .val (.int n), .val (.int ch0), .val (.int ch1), .val (.int ch2), .val (.int ch3), .val (.int ch4), .val (.int ch5), .val (.int ch6), .val (.ref b8), .val (.ref b16), .unset, .unset, .unset] []))
                            refine Go.st (fun t k => XS.iloadN X17.here hx rfl (hb hby at_200) rfl k) ?_
                            show Go p.tables e below PP (T17.setTop (mkF m 201 #[.val (.int p1), .val (.long q2), .second, .val (.int n), .val (.int ch0), .val (.int ch1), .val (.int ch2), .val (.int ch3), .val (.int ch4), .val (.int ch5), .val (.int ch6), .val (.ref b8), .val (.ref b16), .unset, .unset, .unset] [(.int n)]))
                            refine Go.st (fun t k => XS.iconst X17.here hx rfl (hb hby at_201) k) ?_
                            show Go p.tables e below PP (T17.setTop (mkF m 202 #[.val (.int p1), .val (.long q2), .second, .val (.int n), .val (.int ch0), .val (.int ch1), .val (.int ch2), .val (.int ch3), .val (.int ch4), .val (.int ch5), .val (.int ch6), .val (.ref b8), .val (.ref b16), .unset, .unset, .unset] [(.int (5 : Int32)), (.int n)]))
                            by_cases hc202 : (5 : Int32) < n
                            · --
                              refine Go.st (fun t k => XS.icmpNo X17.here hx rfl (hb hby at_202) rfl (XT.ii_le_f hc202) k) ?_
                              show Go p.tables e below PP (T17.setTop (mkF m 205 #[.val (.int p1), .val (.long q2), .second, .val (.int n), .val (.int ch0), .val (.int ch1), .val (.int ch2), .val (.int ch3), .val (.int ch4), .val (.int ch5), .val (.int ch6), .val (.ref b8), .val (.ref b16), .unset, .unset, .unset] []))
                              refine Go.st (fun t k => XS.iload X17.here hx rfl (hb hby at_205) rfl k) ?_
                              show Go p.tables e below PP (T17.setTop (mkF m 207 #[.val (.int p1), .val (.long q2), .second, .val (.int n), .val (.int ch0), .val (.int ch1), .val (.int ch2), .val (.int ch3), .val (.int ch4), .val (.int ch5), .val (.int ch6), .val (.ref b8), .val (.ref b16), .unset, .unset, .unset] [(.int ch5)]))
                              refine Go.st (fun t k => XS.bipush X17.here hx rfl (hb hby at_207) k) ?_
                              show Go p.tables e below PP (T17.setTop (mkF m 209 #[.val (.int p1), .val (.long q2), .second, .val (.int n), .val (.int ch0), .val (.int ch1), .val (.int ch2), .val (.int ch3), .val (.int ch4), .val (.int ch5), .val (.int ch6), .val (.ref b8), .val (.ref b16), .unset, .unset, .unset] [(.int (64 : Int32)), (.int ch5)]))
                              by_cases hc209 : ch5 = (64 : Int32)
                              · --
                                refine Go.st (fun t k => XS.icmpYes X17.here hx rfl (pc0 := 209) (pc' := 225) rfl (hb hby at_209) rfl (XT.ii_eq_t hc209) (by decide) (by decide) k) ?_
                                show Go p.tables e below PP (T17.setTop (mkF m 225 #[.val (.int p1), .val (.long q2), .second, .val (.int n), .val (.int ch0), .val (.int ch1), .val (.int ch2), .val (.int ch3), .val (.int ch4), .val (.int ch5), .val (.int ch6), .val (.ref b8), .val (.ref b16), .unset, .unset, .unset] []))
                                refine Go.st (fun t k => XS.iconst X17.here hx rfl (hb hby at_225) k) ?_
                                show Go p.tables e below PP (T17.setTop (mkF m 226 #[.val (.int p1), .val (.long q2), .second, .val (.int n), .val (.int ch0), .val (.int ch1), .val (.int ch2), .val (.int ch3), .val (.int ch4), .val (.int ch5), .val (.int ch6), .val (.ref b8), .val (.ref b16), .unset, .unset, .unset] [(.int (1 : Int32))]))
                                refine Go.st (fun t k => XS.goto X17.here hx rfl (pc0 := 226) (pc' := 230) rfl (hb hby at_226) (by decide) (by decide) k) ?_
                                show Go p.tables e below PP (T17.setTop (mkF m 230 #[.val (.int p1), .val (.long q2), .second, .val (.int n), .val (.int ch0), .val (.int ch1), .val (.int ch2), .val (.int ch3), .val (.int ch4), .val (.int ch5), .val (.int ch6), .val (.ref b8), .val (.ref b16), .unset, .unset, .unset] [(.int (1 : Int32))]))
                                exact J230 _ _ _ X17 e17 N17 (by simp [bi, hc154, hc161, hc166, hc178, hc185, hc190, hc202, hc209])
                              · --
                                refine Go.st (fun t k => XS.icmpNo X17.here hx rfl (hb hby at_209) rfl (XT.ii_eq_f hc209) k) ?_
                                show Go p.tables e below PP (T17.setTop (mkF m 212 #[.val (.int p1), .val (.long q2), .second, .val (.int n), .val (.int ch0), .val (.int ch1), .val (.int ch2), .val (.int ch3), .val (.int ch4), .val (.int ch5), .val (.int ch6), .val (.ref b8), .val (.ref b16), .unset, .unset, .unset] []))
                                refine Go.st (fun t k => XS.iloadN X17.here hx rfl (hb hby at_212) rfl k) ?_
                                show Go p.tables e below PP (T17.setTop (mkF m 213 #[.val (.int p1), .val (.long q2), .second, .val (.int n), .val (.int ch0), .val (.int ch1), .val (.int ch2), .val (.int ch3), .val (.int ch4), .val (.int ch5), .val (.int ch6), .val (.ref b8), .val (.ref b16), .unset, .unset, .unset] [(.int n)]))
                                refine Go.st (fun t k => XS.bipush X17.here hx rfl (hb hby at_213) k) ?_
                                show Go p.tables e below PP (T17.setTop (mkF m 215 #[.val (.int p1), .val (.long q2), .second, .val (.int n), .val (.int ch0), .val (.int ch1), .val (.int ch2), .val (.int ch3), .val (.int ch4), .val (.int ch5), .val (.int ch6), .val (.ref b8), .val (.ref b16), .unset, .unset, .unset] [(.int (6 : Int32)), (.int n)]))
                                by_cases hc215 : (6 : Int32) < n
                                · --
                                  refine Go.st (fun t k => XS.icmpNo X17.here hx rfl (hb hby at_215) rfl (XT.ii_le_f hc215) k) ?_
                                  show Go p.tables e below PP (T17.setTop (mkF m 218 #[.val (.int p1), .val (.long q2), .second, .val (.int n), .val (.int ch0), .val (.int ch1), .val (.int ch2), .val (.int ch3), .val (.int ch4), .val (.int ch5), .val (.int ch6), .val (.ref b8), .val (.ref b16), .unset, .unset, .unset] []))
                                  refine Go.st (fun t k => XS.iload X17.here hx rfl (hb hby at_218) rfl k) ?_
                                  show Go p.tables e below PP (T17.setTop (mkF m 220 #[.val (.int p1), .val (.long q2), .second, .val (.int n), .val (.int ch0), .val (.int ch1), .val (.int ch2), .val (.int ch3), .val (.int ch4), .val (.int ch5), .val (.int ch6), .val (.ref b8), .val (.ref b16), .unset, .unset, .unset] [(.int ch6)]))
                                  refine Go.st (fun t k => XS.bipush X17.here hx rfl (hb hby at_220) k) ?_
                                  show Go p.tables e below PP (T17.setTop (mkF m 222 #[.val (.int p1), .val (.long q2), .second, .val (.int n), .val (.int ch0), .val (.int ch1), .val (.int ch2), .val (.int ch3), .val (.int ch4), .val (.int ch5), .val (.int ch6), .val (.ref b8), .val (.ref b16), .unset, .unset, .unset] [(.int (64 : Int32)), (.int ch6)]))
                                  by_cases hc222 : ch6 = (64 : Int32)
                                  · --
                                    refine Go.st (fun t k => XS.icmpNo X17.here hx rfl (hb hby at_222) rfl (XT.ii_ne_f hc222) k) ?_
                                    show Go p.tables e below PP (T17.setTop (mkF m 225 #[.val (.int p1), .val (.long q2), .second, .val (.int n), .val (.int ch0), .val (.int ch1), .val (.int ch2), .val (.int ch3), .val (.int ch4), .val (.int ch5), .val (.int ch6), .val (.ref b8), .val (.ref b16), .unset, .unset, .unset] []))
                                    refine Go.st (fun t k => XS.iconst X17.here hx rfl (hb hby at_225) k) ?_
                                    show Go p.tables e below PP (T17.setTop (mkF m 226 #[.val (.int p1), .val (.long q2), .second, .val (.int n), .val (.int ch0), .val (.int ch1), .val (.int ch2), .val (.int ch3), .val (.int ch4), .val (.int ch5), .val (.int ch6), .val (.ref b8), .val (.ref b16), .unset, .unset, .unset] [(.int (1 : Int32))]))
                                    refine Go.st (fun t k => XS.goto X17.here hx rfl (pc0 := 226) (pc' := 230) rfl (hb hby at_226) (by decide) (by decide) k) ?_
                                    show Go p.tables e below PP (T17.setTop (mkF m 230 #[.val (.int p1), .val (.long q2), .second, .val (.int n), .val (.int ch0), .val (.int ch1), .val (.int ch2), .val (.int ch3), .val (.int ch4), .val (.int ch5), .val (.int ch6), .val (.ref b8), .val (.ref b16), .unset, .unset, .unset] [(.int (1 : Int32))]))
                                    exact J230 _ _ _ X17 e17 N17 (by simp [bi, hc154, hc161, hc166, hc178, hc185, hc190, hc202, hc209, hc215, hc222])
                                  · --
                                    refine Go.st (fun t k => XS.icmpYes X17.here hx rfl (pc0 := 222) (pc' := 229) rfl (hb hby at_222) rfl (XT.ii_ne_t hc222) (by decide) (by decide) k) ?_
                                    show Go p.tables e below PP (T17.setTop (mkF m 229 #[.val (.int p1), .val (.long q2), .second, .val (.int n), .val (.int ch0), .val (.int ch1), .val (.int ch2), .val (.int ch3), .val (.int ch4), .val (.int ch5), .val (.int ch6), .val (.ref b8), .val (.ref b16), .unset, .unset, .unset] []))
                                    refine Go.st (fun t k => XS.iconst X17.here hx rfl (hb hby at_229) k) ?_
                                    show Go p.tables e below PP (T17.setTop (mkF m 230 #[.val (.int p1), .val (.long q2), .second, .val (.int n), .val (.int ch0), .val (.int ch1), .val (.int ch2), .val (.int ch3), .val (.int ch4), .val (.int ch5), .val (.int ch6), .val (.ref b8), .val (.ref b16), .unset, .unset, .unset] [(.int (0 : Int32))]))
                                    exact J230 _ _ _ X17 e17 N17 (by simp [bi, hc154, hc161, hc166, hc178, hc185, hc190, hc202, hc209, hc215, hc222])
                                · --
                                  refine Go.st (fun t k => XS.icmpYes X17.here hx rfl (pc0 := 215) (pc' := 229) rfl (hb hby at_215) rfl (XT.ii_le_t hc215) (by decide) (by decide) k) ?_
                                  show Go p.tables e below PP (T17.setTop (mkF m 229 #[.val (.int p1), .val (.long q2), .second, .val (.int n), .val (.int ch0), .val (.int ch1), .val (.int ch2), .val (.int ch3), .val (.int ch4), .val (.int ch5), .val (.int ch6), .val (.ref b8), .val (.ref b16), .unset, .unset, .unset] []))
                                  refine Go.st (fun t k => XS.iconst X17.here hx rfl (hb hby at_229) k) ?_
                                  show Go p.tables e below PP (T17.setTop (mkF m 230 #[.val (.int p1), .val (.long q2), .second, .val (.int n), .val (.int ch0), .val (.int ch1), .val (.int ch2), .val (.int ch3), .val (.int ch4), .val (.int ch5), .val (.int ch6), .val (.ref b8), .val (.ref b16), .unset, .unset, .unset] [(.int (0 : Int32))]))
                                  exact J230 _ _ _ X17 e17 N17 (by simp [bi, hc154, hc161, hc166, hc178, hc185, hc190, hc202, hc209, hc215])
                            · --
                              refine Go.st (fun t k => XS.icmpYes X17.here hx rfl (pc0 := 202) (pc' := 212) rfl (hb hby at_202) rfl (XT.ii_le_t hc202) (by decide) (by decide) k) ?_
                              show Go p.tables e below PP (T17.setTop (mkF m 212 #[.val (.int p1), .val (.long q2), .second, .val (.int n), .val (.int ch0), .val (.int ch1), .val (.int ch2), .val (.int ch3), .val (.int ch4), .val (.int ch5), .val (.int ch6), .val (.ref b8), .val (.ref b16), .unset, .unset, .unset] []))
                              refine Go.st (fun t k => XS.iloadN X17.here hx rfl (hb hby at_212) rfl k) ?_
                              show Go p.tables e below PP (T17.setTop (mkF m 213 #[.val (.int p1), .val (.long q2), .second, .val (.int n), .val (.int ch0), .val (.int ch1), .val (.int ch2), .val (.int ch3), .val (.int ch4), .val (.int ch5), .val (.int ch6), .val (.ref b8), .val (.ref b16), .unset, .unset, .unset] [(.int n)]))
                              refine Go.st (fun t k => XS.bipush X17.here hx rfl (hb hby at_213) k) ?_
                              show Go p.tables e below PP (T17.setTop (mkF m 215 #[.val (.int p1), .val (.long q2), .second, .val (.int n), .val (.int ch0), .val (.int ch1), .val (.int ch2), .val (.int ch3), .val (.int ch4), .val (.int ch5), .val (.int ch6), .val (.ref b8), .val (.ref b16), .unset, .unset, .unset] [(.int (6 : Int32)), (.int n)]))
                              by_cases hc215 : (6 : Int32) < n
                              · --
                                refine Go.st (fun t k => XS.icmpNo X17.here hx rfl (hb hby at_215) rfl (XT.ii_le_f hc215) k) ?_
                                show Go p.tables e below PP (T17.setTop (mkF m 218 #[.val (.int p1), .val (.long q2), .second, .val (.int n), .val (.int ch0), .val (.int ch1), .val (.int ch2), .val (.int ch3), .val (.int ch4), .val (.int ch5), .val (.int ch6), .val (.ref b8), .val (.ref b16), .unset, .unset, .unset] []))
                                refine Go.st (fun t k => XS.iload X17.here hx rfl (hb hby at_218) rfl k) ?_
                                show Go p.tables e below PP (T17.setTop (mkF m 220 #[.val (.int p1), .val (.long q2), .second, .val (.int n), .val (.int ch0), .val (.int ch1), .val (.int ch2), .val (.int ch3), .val (.int ch4), .val (.int ch5), .val (.int ch6), .val (.ref b8), .val (.ref b16), .unset, .unset, .unset] [(.int ch6)]))
                                refine Go.st (fun t k => XS.bipush X17.here hx rfl (hb hby at_220) k) ?_
                                show Go p.tables e below PP (T17.setTop (mkF m 222 #[.val (.int p1), .val (.long q2), .second, .val (.int n), .val (.int ch0), .val (.int ch1), .val (.int ch2), .val (.int ch3), .val (.int ch4), .val (.int ch5), .val (.int ch6), .val (.ref b8), .val (.ref b16), .unset, .unset, .unset] [(.int (64 : Int32)), (.int ch6)]))
                                by_cases hc222 : ch6 = (64 : Int32)
                                · --
                                  refine Go.st (fun t k => XS.icmpNo X17.here hx rfl (hb hby at_222) rfl (XT.ii_ne_f hc222) k) ?_
                                  show Go p.tables e below PP (T17.setTop (mkF m 225 #[.val (.int p1), .val (.long q2), .second, .val (.int n), .val (.int ch0), .val (.int ch1), .val (.int ch2), .val (.int ch3), .val (.int ch4), .val (.int ch5), .val (.int ch6), .val (.ref b8), .val (.ref b16), .unset, .unset, .unset] []))
                                  refine Go.st (fun t k => XS.iconst X17.here hx rfl (hb hby at_225) k) ?_
                                  show Go p.tables e below PP (T17.setTop (mkF m 226 #[.val (.int p1), .val (.long q2), .second, .val (.int n), .val (.int ch0), .val (.int ch1), .val (.int ch2), .val (.int ch3), .val (.int ch4), .val (.int ch5), .val (.int ch6), .val (.ref b8), .val (.ref b16), .unset, .unset, .unset] [(.int (1 : Int32))]))
                                  refine Go.st (fun t k => XS.goto X17.here hx rfl (pc0 := 226) (pc' := 230) rfl (hb hby at_226) (by decide) (by decide) k) ?_
                                  show Go p.tables e below PP (T17.setTop (mkF m 230 #[.val (.int p1), .val (.long q2), .second, .val (.int n), .val (.int ch0), .val (.int ch1), .val (.int ch2), .val (.int ch3), .val (.int ch4), .val (.int ch5), .val (.int ch6), .val (.ref b8), .val (.ref b16), .unset, .unset, .unset] [(.int (1 : Int32))]))
                                  exact J230 _ _ _ X17 e17 N17 (by simp [bi, hc154, hc161, hc166, hc178, hc185, hc190, hc202, hc215, hc222])
                                · --
                                  refine Go.st (fun t k => XS.icmpYes X17.here hx rfl (pc0 := 222) (pc' := 229) rfl (hb hby at_222) rfl (XT.ii_ne_t hc222) (by decide) (by decide) k) ?_
                                  show Go p.tables e below PP (T17.setTop (mkF m 229 #[.val (.int p1), .val (.long q2), .second, .val (.int n), .val (.int ch0), .val (.int ch1), .val (.int ch2), .val (.int ch3), .val (.int ch4), .val (.int ch5), .val (.int ch6), .val (.ref b8), .val (.ref b16), .unset, .unset, .unset] []))
                                  refine Go.st (fun t k => XS.iconst X17.here hx rfl (hb hby at_229) k) ?_
                                  show Go p.tables e below PP (T17.setTop (mkF m 230 #[.val (.int p1), .val (.long q2), .second, .val (.int n), .val (.int ch0), .val (.int ch1), .val (.int ch2), .val (.int ch3), .val (.int ch4), .val (.int ch5), .val (.int ch6), .val (.ref b8), .val (.ref b16), .unset, .unset, .unset] [(.int (0 : Int32))]))
                                  exact J230 _ _ _ X17 e17 N17 (by simp [bi, hc154, hc161, hc166, hc178, hc185, hc190, hc202, hc215, hc222])
                              · --
                                refine Go.st (fun t k => XS.icmpYes X17.here hx rfl (pc0 := 215) (pc' := 229) rfl (hb hby at_215) rfl (XT.ii_le_t hc215) (by decide) (by decide) k) ?_
                                show Go p.tables e below PP (T17.setTop (mkF m 229 #[.val (.int p1), .val (.long q2), .second, .val (.int n), .val (.int ch0), .val (.int ch1), .val (.int ch2), .val (.int ch3), .val (.int ch4), .val (.int ch5), .val (.int ch6), .val (.ref b8), .val (.ref b16), .unset, .unset, .unset] []))
                                refine Go.st (fun t k => XS.iconst X17.here hx rfl (hb hby at_229) k) ?_
                                show Go p.tables e below PP (T17.setTop (mkF m 230 #[.val (.int p1), .val (.long q2), .second, .val (.int n), .val (.int ch0), .val (.int ch1), .val (.int ch2), .val (.int ch3), .val (.int ch4), .val (.int ch5), .val (.int ch6), .val (.ref b8), .val (.ref b16), .unset, .unset, .unset] [(.int (0 : Int32))]))
                                exact J230 _ _ _ X17 e17 N17 (by simp [bi, hc154, hc161, hc166, hc178, hc185, hc190, hc202, hc215])
                      · --
                        refine Go.st (fun t k => XS.icmpYes X17.here hx rfl (pc0 := 178) (pc' := 188) rfl (hb hby at_178) rfl (XT.ii_le_t hc178) (by decide) (by decide) k) ?_
                        show Go p.tables e below PP (T17.setTop (mkF m 188 #[.val (.int p1), .val (.long q2), .second, .val (.int n), .val (.int ch0), .val (.int ch1), .val (.int ch2), .val (.int ch3), .val (.int ch4), .val (.int ch5), .val (.int ch6), .val (.ref b8), .val (.ref b16), .unset, .unset, .unset] []))
                        refine Go.st (fun t k => XS.iloadN X17.here hx rfl (hb hby at_188) rfl k) ?_
                        show Go p.tables e below PP (T17.setTop (mkF m 189 #[.val (.int p1), .val (.long q2), .second, .val (.int n), .val (.int ch0), .val (.int ch1), .val (.int ch2), .val (.int ch3), .val (.int ch4), .val (.int ch5), .val (.int ch6), .val (.ref b8), .val (.ref b16), .unset, .unset, .unset] [(.int n)]))
                        refine Go.st (fun t k => XS.iconst X17.here hx rfl (hb hby at_189) k) ?_
                        show Go p.tables e below PP (T17.setTop (mkF m 190 #[.val (.int p1), .val (.long q2), .second, .val (.int n), .val (.int ch0), .val (.int ch1), .val (.int ch2), .val (.int ch3), .val (.int ch4), .val (.int ch5), .val (.int ch6), .val (.ref b8), .val (.ref b16), .unset, .unset, .unset] [(.int (4 : Int32)), (.int n)]))
                        by_cases hc190 : (4 : Int32) < n
                        · --
                          refine Go.st (fun t k => XS.icmpNo X17.here hx rfl (hb hby at_190) rfl (XT.ii_le_f hc190) k) ?_
                          show Go p.tables e below PP (T17.setTop (mkF m 193 #[.val (.int p1), .val (.long q2), .second, .val (.int n), .val (.int ch0), .val (.int ch1), .val (.int ch2), .val (.int ch3), .val (.int ch4), .val (.int ch5), .val (.int ch6), .val (.ref b8), .val (.ref b16), .unset, .unset, .unset] []))
                          refine Go.st (fun t k => XS.iload X17.here hx rfl (hb hby at_193) rfl k) ?_
                          show Go p.tables e below PP (T17.setTop (mkF m 195 #[.val (.int p1), .val (.long q2), .second, .val (.int n), .val (.int ch0), .val (.int ch1), .val (.int ch2), .val (.int ch3), .val (.int ch4), .val (.int ch5), .val (.int ch6), .val (.ref b8), .val (.ref b16), .unset, .unset, .unset] [(.int ch4)]))
                          refine Go.st (fun t k => XS.bipush X17.here hx rfl (hb hby at_195) k) ?_
                          show Go p.tables e below PP (T17.setTop (mkF m 197 #[.val (.int p1), .val (.long q2), .second, .val (.int n), .val (.int ch0), .val (.int ch1), .val (.int ch2), .val (.int ch3), .val (.int ch4), .val (.int ch5), .val (.int ch6), .val (.ref b8), .val (.ref b16), .unset, .unset, .unset] [(.int (64 : Int32)), (.int ch4)]))
                          by_cases hc197 : ch4 = (64 : Int32)
                          · --
                            refine Go.st (fun t k => XS.icmpYes X17.here hx rfl (pc0 := 197) (pc' := 225) rfl (hb hby at_197) rfl (XT.ii_eq_t hc197) (by decide) (by decide) k) ?_
                            show Go p.tables e below PP (T17.setTop (mkF m 225 #[.val (.int p1), .val (.long q2), .second, .val (.int n), .val (.int ch0), .val (.int ch1), .val (.int ch2), .val (.int ch3), .val (.int ch4), .val (.int ch5), .val (.int ch6), .val (.ref b8), .val (.ref b16), .unset, .unset, .unset] []))
                            refine Go.st (fun t k => XS.iconst X17.here hx rfl (hb hby at_225) k) ?_
                            show Go p.tables e below PP (T17.setTop (mkF m 226 #[.val (.int p1), .val (.long q2), .second, .val (.int n), .val (.int ch0), .val (.int ch1), .val (.int ch2), .val (.int ch3), .val (.int ch4), .val (.int ch5), .val (.int ch6), .val (.ref b8), .val (.ref b16), .unset, .unset, .unset] [(.int (1 : Int32))]))
                            refine Go.st (fun t k => XS.goto X17.here hx rfl (pc0 := 226) (pc' := 230) rfl (hb hby at_226) (by decide) (by decide) k) ?_
                            show Go p.tables e below PP (T17.setTop (mkF m 230 #[.val (.int p1), .val (.long q2), .second, .val (.int n), .val (.int ch0), .val (.int ch1), .val (.int ch2), .val (.int ch3), .val (.int ch4), .val (.int ch5), .val (.int ch6), .val (.ref b8), .val (.ref b16), .unset, .unset, .unset] [(.int (1 : Int32))]))
                            exact J230 _ _ _ X17 e17 N17 (by simp [bi, hc154, hc161, hc166, hc178, hc190, hc197])
                          · --
                            refine Go.st (fun t k => XS.icmpNo X17.here hx rfl (hb hby at_197) rfl (XT.ii_eq_f hc197) k) ?_
                            show Go p.tables e below PP (T17.setTop (mkF m 200 #[.val (.int p1), .val (.long q2), .second, .val (.int n), .val (.int ch0), .val (.int ch1), .val (.int ch2), .val (.int ch3), .val (.int ch4), .val (.int ch5), .val (.int ch6), .val (.ref b8), .val (.ref b16), .unset, .unset, .unset] []))
                            refine Go.st (fun t k => XS.iloadN X17.here hx rfl (hb hby at_200) rfl k) ?_
                            show Go p.tables e below PP (T17.setTop (mkF m 201 #[.val (.int p1), .val (.long q2), .second, .val (.int n), .val (.int ch0), .val (.int ch1), .val (.int ch2), .val (.int ch3), .val (.int ch4), .val (.int ch5), .val (.int ch6), .val (.ref b8), .val (.ref b16), .unset, .unset, .unset] [(.int n)]))
                            refine Go.st (fun t k => XS.iconst X17.here hx rfl (hb hby at_201) k) ?_
                            show Go p.tables e below PP (T17.setTop (mkF m 202 #[.val (.int p1), .val (.long q2), .second, .val (.int n), .val (.int ch0), .val (.int ch1), .val (.int ch2), .val (.int ch3), .val (.int ch4), .val (.int ch5), .val (.int ch6), .val (.ref b8), .val (.ref b16), .unset, .unset, .unset] [(.int (5 : Int32)), (.int n)]))
                            by_cases hc202 : (5 : Int32) < n
                            · --
                              refine Go.st (fun t k => XS.icmpNo X17.here hx rfl (hb hby at_202) rfl (XT.ii_le_f hc202) k) ?_
                              show Go p.tables e below PP (T17.setTop (mkF m 205 #[.val (.int p1), .val (.long q2), .second, .val (.int n), .val (.int ch0), .val (.int ch1), .val (.int ch2), .val (.int ch3), .val (.int ch4), .val (.int ch5), .val (.int ch6), .val (.ref b8), .val (.ref b16), .unset, .unset, .unset] []))
                              refine Go.st (fun t k => XS.iload X17.here hx rfl (hb hby at_205) rfl k) ?_
                              show Go p.tables e below PP (T17.setTop (mkF m 207 #[.val (.int p1), .val (.long q2), .second, .val (.int n), .val (.int ch0), .val (.int ch1), .val (.int ch2), .val (.int ch3), .val (.int ch4), .val (.int ch5), .val (.int ch6), .val (.ref b8), .val (.ref b16), .unset, .unset, .unset] [(.int ch5)]))
                              refine Go.st (fun t k => XS.bipush X17.here hx rfl (hb hby at_207) k) ?_
                              show Go p.tables e below PP (T17.setTop (mkF m 209 #[.val (.int p1), .val (.long q2), .second, .val (.int n), .val (.int ch0), .val (.int ch1), .val (.int ch2), .val (.int ch3), .val (.int ch4), .val (.int ch5), .val (.int ch6), .val (.ref b8), .val (.ref b16), .unset, .unset, .unset] [(.int (64 : Int32)), (.int ch5)]))
                              by_cases hc209 : ch5 = (64 : Int32)
                              · --
                                refine Go.st (fun t k => XS.icmpYes X17.here hx rfl (pc0 := 209) (pc' := 225) rfl (hb hby at_209) rfl (XT.ii_eq_t hc209) (by decide) (by decide) k) ?_
                                show Go p.tables e below PP (T17.setTop (mkF m 225 #[.val (.int p1), .val (.long q2), .second, .val (.int n), .val (.int ch0), .val (.int ch1), .val (.int ch2), .val (.int ch3), .val (.int ch4), .val (.int ch5), .val (.int ch6), .val (.ref b8), .val (.ref b16), .unset, .unset, .unset] []))
                                refine Go.st (fun t k => XS.iconst X17.here hx rfl (hb hby at_225) k) ?_
                                show Go p.tables e below PP (T17.setTop (mkF m 226 #[.val (.int p1), .val (.long q2), .second, .val (.int n), .val (.int ch0), .val (.int ch1), .val (.int ch2), .val (.int ch3), .val (.int ch4), .val (.int ch5), .val (.int ch6), .val (.ref b8), .val (.ref b16), .unset, .unset, .unset] [(.int (1 : Int32))]))
                                refine Go.st (fun t k => XS.goto X17.here hx rfl (pc0 := 226) (pc' := 230) rfl (hb hby at_226) (by decide) (by decide) k) ?_
                                show Go p.tables e below PP (T17.setTop (mkF m 230 #[.val (.int p1), .val (.long q2), .second, .val (.int n), .val (.int ch0), .val (.int ch1), .val (.int ch2), .val (.int ch3), .val (.int ch4), .val (.int ch5), .val (.int ch6), .val (.ref b8), .val (.ref b16), .unset, .unset, .unset] [(.int (1 : Int32))]))
                                exact J230 _ _ _ X17 e17 N17 (by simp [bi, hc154, hc161, hc166, hc178, hc190, hc197, hc202, hc209])
                              · --
                                refine Go.st (fun t k => XS.icmpNo X17.here hx rfl (hb hby at_209) rfl (XT.ii_eq_f hc209) k) ?_
                                show Go p.tables e below PP (T17.setTop (mkF m 212 #[.val (.int p1), .val (.long q2), .second, .val (.int n), .val (.int ch0), .val (.int ch1), .val (.int ch2), .val (.int ch3), .val (.int ch4), .val (.int ch5), .val (.int ch6), .val (.ref b8), .val (.ref b16), .unset, .unset, .unset] []))
                                refine Go.st (fun t k => XS.iloadN X17.here hx rfl (hb hby at_212) rfl k) ?_
                                show Go p.tables e below PP (T17.setTop (mkF m 213 #[.val (.int p1), .val (.long q2), .second, .val (.int n), .val (.int ch0), .val (.int ch1), .val (.int ch2), .val (.int ch3), .val (.int ch4), .val (.int ch5), .val (.int ch6), .val (.ref b8), .val (.ref b16), .unset, .unset, .unset] [(.int n)]))
                                refine Go.st (fun t k => XS.bipush X17.here hx rfl (hb hby at_213) k) ?_
                                show Go p.tables e below PP (T17.setTop (mkF m 215 #[.val (.int p1), .val (.long q2), .second, .val (.int n), .val (.int ch0), .val (.int ch1), .val (.int ch2), .val (.int ch3), .val (.int ch4), .val (.int ch5), .val (.int ch6), .val (.ref b8), .val (.ref b16), .unset, .unset, .unset] [(.int (6 : Int32)), (.int n)]))
                                by_cases hc215 : (6 : Int32) < n
                                · --
                                  refine Go.st (fun t k => XS.icmpNo X17.here hx rfl (hb hby at_215) rfl (XT.ii_le_f hc215) k) ?_
                                  show Go p.tables e below PP (T17.setTop (mkF m 218 #[.val (.int p1), .val (.long q2), .second, .val (.int n), .val (.int ch0), .val (.int ch1), .val (.int ch2), .val (.int ch3), .val (.int ch4), .val (.int ch5), .val (.int ch6), .val (.ref b8), .val (.ref b16), .unset, .unset, .unset] []))
                                  refine Go.st (fun t k => XS.iload X17.here hx rfl (hb hby at_218) rfl k) ?_
                                  show Go p.tables e below PP (T17.setTop (mkF m 220 #[.val (.int p1), .val (.long q2), .second, .val (.int n), .val (.int ch0), .val (.int ch1), .val (.int ch2), .val (.int ch3), .val (.int ch4), .val (.int ch5), .val (.int ch6), .val (.ref b8), .val (.ref b16), .unset, .unset, .unset] [(.int ch6)]))
                                  refine Go.st (fun t k => XS.bipush X17.here hx rfl (hb hby at_220) k) ?_
                                  show Go p.tables e below PP (T17.setTop (mkF m 222 #[.val (.int p1), .val (.long q2), .second, .val (.int n), .val (.int ch0), .val (.int ch1), .val (.int ch2), .val (.int ch3), .val (.int ch4), .val (.int ch5), .val (.int ch6), .val (.ref b8), .val (.ref b16), .unset, .unset, .unset] [(.int (64 : Int32)), (.int ch6)]))
                                  by_cases hc222 : ch6 = (64 : Int32)
                                  · --
                                    refine Go.st (fun t k => XS.icmpNo X17.here hx rfl (hb hby at_222) rfl (XT.ii_ne_f hc222) k) ?_
                                    show Go p.tables e below PP (T17.setTop (mkF m 225 #[.val (.int p1), .val (.long q2), .second, .val (.int n), .val (.int ch0), .val (.int ch1), .val (.int ch2), .val (.int ch3), .val (.int ch4), .val (.int ch5), .val (.int ch6), .val (.ref b8), .val (.ref b16), .unset, .unset, .unset] []))
                                    refine Go.st (fun t k => XS.iconst X17.here hx rfl (hb hby at_225) k) ?_
                                    show Go p.tables e below PP (T17.setTop (mkF m 226 #[.val (.int p1), .val (.long q2), .second, .val (.int n), .val (.int ch0), .val (.int ch1), .val (.int ch2), .val (.int ch3), .val (.int ch4), .val (.int ch5), .val (.int ch6), .val (.ref b8), .val (.ref b16), .unset, .unset, .unset] [(.int (1 : Int32))]))
                                    refine Go.st (fun t k => XS.goto X17.here hx rfl (pc0 := 226) (pc' := 230) rfl (hb hby at_226) (by decide) (by decide) k) ?_
                                    show Go p.tables e below PP (T17.setTop (mkF m 230 #[.val (.int p1), .val (.long q2), .second, .val (.int n), .val (.int ch0), .val (.int ch1), .val (.int ch2), .val (.int ch3), .val (.int ch4), .val (.int ch5), .val (.int ch6), .val (.ref b8), .val (.ref b16), .unset, .unset, .unset] [(.int (1 : Int32))]))
                                    exact J230 _ _ _ X17 e17 N17 (by simp [bi, hc154, hc161, hc166, hc178, hc190, hc197, hc202, hc209, hc215, hc222])
                                  · --
                                    refine Go.st (fun t k => XS.icmpYes X17.here hx rfl (pc0 := 222) (pc' := 229) rfl (hb hby at_222) rfl (XT.ii_ne_t hc222) (by decide) (by decide) k) ?_
                                    show Go p.tables e below PP (T17.setTop (mkF m 229 #[.val (.int p1), .val (.long q2), .second, .val (.int n), .val (.int ch0), .val (.int ch1), .val (.int ch2), .val (.int ch3), .val (.int ch4), .val (.int ch5), .val (.int ch6), .val (.ref b8), .val (.ref b16), .unset, .unset, .unset] []))
                                    refine Go.st (fun t k => XS.iconst X17.here hx rfl (hb hby at_229) k) ?_
                                    show Go p.tables e below PP (T17.setTop (mkF m 230 #[.val (.int p1), .val (.long q2), .second, .val (.int n), .val (.int ch0), .val (.int ch1), .val (.int ch2), .val (.int ch3), .val (.int ch4), .val (.int ch5), .val (.int ch6), .val (.ref b8), .val (.ref b16), .unset, .unset, .unset] [(.int (0 : Int32))]))
                                    exact J230 _ _ _ X17 e17 N17 (by simp [bi, hc154, hc161, hc166, hc178, hc190, hc197, hc202, hc209, hc215, hc222])
                                · --
                                  refine Go.st (fun t k => XS.icmpYes X17.here hx rfl (pc0 := 215) (pc' := 229) rfl (hb hby at_215) rfl (XT.ii_le_t hc215) (by decide) (by decide) k) ?_
                                  show Go p.tables e below PP (T17.setTop (mkF m 229 #[.val (.int p1), .val (.long q2), .second, .val (.int n), .val (.int ch0), .val (.int ch1), .val (.int ch2), .val (.int ch3), .val (.int ch4), .val (.int ch5), .val (.int ch6), .val (.ref b8), .val (.ref b16), .unset, .unset, .unset] []))
                                  refine Go.st (fun t k => XS.iconst X17.here hx rfl (hb hby at_229) k) ?_
                                  show Go p.tables e below PP (T17.setTop (mkF m 230 #[.val (.int p1), .val (.long q2), .second, .val (.int n), .val (.int ch0), .val (.int ch1), .val (.int ch2), .val (.int ch3), .val (.int ch4), .val (.int ch5), .val (.int ch6), .val (.ref b8), .val (.ref b16), .unset, .unset, .unset] [(.int (0 : Int32))]))
                                  exact J230 _ _ _ X17 e17 N17 (by simp [bi, hc154, hc161, hc166, hc178, hc190, hc197, hc202, hc209, hc215])
                            · --
                              refine Go.st (fun t k => XS.icmpYes X17.here hx rfl (pc0 := 202) (pc' := 212) rfl (hb hby at_202) rfl (XT.ii_le_t hc202) (by decide) (by decide) k) ?_
                              show Go p.tables e below PP (T17.setTop (mkF m 212 #[.val (.int p1), .val (.long q2), .second, .val (.int n), .val (.int ch0), .val (.int ch1), .val (.int ch2), .val (.int ch3), .val (.int ch4), .val (.int ch5), .val (.int ch6), .val (.ref b8), .val (.ref b16), .unset, .unset, .unset] []))
                              refine Go.st (fun t k => XS.iloadN X17.here hx rfl (hb hby at_212) rfl k) ?_
                              show Go p.tables e below PP (T17.setTop (mkF m 213 #[.val (.int p1), .val (.long q2), .second, .val (.int n), .val (.int ch0), .val (.int ch1), .val (.int ch2), .val (.int ch3), .val (.int ch4), .val (.int ch5), .val (.int ch6), .val (.ref b8), .val (.ref b16), .unset, .unset, .unset] [(.int n)]))
                              refine Go.st (fun t k => XS.bipush X17.here hx rfl (hb hby at_213) k) ?_
                              show Go p.tables e below PP (T17.setTop (mkF m 215 #[.val (.int p1), .val (.long q2), .second, .val (.int n), .val (.int ch0), .val (.int ch1), .val (.int ch2), .val (.int ch3), .val (.int ch4), .val (.int ch5), .val (.int ch6), .val (.ref b8), .val (.ref b16), .unset, .unset, .unset] [(.int (6 : Int32)), (.int n)]))
                              by_cases hc215 : (6 : Int32) < n
                              · --
                                refine Go.st (fun t k => XS.icmpNo X17.here hx rfl (hb hby at_215) rfl (XT.ii_le_f hc215) k) ?_
                                show Go p.tables e below PP (T17.setTop (mkF m 218 #[.val (.int p1), .val (.long q2), .second, .val (.int n), .val (.int ch0), .val (.int ch1), .val (.int ch2), .val (.int ch3), .val (.int ch4), .val (.int ch5), .val (.int ch6), .val (.ref b8), .val (.ref b16), .unset, .unset, .unset] []))
                                refine Go.st (fun t k => XS.iload X17.here hx rfl (hb hby at_218) rfl k) ?_
                                show Go p.tables e below PP (T17.setTop (mkF m 220 #[.val (.int p1), .val (.long q2), .second, .val (.int n), .val (.int ch0), .val (.int ch1), .val (.int ch2), .val (.int ch3), .val (.int ch4), .val (.int ch5), .val (.int ch6), .val (.ref b8), .val (.ref b16), .unset, .unset, .unset] [(.int ch6)]))
                                refine Go.st (fun t k => XS.bipush X17.here hx rfl (hb hby at_220) k) ?_
                                show Go p.tables e below PP (T17.setTop (mkF m 222 #[.val (.int p1), .val (.long q2), .second, .val (.int n), .val (.int ch0), .val (.int ch1), .val (.int ch2), .val (.int ch3), .val (.int ch4), .val (.int ch5), .val (.int ch6), .val (.ref b8), .val (.ref b16), .unset, .unset, .unset] [(.int (64 : Int32)), (.int ch6)]))
                                by_cases hc222 : ch6 = (64 : Int32)
                                · --
                                  refine Go.st (fun t k => XS.icmpNo X17.here hx rfl (hb hby at_222) rfl (XT.ii_ne_f hc222) k) ?_
                                  show Go p.tables e below PP (T17.setTop (mkF m 225 #[.val (.int p1), .val (.long q2), .second, .val (.int n), .val (.int ch0), .val (.int ch1), .val (.int ch2), .val (.int ch3), .val (.int ch4), .val (.int ch5), .val (.int ch6), .val (.ref b8), .val (.ref b16), .unset, .unset, .unset] []))
                                  refine Go.st (fun t k => XS.iconst X17.here hx rfl (hb hby at_225) k) ?_
                                  show Go p.tables e below PP (T17.setTop (mkF m 226 #[.val (.int p1), .val (.long q2), .second, .val (.int n), .val (.int ch0), .val (.int ch1), .val (.int ch2), .val (.int ch3), .val (.int ch4), .val (.int ch5), .val (.int ch6), .val (.ref b8), .val (.ref b16), .unset, .unset, .unset] [(.int (1 : Int32))]))
                                  refine Go.st (fun t k => XS.goto X17.here hx rfl (pc0 := 226) (pc' := 230) rfl (hb hby at_226) (by decide) (by decide) k) ?_
                                  show Go p.tables e below PP (T17.setTop (mkF m 230 #[.val (.int p1), .val (.long q2), .second, .val (.int n), .val (.int ch0), .val (.int ch1), .val (.int ch2), .val (.int ch3), .val (.int ch4), .val (.int ch5), .val (.int ch6), .val (.ref b8), .val (.ref b16), .unset, .unset, .unset] [(.int (1 : Int32))]))
                                  exact J230 _ _ _ X17 e17 N17 (by simp [bi, hc154, hc161, hc166, hc178, hc190, hc197, hc202, hc215, hc222])
                                · --
                                  refine Go.st (fun t k => XS.icmpYes X17.here hx rfl (pc0 := 222) (pc' := 229) rfl (hb hby at_222) rfl (XT.ii_ne_t hc222) (by decide) (by decide) k) ?_
                                  show Go p.tables e below PP (T17.setTop (mkF m 229 #[.val (.int p1), .val (.long q2), .second, .val (.int n), .val (.int ch0), .val (.int ch1), .val (.int ch2), .val (.int ch3), .val (.int ch4), .val (.int ch5), .val (.int ch6), .val (.ref b8), .val (.ref b16), .unset, .unset, .unset] []))
                                  refine Go.st (fun t k => XS.iconst X17.here hx rfl (hb hby at_229) k) ?_
                                  show Go p.tables e below PP (T17.setTop (mkF m 230 #[.val (.int p1), .val (.long q2), .second, .val (.int n), .val (.int ch0), .val (.int ch1), .val (.int ch2), .val (.int ch3), .val (.int ch4), .val (.int ch5), .val (.int ch6), .val (.ref b8), .val (.ref b16), .unset, .unset, .unset] [(.int (0 : Int32))]))
                                  exact J230 _ _ _ X17 e17 N17 (by simp [bi, hc154, hc161, hc166, hc178, hc190, hc197, hc202, hc215, hc222])
                              · --
                                refine Go.st (fun t k => XS.icmpYes X17.here hx rfl (pc0 := 215) (pc' := 229) rfl (hb hby at_215) rfl (XT.ii_le_t hc215) (by decide) (by decide) k) ?_
                                show Go p.tables e below PP (T17.setTop (mkF m 229 #[.val (.int p1), .val (.long q2), .second, .val (.int n), .val (.int ch0), .val (.int ch1), .val (.int ch2), .val (.int ch3), .val (.int ch4), .val (.int ch5), .val (.int ch6), .val (.ref b8), .val (.ref b16), .unset, .unset, .unset] []))
                                refine Go.st (fun t k => XS.iconst X17.here hx rfl (hb hby at_229) k) ?_
                                show Go p.tables e below PP (T17.setTop (mkF m 230 #[.val (.int p1), .val (.long q2), .second, .val (.int n), .val (.int ch0), .val (.int ch1), .val (.int ch2), .val (.int ch3), .val (.int ch4), .val (.int ch5), .val (.int ch6), .val (.ref b8), .val (.ref b16), .unset, .unset, .unset] [(.int (0 : Int32))]))
                                exact J230 _ _ _ X17 e17 N17 (by simp [bi, hc154, hc161, hc166, hc178, hc190, hc197, hc202, hc215])
                        · --
                          refine Go.st (fun t k => XS.icmpYes X17.here hx rfl (pc0 := 190) (pc' := 200) rfl (hb hby at_190) rfl (XT.ii_le_t hc190) (by decide) (by decide) k) ?_
                          show Go p.tables e below PP (T17.setTop (mkF m 200 #[.val (.int p1), .val (.long q2), .second, .val (.int n), .val (.int ch0), .val (.int ch1), .val (.int ch2), .val (.int ch3), .val (.int ch4), .val (.int ch5), .val (.int ch6), .val (.ref b8), .val (.ref b16), .unset, .unset, .unset] []))
                          refine Go.st (fun t k => XS.iloadN X17.here hx rfl (hb hby at_200) rfl k) ?_
                          show Go p.tables e below PP (T17.setTop (mkF m 201 #[.val (.int p1), .val (.long q2), .second, .val (.int n), .val (.int ch0), .val (.int ch1), .val (.int ch2), .val (.int ch3), .val (.int ch4), .val (.int ch5), .val (.int ch6), .val (.ref b8), .val (.ref b16), .unset, .unset, .unset] [(.int n)]))
                          refine Go.st (fun t k => XS.iconst X17.here hx rfl (hb hby at_201) k) ?_
                          show Go p.tables e below PP (T17.setTop (mkF m 202 #[.val (.int p1), .val (.long q2), .second, .val (.int n), .val (.int ch0), .val (.int ch1), .val (.int ch2), .val (.int ch3), .val (.int ch4), .val (.int ch5), .val (.int ch6), .val (.ref b8), .val (.ref b16), .unset, .unset, .unset] [(.int (5 : Int32)), (.int n)]))
                          by_cases hc202 : (5 : Int32) < n
                          · --
                            refine Go.st (fun t k => XS.icmpNo X17.here hx rfl (hb hby at_202) rfl (XT.ii_le_f hc202) k) ?_
                            show Go p.tables e below PP (T17.setTop (mkF m 205 #[.val (.int p1), .val (.long q2), .second, .val (.int n), .val (.int ch0), .val (.int ch1), .val (.int ch2), .val (.int ch3), .val (.int ch4), .val (.int ch5), .val (.int ch6), .val (.ref b8), .val (.ref b16), .unset, .unset, .unset] []))
                            refine Go.st (fun t k => XS.iload X17.here hx rfl (hb hby at_205) rfl k) ?_
                            show Go p.tables e below PP (T17.setTop (mkF m 207 #[.val (.int p1), .val (.long q2), .second, .val (.int n), .val (.int ch0), .val (.int ch1), .val (.int ch2), .val (.int ch3), .val (.int ch4), .val (.int ch5), .val (.int ch6), .val (.ref b8), .val (.ref b16), .unset, .unset, .unset] [(.int ch5)]))
                            refine Go.st (fun t k => XS.bipush X17.here hx rfl (hb hby at_207) k) ?_
                            show Go p.tables e below PP (T17.setTop (mkF m 209 #[.val (.int p1), .val (.long q2), .second, .val (.int n), .val (.int ch0), .val (.int ch1), .val (.int ch2), .val (.int ch3), .val (.int ch4), .val (.int ch5), .val (.int ch6), .val (.ref b8), .val (.ref b16), .unset, .unset, .unset] [(.int (64 : Int32)), (.int ch5)]))
                            by_cases hc209 : ch5 = (64 : Int32)
                            · --
                              refine Go.st (fun t k => XS.icmpYes X17.here hx rfl (pc0 := 209) (pc' := 225) rfl (hb hby at_209) rfl (XT.ii_eq_t hc209) (by decide) (by decide) k) ?_
                              show Go p.tables e below PP (T17.setTop (mkF m 225 #[.val (.int p1), .val (.long q2), .second, .val (.int n), .val (.int ch0), .val (.int ch1), .val (.int ch2), .val (.int ch3), .val (.int ch4), .val (.int ch5), .val (.int ch6), .val (.ref b8), .val (.ref b16), .unset, .unset, .unset] []))
                              refine Go.st (fun t k => XS.iconst X17.here hx rfl (hb hby at_225) k) ?_
                              show Go p.tables e below PP (T17.setTop (mkF m 226 #[.val (.int p1), .val (.long q2), .second, .val (.int n), .val (.int ch0), .val (.int ch1), .val (.int ch2), .val (.int ch3), .val (.int ch4), .val (.int ch5), .val (.int ch6), .val (.ref b8), .val (.ref b16), .unset, .unset, .unset] [(.int (1 : Int32))]))
                              refine Go.st (fun t k => XS.goto X17.here hx rfl (pc0 := 226) (pc' := 230) rfl (hb hby at_226) (by decide) (by decide) k) ?_
                              show Go p.tables e below PP (T17.setTop (mkF m 230 #[.val (.int p1), .val (.long q2), .second, .val (.int n), .val (.int ch0), .val (.int ch1), .val (.int ch2), .val (.int ch3), .val (.int ch4), .val (.int ch5), .val (.int ch6), .val (.ref b8), .val (.ref b16), .unset, .unset, .unset] [(.int (1 : Int32))]))
                              exact J230 _ _ _ X17 e17 N17 (by simp [bi, hc154, hc161, hc166, hc178, hc190, hc202, hc209])
                            · --
                              refine Go.st (fun t k => XS.icmpNo X17.here hx rfl (hb hby at_209) rfl (XT.ii_eq_f hc209) k) ?_
                              show Go p.tables e below PP (T17.setTop (mkF m 212 #[.val (.int p1), .val (.long q2), .second, .val (.int n), .val (.int ch0), .val (.int ch1), .val (.int ch2), .val (.int ch3), .val (.int ch4), .val (.int ch5), .val (.int ch6), .val (.ref b8), .val (.ref b16), .unset, .unset, .unset] []))
                              refine Go.st (fun t k => XS.iloadN X17.here hx rfl (hb hby at_212) rfl k) ?_
                              show Go p.tables e below PP (T17.setTop (mkF m 213 #[.val (.int p1), .val (.long q2), .second, .val (.int n), .val (.int ch0), .val (.int ch1), .val (.int ch2), .val (.int ch3), .val (.int ch4), .val (.int ch5), .val (.int ch6), .val (.ref b8), .val (.ref b16), .unset, .unset, .unset] [(.int n)]))
                              refine Go.st (fun t k => XS.bipush X17.here hx rfl (hb hby at_213) k) ?_
                              show Go p.tables e below PP (T17.setTop (mkF m 215 #[.val (.int p1), .val (.long q2), .second, .val (.int n), .val (.int ch0), .val (.int ch1), .val (.int ch2), .val (.int ch3), .val (.int ch4), .val (.int ch5), .val (.int ch6), .val (.ref b8), .val (.ref b16), .unset, .unset, .unset] [(.int (6 : Int32)), (.int n)]))
                              by_cases hc215 : (6 : Int32) < n
                              · --
                                refine Go.st (fun t k => XS.icmpNo X17.here hx rfl (hb hby at_215) rfl (XT.ii_le_f hc215) k) ?_
                                show Go p.tables e below PP (T17.setTop (mkF m 218 #[.val (.int p1), .val (.long q2), .second, .val (.int n), .val (.int ch0), .val (.int ch1), .val (.int ch2), .val (.int ch3), .val (.int ch4), .val (.int ch5), .val (.int ch6), .val (.ref b8), .val (.ref b16), .unset, .unset, .unset] []))
                                refine Go.st (fun t k => XS.iload X17.here hx rfl (hb hby at_218) rfl k) ?_
                                show Go p.tables e below PP (T17.setTop (mkF m 220 #[.val (.int p1), .val (.long q2), .second, .val (.int n), .val (.int ch0), .val (.int ch1), .val (.int ch2), .val (.int ch3), .val (.int ch4), .val (.int ch5), .val (.int ch6), .val (.ref b8), .val (.ref b16), .unset, .unset, .unset] [(.int ch6)]))
                                refine Go.st (fun t k => XS.bipush X17.here hx rfl (hb hby at_220) k) ?_
                                show Go p.tables e below PP (T17.setTop (mkF m 222 #[.val (.int p1), .val (.long q2), .second, .val (.int n), .val (.int ch0), .val (.int ch1), .val (.int ch2), .val (.int ch3), .val (.int ch4), .val (.int ch5), .val (.int ch6), .val (.ref b8), .val (.ref b16), .unset, .unset, .unset] [(.int (64 : Int32)), (.int ch6)]))
                                by_cases hc222 : ch6 = (64 : Int32)
                                · --
                                  refine Go.st (fun t k => XS.icmpNo X17.here hx rfl (hb hby at_222) rfl (XT.ii_ne_f hc222) k) ?_
                                  show Go p.tables e below PP (T17.setTop (mkF m 225 #[.val (.int p1), .val (.long q2), .second, .val (.int n), .val (.int ch0), .val (.int ch1), .val (.int ch2), .val (.int ch3), .val (.int ch4), .val (.int ch5), .val (.int ch6), .val (.ref b8), .val (.ref b16), .unset, .unset, .unset] []))
                                  refine Go.st (fun t k => XS.iconst X17.here hx rfl (hb hby at_225) k) ?_
                                  show Go p.tables e below PP (T17.setTop (mkF m 226 #[.val (.int p1), .val (.long q2), .second, .val (.int n), .val (.int ch0), .val (.int ch1), .val (.int ch2), .val (.int ch3), .val (.int ch4), .val (.int ch5), .val (.int ch6), .val (.ref b8), .val (.ref b16), .unset, .unset, .unset] [(.int (1 : Int32))]))
                                  refine Go.st (fun t k => XS.goto X17.here hx rfl (pc0 := 226) (pc' := 230) rfl (hb hby at_226) (by decide) (by decide) k) ?_
                                  show Go p.tables e below PP (T17.setTop (mkF m 230 #[.val (.int p1), .val (.long q2), .second, .val (.int n), .val (.int ch0), .val (.int ch1), .val (.int ch2), .val (.int ch3), .val (.int ch4), .val (.int ch5), .val (.int ch6), .val (.ref b8), .val (.ref b16), .unset, .unset, .unset] [(.int (1 : Int32))]))
                                  exact J230 _ _ _ X17 e17 N17 (by simp [bi, hc154, hc161, hc166, hc178, hc190, hc202, hc209, hc215, hc222])
                                · --
                                  refine Go.st (fun t k => XS.icmpYes X17.here hx rfl (pc0 := 222) (pc' := 229) rfl (hb hby at_222) rfl (XT.ii_ne_t hc222) (by decide) (by decide) k) ?_
                                  show Go p.tables e below PP (T17.setTop (mkF m 229 #[.val (.int p1), .val (.long q2), .second, .val (.int n), .val (.int ch0), .val (.int ch1), .val (.int ch2), .val (.int ch3), .val (.int ch4), .val (.int ch5), .val (.int ch6), .val (.ref b8), .val (.ref b16), .unset, .unset, .unset] []))
                                  refine Go.st (fun t k => XS.iconst X17.here hx rfl (hb hby at_229) k) ?_
                                  show Go p.tables e below PP (T17.setTop (mkF m 230 #[.val (.int p1), .val (.long q2), .second, .val (.int n), .val (.int ch0), .val (.int ch1), .val (.int ch2), .val (.int ch3), .val (.int ch4), .val (.int ch5), .val (.int ch6), .val (.ref b8), .val (.ref b16), .unset, .unset, .unset] [(.int (0 : Int32))]))
                                  exact J230 _ _ _ X17 e17 N17 (by simp [bi, hc154, hc161, hc166, hc178, hc190, hc202, hc209, hc215, hc222])
                              · --
                                refine Go.st (fun t k => XS.icmpYes X17.here hx rfl (pc0 := 215) (pc' := 229) rfl (hb hby at_215) rfl (XT.ii_le_t hc215) (by decide) (by decide) k) ?_
                                show Go p.tables e below PP (T17.setTop (mkF m 229 #[.val (.int p1), .val (.long q2), .second, .val (.int n), .val (.int ch0), .val (.int ch1), .val (.int ch2), .val (.int ch3), .val (.int ch4), .val (.int ch5), .val (.int ch6), .val (.ref b8), .val (.ref b16), .unset, .unset, .unset] []))
                                refine Go.st (fun t k => XS.iconst X17.here hx rfl (hb hby at_229) k) ?_
                                show Go p.tables e below PP (T17.setTop (mkF m 230 #[.val (.int p1), .val (.long q2), .second, .val (.int n), .val (.int ch0), .val (.int ch1), .val (.int ch2), .val (.int ch3), .val (.int ch4), .val (.int ch5), .val (.int ch6), .val (.ref b8), .val (.ref b16), .unset, .unset, .unset] [(.int (0 : Int32))]))
                                exact J230 _ _ _ X17 e17 N17 (by simp [bi, hc154, hc161, hc166, hc178, hc190, hc202, hc209, hc215])
                          · --
                            refine Go.st (fun t k => XS.icmpYes X17.here hx rfl (pc0 := 202) (pc' := 212) rfl (hb hby at_202) rfl (XT.ii_le_t hc202) (by decide) (by decide) k) ?_
                            show Go p.tables e below PP (T17.setTop (mkF m 212 #[.val (.int p1), .val (.long q2), .second, .val (.int n), .val (.int ch0), .val (.int ch1), .val (.int ch2), .val (.int ch3), .val (.int ch4), .val (.int ch5), .val (.int ch6), .val (.ref b8), .val (.ref b16), .unset, .unset, .unset] []))
                            refine Go.st (fun t k => XS.iloadN X17.here hx rfl (hb hby at_212) rfl k) ?_
                            show Go p.tables e below PP (T17.setTop (mkF m 213 #[.val (.int p1), .val (.long q2), .second, .val (.int n), .val (.int ch0), .val (.int ch1), .val (.int ch2), .val (.int ch3), .val (.int ch4), .val (.int ch5), .val (.int ch6), .val (.ref b8), .val (.ref b16), .unset, .unset, .unset] [(.int n)]))
                            refine Go.st (fun t k => XS.bipush X17.here hx rfl (hb hby at_213) k) ?_
                            show Go p.tables e below PP (T17.setTop (mkF m 215 #[.val (.int p1), .val (.long q2), .second, .val (.int n), .val (.int ch0), .val (.int ch1), .val (.int ch2), .val (.int ch3), .val (.int ch4), .val (.int ch5), .val (.int ch6), .val (.ref b8), .val (.ref b16), .unset, .unset, .unset] [(.int (6 : Int32)), (.int n)]))
                            by_cases hc215 : (6 : Int32) < n
                            · --
                              refine Go.st (fun t k => XS.icmpNo X17.here hx rfl (hb hby at_215) rfl (XT.ii_le_f hc215) k) ?_
                              show Go p.tables e below PP (T17.setTop (mkF m 218 #[.val (.int p1), .val (.long q2), .second, .val (.int n), .val (.int ch0), .val (.int ch1), .val (.int ch2), .val (.int ch3), .val (.int ch4), .val (.int ch5), .val (.int ch6), .val (.ref b8), .val (.ref b16), .unset, .unset, .unset] []))
                              refine Go.st (fun t k => XS.iload X17.here hx rfl (hb hby at_218) rfl k) ?_
                              show Go p.tables e below PP (T17.setTop (mkF m 220 #[.val (.int p1), .val (.long q2), .second, .val (.int n), .val (.int ch0), .val (.int ch1), .val (.int ch2), .val (.int ch3), .val (.int ch4), .val (.int ch5), .val (.int ch6), .val (.ref b8), .val (.ref b16), .unset, .unset, .unset] [(.int ch6)]))
                              refine Go.st (fun t k => XS.bipush X17.here hx rfl (hb hby at_220) k) ?_
                              show Go p.tables e below PP (T17.setTop (mkF m 222 #[.val (.int p1), .val (.long q2), .second, .val (.int n), .val (.int ch0), .val (.int ch1), .val (.int ch2), .val (.int ch3), .val (.int ch4), .val (.int ch5), .val (.int ch6), .val (.ref b8), .val (.ref b16), .unset, .unset, .unset] [(.int (64 : Int32)), (.int ch6)]))
                              by_cases hc222 : ch6 = (64 : Int32)
                              · --
                                refine Go.st (fun t k => XS.icmpNo X17.here hx rfl (hb hby at_222) rfl (XT.ii_ne_f hc222) k) ?_
                                show Go p.tables e below PP (T17.setTop (mkF m 225 #[.val (.int p1), .val (.long q2), .second, .val (.int n), .val (.int ch0), .val (.int ch1), .val (.int ch2), .val (.int ch3), .val (.int ch4), .val (.int ch5), .val (.int ch6), .val (.ref b8), .val (.ref b16), .unset, .unset, .unset] []))
                                refine Go.st (fun t k => XS.iconst X17.here hx rfl (hb hby at_225) k) ?_
                                show Go p.tables e below PP (T17.setTop (mkF m 226 #[.val (.int p1), .val (.long q2), .second, .val (.int n), .val (.int ch0), .val (.int ch1), .val (.int ch2), .val (.int ch3), .val (.int ch4), .val (.int ch5), .val (.int ch6), .val (.ref b8), .val (.ref b16), .unset, .unset, .unset] [(.int (1 : Int32))]))
                                refine Go.st (fun t k => XS.goto X17.here hx rfl (pc0 := 226) (pc' := 230) rfl (hb hby at_226) (by decide) (by decide) k) ?_
                                show Go p.tables e below PP (T17.setTop (mkF m 230 #[.val (.int p1), .val (.long q2), .second, .val (.int n), .val (.int ch0), .val (.int ch1), .val (.int ch2), .val (.int ch3), .val (.int ch4), .val (.int ch5), .val (.int ch6), .val (.ref b8), .val (.ref b16), .unset, .unset, .unset] [(.int (1 : Int32))]))
                                exact J230 _ _ _ X17 e17 N17 (by simp [bi, hc154, hc161, hc166, hc178, hc190, hc202, hc215, hc222])
                              · --
                                refine Go.st (fun t k => XS.icmpYes X17.here hx rfl (pc0 := 222) (pc' := 229) rfl (hb hby at_222) rfl (XT.ii_ne_t hc222) (by decide) (by decide) k) ?_
                                show Go p.tables e below PP (T17.setTop (mkF m 229 #[.val (.int p1), .val (.long q2), .second, .val (.int n), .val (.int ch0), .val (.int ch1), .val (.int ch2), .val (.int ch3), .val (.int ch4), .val (.int ch5), .val (.int ch6), .val (.ref b8), .val (.ref b16), .unset, .unset, .unset] []))
                                refine Go.st (fun t k => XS.iconst X17.here hx rfl (hb hby at_229) k) ?_
                                show Go p.tables e below PP (T17.setTop (mkF m 230 #[.val (.int p1), .val (.long q2), .second, .val (.int n), .val (.int ch0), .val (.int ch1), .val (.int ch2), .val (.int ch3), .val (.int ch4), .val (.int ch5), .val (.int ch6), .val (.ref b8), .val (.ref b16), .unset, .unset, .unset] [(.int (0 : Int32))]))
                                exact J230 _ _ _ X17 e17 N17 (by simp [bi, hc154, hc161, hc166, hc178, hc190, hc202, hc215, hc222])
                            · --
                              refine Go.st (fun t k => XS.icmpYes X17.here hx rfl (pc0 := 215) (pc' := 229) rfl (hb hby at_215) rfl (XT.ii_le_t hc215) (by decide) (by decide) k) ?_
                              show Go p.tables e below PP (T17.setTop (mkF m 229 #[.val (.int p1), .val (.long q2), .second, .val (.int n), .val (.int ch0), .val (.int ch1), .val (.int ch2), .val (.int ch3), .val (.int ch4), .val (.int ch5), .val (.int ch6), .val (.ref b8), .val (.ref b16), .unset, .unset, .unset] []))
                              refine Go.st (fun t k => XS.iconst X17.here hx rfl (hb hby at_229) k) ?_
                              show Go p.tables e below PP (T17.setTop (mkF m 230 #[.val (.int p1), .val (.long q2), .second, .val (.int n), .val (.int ch0), .val (.int ch1), .val (.int ch2), .val (.int ch3), .val (.int ch4), .val (.int ch5), .val (.int ch6), .val (.ref b8), .val (.ref b16), .unset, .unset, .unset] [(.int (0 : Int32))]))
                              exact J230 _ _ _ X17 e17 N17 (by simp [bi, hc154, hc161, hc166, hc178, hc190, hc202, hc215])
                · --
                  refine Go.st (fun t k => XS.icmpYes X17.here hx rfl (pc0 := 154) (pc' := 164) rfl (hb hby at_154) rfl (XT.ii_le_t hc154) (by decide) (by decide) k) ?_
                  show Go p.tables e below PP (T17.setTop (mkF m 164 #[.val (.int p1), .val (.long q2), .second, .val (.int n), .val (.int ch0), .val (.int ch1), .val (.int ch2), .val (.int ch3), .val (.int ch4), .val (.int ch5), .val (.int ch6), .val (.ref b8), .val (.ref b16), .unset, .unset, .unset] []))
                  refine Go.st (fun t k => XS.iloadN X17.here hx rfl (hb hby at_164) rfl k) ?_
                  show Go p.tables e below PP (T17.setTop (mkF m 165 #[.val (.int p1), .val (.long q2), .second, .val (.int n), .val (.int ch0), .val (.int ch1), .val (.int ch2), .val (.int ch3), .val (.int ch4), .val (.int ch5), .val (.int ch6), .val (.ref b8), .val (.ref b16), .unset, .unset, .unset] [(.int n)]))
                  refine Go.st (fun t k => XS.iconst X17.here hx rfl (hb hby at_165) k) ?_
                  show Go p.tables e below PP (T17.setTop (mkF m 166 #[.val (.int p1), .val (.long q2), .second, .val (.int n), .val (.int ch0), .val (.int ch1), .val (.int ch2), .val (.int ch3), .val (.int ch4), .val (.int ch5), .val (.int ch6), .val (.ref b8), .val (.ref b16), .unset, .unset, .unset] [(.int (2 : Int32)), (.int n)]))
                  by_cases hc166 : (2 : Int32) < n
                  · --
                    refine Go.st (fun t k => XS.icmpNo X17.here hx rfl (hb hby at_166) rfl (XT.ii_le_f hc166) k) ?_
                    show Go p.tables e below PP (T17.setTop (mkF m 169 #[.val (.int p1), .val (.long q2), .second, .val (.int n), .val (.int ch0), .val (.int ch1), .val (.int ch2), .val (.int ch3), .val (.int ch4), .val (.int ch5), .val (.int ch6), .val (.ref b8), .val (.ref b16), .unset, .unset, .unset] []))
                    refine Go.st (fun t k => XS.iload X17.here hx rfl (hb hby at_169) rfl k) ?_
                    show Go p.tables e below PP (T17.setTop (mkF m 171 #[.val (.int p1), .val (.long q2), .second, .val (.int n), .val (.int ch0), .val (.int ch1), .val (.int ch2), .val (.int ch3), .val (.int ch4), .val (.int ch5), .val (.int ch6), .val (.ref b8), .val (.ref b16), .unset, .unset, .unset] [(.int ch2)]))
                    refine Go.st (fun t k => XS.bipush X17.here hx rfl (hb hby at_171) k) ?_
                    show Go p.tables e below PP (T17.setTop (mkF m 173 #[.val (.int p1), .val (.long q2), .second, .val (.int n), .val (.int ch0), .val (.int ch1), .val (.int ch2), .val (.int ch3), .val (.int ch4), .val (.int ch5), .val (.int ch6), .val (.ref b8), .val (.ref b16), .unset, .unset, .unset] [(.int (64 : Int32)), (.int ch2)]))
                    by_cases hc173 : ch2 = (64 : Int32)
                    · --
                      refine Go.st (fun t k => XS.icmpYes X17.here hx rfl (pc0 := 173) (pc' := 225) rfl (hb hby at_173) rfl (XT.ii_eq_t hc173) (by decide) (by decide) k) ?_
                      show Go p.tables e below PP (T17.setTop (mkF m 225 #[.val (.int p1), .val (.long q2), .second, .val (.int n), .val (.int ch0), .val (.int ch1), .val (.int ch2), .val (.int ch3), .val (.int ch4), .val (.int ch5), .val (.int ch6), .val (.ref b8), .val (.ref b16), .unset, .unset, .unset] []))
                      refine Go.st (fun t k => XS.iconst X17.here hx rfl (hb hby at_225) k) ?_
                      show Go p.tables e below PP (T17.setTop (mkF m 226 #[.val (.int p1), .val (.long q2), .second, .val (.int n), .val (.int ch0), .val (.int ch1), .val (.int ch2), .val (.int ch3), .val (.int ch4), .val (.int ch5), .val (.int ch6), .val (.ref b8), .val (.ref b16), .unset, .unset, .unset] [(.int (1 : Int32))]))
                      refine Go.st (fun t k => XS.goto X17.here hx rfl (pc0 := 226) (pc' := 230) rfl (hb hby at_226) (by decide) (by decide) k) ?_
                      show Go p.tables e below PP (T17.setTop (mkF m 230 #[.val (.int p1), .val (.long q2), .second, .val (.int n), .val (.int ch0), .val (.int ch1), .val (.int ch2), .val (.int ch3), .val (.int ch4), .val (.int ch5), .val (.int ch6), .val (.ref b8), .val (.ref b16), .unset, .unset, .unset] [(.int (1 : Int32))]))
                      exact J230 _ _ _ X17 e17 N17 (by simp [bi, hc154, hc166, hc173])
                    · --
                      refine Go.st (fun t k => XS.icmpNo X17.here hx rfl (hb hby at_173) rfl (XT.ii_eq_f hc173) k) ?_
                      show Go p.tables e below PP (T17.setTop (mkF m 176 #[.val (.int p1), .val (.long q2), .second, .val (.int n), .val (.int ch0), .val (.int ch1), .val (.int ch2), .val (.int ch3), .val (.int ch4), .val (.int ch5), .val (.int ch6), .val (.ref b8), .val (.ref b16), .unset, .unset, .unset] []))
                      refine Go.st (fun t k => XS.iloadN X17.here hx rfl (hb hby at_176) rfl k) ?_
                      show Go p.tables e below PP (T17.setTop (mkF m 177 #[.val (.int p1), .val (.long q2), .second, .val (.int n), .val (.int ch0), .val (.int ch1), .val (.int ch2), .val (.int ch3), .val (.int ch4), .val (.int ch5), .val (.int ch6), .val (.ref b8), .val (.ref b16), .unset, .unset, .unset] [(.int n)]))
                      refine Go.st (fun t k => XS.iconst X17.here hx rfl (hb hby at_177) k) ?_
                      show Go p.tables e below PP (T17.setTop (mkF m 178 #[.val (.int p1), .val (.long q2), .second, .val (.int n), .val (.int ch0), .val (.int ch1), .val (.int ch2), .val (.int ch3), .val (.int ch4), .val (.int ch5), .val (.int ch6), .val (.ref b8), .val (.ref b16), .unset, .unset, .unset] [(.int (3 : Int32)), (.int n)]))
                      by_cases hc178 : (3 : Int32) < n
                      · --
                        refine Go.st (fun t k => XS.icmpNo X17.here hx rfl (hb hby at_178) rfl (XT.ii_le_f hc178) k) ?_
                        show Go p.tables e below PP (T17.setTop (mkF m 181 #[.val (.int p1), .val (.long q2), .second, .val (.int n), .val (.int ch0), .val (.int ch1), .val (.int ch2), .val (.int ch3), .val (.int ch4), .val (.int ch5), .val (.int ch6), .val (.ref b8), .val (.ref b16), .unset, .unset, .unset] []))
                        refine Go.st (fun t k => XS.iload X17.here hx rfl (hb hby at_181) rfl k) ?_
                        show Go p.tables e below PP (T17.setTop (mkF m 183 #[.val (.int p1), .val (.long q2), .second, .val (.int n), .val (.int ch0), .val (.int ch1), .val (.int ch2), .val (.int ch3), .val (.int ch4), .val (.int ch5), .val (.int ch6), .val (.ref b8), .val (.ref b16), .unset, .unset, .unset] [(.int ch3)]))
                        refine Go.st (fun t k => XS.bipush X17.here hx rfl (hb hby at_183) k) ?_
                        show Go p.tables e below PP (T17.setTop (mkF m 185 #[.val (.int p1), .val (.long q2), .second, .val (.int n), .val (.int ch0), .val (.int ch1), .val (.int ch2), .val (.int ch3), .val (.int ch4), .val (.int ch5), .val (.int ch6), .val (.ref b8), .val (.ref b16), .unset, .unset, .unset] [(.int (64 : Int32)), (.int ch3)]))
                        by_cases hc185 : ch3 = (64 : Int32)
                        · --
                          refine Go.st (fun t k => XS.icmpYes X17.here hx rfl (pc0 := 185) (pc' := 225) rfl (hb hby at_185) rfl (XT.ii_eq_t hc185) (by decide) (by decide) k) ?_
                          show Go p.tables e below PP (T17.setTop (mkF m 225 #[.val (.int p1), .val (.long q2), .second, .val (.int n), .val (.int ch0), .val (.int ch1), .val (.int ch2), .val (.int ch3), .val (.int ch4), .val (.int ch5), .val (.int ch6), .val (.ref b8), .val (.ref b16), .unset, .unset, .unset] []))
                          refine Go.st (fun t k => XS.iconst X17.here hx rfl (hb hby at_225) k) ?_
                          show Go p.tables e below PP (T17.setTop (mkF m 226 #[.val (.int p1), .val (.long q2), .second, .val (.int n), .val (.int ch0), .val (.int ch1), .val (.int ch2), .val (.int ch3), .val (.int ch4), .val (.int ch5), .val (.int ch6), .val (.ref b8), .val (.ref b16), .unset, .unset, .unset] [(.int (1 : Int32))]))
                          refine Go.st (fun t k => XS.goto X17.here hx rfl (pc0 := 226) (pc' := 230) rfl (hb hby at_226) (by decide) (by decide) k) ?_
                          show Go p.tables e below PP (T17.setTop (mkF m 230 #[.val (.int p1), .val (.long q2), .second, .val (.int n), .val (.int ch0), .val (.int ch1), .val (.int ch2), .val (.int ch3), .val (.int ch4), .val (.int ch5), .val (.int ch6), .val (.ref b8), .val (.ref b16), .unset, .unset, .unset] [(.int (1 : Int32))]))
                          exact J230 _ _ _ X17 e17 N17 (by simp [bi, hc154, hc166, hc173, hc178, hc185])
                        · --
                          refine Go.st (fun t k => XS.icmpNo X17.here hx rfl (hb hby at_185) rfl (XT.ii_eq_f hc185) k) ?_
                          show Go p.tables e below PP (T17.setTop (mkF m 188 #[.val (.int p1), .val (.long q2), .second, .val (.int n), .val (.int ch0), .val (.int ch1), .val (.int ch2), .val (.int ch3), .val (.int ch4), .val (.int ch5), .val (.int ch6), .val (.ref b8), .val (.ref b16), .unset, .unset, .unset] []))
                          refine Go.st (fun t k => XS.iloadN X17.here hx rfl (hb hby at_188) rfl k) ?_
                          show Go p.tables e below PP (T17.setTop (mkF m 189 #[.val (.int p1), .val (.long q2), .second, .val (.int n), .val (.int ch0), .val (.int ch1), .val (.int ch2), .val (.int ch3), .val (.int ch4), .val (.int ch5), .val (.int ch6), .val (.ref b8), .val (.ref b16), .unset, .unset, .unset] [(.int n)]))
                          refine Go.st (fun t k => XS.iconst X17.here hx rfl (hb hby at_189) k) ?_
                          show Go p.tables e below PP (T17.setTop (mkF m 190 #[.val (.int p1), .val (.long q2), .second, .val (.int n), .val (.int ch0), .val (.int ch1), .val (.int ch2), .val (.int ch3), .val (.int ch4), .val (.int ch5), .val (.int ch6), .val (.ref b8), .val (.ref b16), .unset, .unset, .unset] [(.int (4 : Int32)), (.int n)]))
                          by_cases hc190 : (4 : Int32) < n
                          · --
                            refine Go.st (fun t k => XS.icmpNo X17.here hx rfl (hb hby at_190) rfl (XT.ii_le_f hc190) k) ?_
                            show Go p.tables e below PP (T17.setTop (mkF m 193 #[.val (.int p1), .val (.long q2), .second, .val (.int n), .val (.int ch0), .val (.int ch1), .val (.int ch2), .val (.int ch3), .val (.int ch4), .val (.int ch5), .val (.int ch6), .val (.ref b8), .val (.ref b16), .unset, .unset, .unset] []))
                            refine Go.st (fun t k => XS.iload X17.here hx rfl (hb hby at_193) rfl k) ?_
                            show Go p.tables e below PP (T17.setTop (mkF m 195 #[.val (.int p1), .val (.long q2), .second, .val (.int n), .val (.int ch0), .val (.int ch1), .val (.int ch2), .val (.int ch3), .val (.int ch4), .val (.int ch5), .val (.int ch6), .val (.ref b8), .val (.ref b16), .unset, .unset, .unset] [(.int ch4)]))
                            refine Go.st (fun t k => XS.bipush X17.here hx rfl (hb hby at_195) k) ?_
                            show Go p.tables e below PP (T17.setTop (mkF m 197 #[.val (.int p1), .val (.long q2), .second, .val (.int n), .val (.int ch0), .val (.int ch1), .val (.int ch2), .val (.int ch3), .val (.int ch4), .val (.int ch5), .val (.int ch6), .val (.ref b8), .val (.ref b16), .unset, .unset, .unset] [(.int (64 : Int32)), (.int ch4)]))
                            by_cases hc197 : ch4 = (64 : Int32)
                            · --
                              refine Go.st (fun t k => XS.icmpYes X17.here hx rfl (pc0 := 197) (pc' := 225) rfl (hb hby at_197) rfl (XT.ii_eq_t hc197) (by decide) (by decide) k) ?_
                              show Go p.tables e below PP (T17.setTop (mkF m 225 #[.val (.int p1), .val (.long q2), .second, .val (.int n), .val (.int ch0), .val (.int ch1), .val (.int ch2), .val (.int ch3), .val (.int ch4), .val (.int ch5), .val (.int ch6), .val (.ref b8), .val (.ref b16), .unset, .unset, .unset] []))
                              refine Go.st (fun t k => XS.iconst X17.here hx rfl (hb hby at_225) k) ?_
                              show Go p.tables e below PP (T17.setTop (mkF m 226 #[.val (.int p1), .val (.long q2), .second, .val (.int n), .val (.int ch0), .val (.int ch1), .val (.int ch2), .val (.int ch3), .val (.int ch4), .val (.int ch5), .val (.int ch6), .val (.ref b8), .val (.ref b16), .unset, .unset, .unset] [(.int (1 : Int32))]))
                              refine Go.st (fun t k => XS.goto X17.here hx rfl (pc0 := 226) (pc' := 230) rfl (hb hby at_226) (by decide) (by decide) k) ?_
                              show Go p.tables e below PP (T17.setTop (mkF m 230 #[.val (.int p1), .val (.long q2), .second, .val (.int n), .val (.int ch0), .val (.int ch1), .val (.int ch2), .val (.int ch3), .val (.int ch4), .val (.int ch5), .val (.int ch6), .val (.ref b8), .val (.ref b16), .unset, .unset, .unset] [(.int (1 : Int32))]))
                              exact J230 _ _ _ X17 e17 N17 (by simp [bi, hc154, hc166, hc173, hc178, hc185, hc190, hc197])
                            · --
                              refine Go.st (fun t k => XS.icmpNo X17.here hx rfl (hb hby at_197) rfl (XT.ii_eq_f hc197) k) ?_
                              show Go p.tables e below PP (T17.setTop (mkF m 200 #[.val (.int p1), .val (.long q2), .second, .val (.int n), .val (.int ch0), .val (.int ch1), .val (.int ch2), .val (.int ch3), .val (.int ch4), .val (.int ch5), .val (.int ch6), .val (.ref b8), .val (.ref b16), .unset, .unset, .unset] []))
                              refine Go.st (fun t k => XS.iloadN X17.here hx rfl (hb hby at_200) rfl k) ?_
                              show Go p.tables e below PP (T17.setTop (mkF m 201 #[.val (.int p1), .val (.long q2), .second, .val (.int n), .val (.int ch0), .val (.int ch1), .val (.int ch2), .val (.int ch3), .val (.int ch4), .val (.int ch5), .val (.int ch6), .val (.ref b8), .val (.ref b16), .unset, .unset, .unset] [(.int n)]))
                              refine Go.st (fun t k => XS.iconst X17.here hx rfl (hb hby at_201) k) ?_
                              show Go p.tables e below PP (T17.setTop (mkF m 202 #[.val (.int p1), .val (.long q2), .second, .val (.int n), .val (.int ch0), .val (.int ch1), .val (.int ch2), .val (.int ch3), .val (.int ch4), .val (.int ch5), .val (.int ch6), .val (.ref b8), .val (.ref b16), .unset, .unset, .unset] [(.int (5 : Int32)), (.int n)]))
                              by_cases hc202 : (5 : Int32) < n
                              · --
                                refine Go.st (fun t k => XS.icmpNo X17.here hx rfl (hb hby at_202) rfl (XT.ii_le_f hc202) k) ?_
                                show Go p.tables e below PP (T17.setTop (mkF m 205 #[.val (.int p1), .val (.long q2), .second, .val (.int n), .val (.int ch0), .val (.int ch1), .val (.int ch2), .val (.int ch3), .val (.int ch4), .val (.int ch5), .val (.int ch6), .val (.ref b8), .val (.ref b16), .unset, .unset, .unset] []))
                                refine Go.st (fun t k => XS.iload X17.here hx rfl (hb hby at_205) rfl k) ?_
                                show Go p.tables e below PP (T17.setTop (mkF m 207 #[.val (.int p1), .val (.long q2), .second, .val (.int n), .val (.int ch0), .val (.int ch1), .val (.int ch2), .val (.int ch3), .val (.int ch4), .val (.int ch5), .val (.int ch6), .val (.ref b8), .val (.ref b16), .unset, .unset, .unset] [(.int ch5)]))
                                refine Go.st (fun t k => XS.bipush X17.here hx rfl (hb hby at_207) k) ?_
                                show Go p.tables e below PP (T17.setTop (mkF m 209 #[.val (.int p1), .val (.long q2), .second, .val (.int n), .val (.int ch0), .val (.int ch1), .val (.int ch2), .val (.int ch3), .val (.int ch4), .val (.int ch5), .val (.int ch6), .val (.ref b8), .val (.ref b16), .unset, .unset, .unset] [(.int (64 : Int32)), (.int ch5)]))
                                by_cases hc209 : ch5 = (64 : Int32)
                                · --
                                  refine Go.st (fun t k => XS.icmpYes X17.here hx rfl (pc0 := 209) (pc' := 225) rfl (hb hby at_209) rfl (XT.ii_eq_t hc209) (by decide) (by decide) k) ?_
                                  show Go p.tables e below PP (T17.setTop (mkF m 225 #[.val (.int p1), .val (.long q2), .second, .val (.int n), .val (.int ch0), .val (.int ch1), .val (.int ch2), .val (.int ch3), .val (.int ch4), .val (.int ch5), .val (.int ch6), .val (.ref b8), .val (.ref b16), .unset, .unset, .unset] []))
                                  refine Go.st (fun t k => XS.iconst X17.here hx rfl (hb hby at_225) k) ?_
                                  show Go p.tables e below PP (T17.setTop (mkF m 226 #[.val (.int p1), .val (.long q2), .second, .val (.int n), .val (.int ch0), .val (.int ch1), .val (.int ch2), .val (.int ch3), .val (.int ch4), .val (.int ch5), .val (.int ch6), .val (.ref b8), .val (.ref b16), .unset, .unset, .unset] [(.int (1 : Int32))]))
                                  refine Go.st (fun t k => XS.goto X17.here hx rfl (pc0 := 226) (pc' := 230) rfl (hb hby at_226) (by decide) (by decide) k) ?_
                                  show Go p.tables e below PP (T17.setTop (mkF m 230 #[.val (.int p1), .val (.long q2), .second, .val (.int n), .val (.int ch0), .val (.int ch1), .val (.int ch2), .val (.int ch3), .val (.int ch4), .val (.int ch5), .val (.int ch6), .val (.ref b8), .val (.ref b16), .unset, .unset, .unset] [(.int (1 : Int32))]))
                                  exact J230 _ _ _ X17 e17 N17 (by simp [bi, hc154, hc166, hc173, hc178, hc185, hc190, hc197, hc202, hc209])
                                · --
                                  refine Go.st (fun t k => XS.icmpNo X17.here hx rfl (hb hby at_209) rfl (XT.ii_eq_f hc209) k) ?_
                                  show Go p.tables e below PP (T17.setTop (mkF m 212 #[.val (.int p1), .val (.long q2), .second, .val (.int n), .val (.int ch0), .val (.int ch1), .val (.int ch2), .val (.int ch3), .val (.int ch4), .val (.int ch5), .val (.int ch6), .val (.ref b8), .val (.ref b16), .unset, .unset, .unset] []))
                                  refine Go.st (fun t k => XS.iloadN X17.here hx rfl (hb hby at_212) rfl k) ?_
                                  show Go p.tables e below PP (T17.setTop (mkF m 213 #[.val (.int p1), .val (.long q2), .second, .val (.int n), .val (.int ch0), .val (.int ch1), .val (.int ch2), .val (.int ch3), .val (.int ch4), .val (.int ch5), .val (.int ch6), .val (.ref b8), .val (.ref b16), .unset, .unset, .unset] [(.int n)]))
                                  refine Go.st (fun t k => XS.bipush X17.here hx rfl (hb hby at_213) k) ?_
                                  show Go p.tables e below PP (T17.setTop (mkF m 215 #[.val (.int p1), .val (.long q2), .second, .val (.int n), .val (.int ch0), .val (.int ch1), .val (.int ch2), .val (.int ch3), .val (.int ch4), .val (.int ch5), .val (.int ch6), .val (.ref b8), .val (.ref b16), .unset, .unset, .unset] [(.int (6 : Int32)), (.int n)]))
                                  by_cases hc215 : (6 : Int32) < n
                                  · --
                                    refine Go.st (fun t k => XS.icmpNo X17.here hx rfl (hb hby at_215) rfl (XT.ii_le_f hc215) k) ?_
                                    show Go p.tables e below PP (T17.setTop (mkF m 218 #[.val (.int p1), .val (.long q2), .second, .val (.int n), .val (.int ch0), .val (.int ch1), .val (.int ch2), .val (.int ch3), .val (.int ch4), .val (.int ch5), .val (.int ch6), .val (.ref b8), .val (.ref b16), .unset, .unset, .unset] []))
                                    refine Go.st (fun t k => XS.iload X17.here hx rfl (hb hby at_218) rfl k) ?_
                                    show Go p.tables e below PP (T17.setTop (mkF m 220 #[.val (.int p1), .val (.long q2), .second, .val (.int n), .val (.int ch0), .val (.int ch1), .val (.int ch2), .val (.int ch3), .val (.int ch4), .val (.int ch5), .val (.int ch6), .val (.ref b8), .val (.ref b16), .unset, .unset, .unset] [(.int ch6)]))
                                    refine Go.st (fun t k => XS.bipush X17.here hx rfl (hb hby at_220) k) ?_
                                    show Go p.tables e below PP (T17.setTop (mkF m 222 #[.val (.int p1), .val (.long q2), .second, .val (.int n), .val (.int ch0), .val (.int ch1), .val (.int ch2), .val (.int ch3), .val (.int ch4), .val (.int ch5), .val (.int ch6), .val (.ref b8), .val (.ref b16), .unset, .unset, .unset] [(.int (64 : Int32)), (.int ch6)]))
                                    by_cases hc222 : ch6 = (64 : Int32)
                                    · --
                                      refine Go.st (fun t k => XS.icmpNo X17.here hx rfl (hb hby at_222) rfl (XT.ii_ne_f hc222) k) ?_
                                      show Go p.tables e below PP (T17.setTop (mkF m 225 #[.val (.int p1), .val (.long q2), .second, .val (.int n), .val (.int ch0), .val (.int ch1), .val (.int ch2), .val (.int ch3), .val (.int ch4), .val (.int ch5), .val (.int ch6), .val (.ref b8), .val (.ref b16), .unset, .unset, .unset] []))
                                      refine Go.st (fun t k => XS.iconst X17.here hx rfl (hb hby at_225) k) ?_
                                      show Go p.tables e below PP (T17.setTop (mkF m 226 #[.val (.int p1), .val (.long q2), .second, .val (.int n), .val (.int ch0), .val (.int ch1), .val (.int ch2), .val (.int ch3), .val (.int ch4), .val (.int ch5), .val (.int ch6), .val (.ref b8), .val (.ref b16), .unset, .unset, .unset] [(.int (1 : Int32))]))
                                      refine Go.st (fun t k => XS.goto X17.here hx rfl (pc0 := 226) (pc' := 230) rfl (hb hby at_226) (by decide) (by decide) k) ?_
                                      show Go p.tables e below PP (T17.setTop (mkF m 230 #[.val (.int p1), .val (.long q2), .second, .val (.int n), .val (.int ch0), .val (.int ch1), .val (.int ch2), .val (.int ch3), .val (.int ch4), .val (.int ch5), .val (.int ch6), .val (.ref b8), .val (.ref b16), .unset, .unset, .unset] [(.int (1 : Int32))]))
                                      exact J230 _ _ _ X17 e17 N17 (by simp [bi, hc154, hc166, hc173, hc178, hc185, hc190, hc197, hc202, hc209, hc215, hc222])
                                    · --
                                      refine Go.st (fun t k => XS.icmpYes X17.here hx rfl (pc0 := 222) (pc' := 229) rfl (hb hby at_222) rfl (XT.ii_ne_t hc222) (by decide) (by decide) k) ?_
                                      show Go p.tables e below PP (T17.setTop (mkF m 229 #[.val (.int p1), .val (.long q2), .second, .val (.int n), .val (.int ch0), .val (.int ch1), .val (.int ch2), .val (.int ch3), .val (.int ch4), .val (.int ch5), .val (.int ch6), .val (.ref b8), .val (.ref b16), .unset, .unset, .unset] []))
                                      refine Go.st (fun t k => XS.iconst X17.here hx rfl (hb hby at_229) k) ?_
                                      show Go p.tables e below PP (T17.setTop (mkF m 230 #[.val (.int p1), .val (.long q2), .second, .val (.int n), .val (.int ch0), .val (.int ch1), .val (.int ch2), .val (.int ch3), .val (.int ch4), .val (.int ch5), .val (.int ch6), .val (.ref b8), .val (.ref b16), .unset, .unset, .unset] [(.int (0 : Int32))]))
                                      exact J230 _ _ _ X17 e17 N17 (by simp [bi, hc154, hc166, hc173, hc178, hc185, hc190, hc197, hc202, hc209, hc215, hc222])
                                  · --
                                    refine Go.st (fun t k => XS.icmpYes X17.here hx rfl (pc0 := 215) (pc' := 229) rfl (hb hby at_215) rfl (XT.ii_le_t hc215) (by decide) (by decide) k) ?_
                                    show Go p.tables e below PP (T17.setTop (mkF m 229 #[.val (.int p1), .val (.long q2), .second, .val (.int n), .val (.int ch0), .val (.int ch1), .val (.int ch2), .val (.int ch3), .val (.int ch4), .val (.int ch5), .val (.int ch6), .val (.ref b8), .val (.ref b16), .unset, .unset, .unset] []))
                                    refine Go.st (fun t k => XS.iconst X17.here hx rfl (hb hby at_229) k) ?_
                                    show Go p.tables e below PP (T17.setTop (mkF m 230 #[.val (.int p1), .val (.long q2), .second, .val (.int n), .val (.int ch0), .val (.int ch1), .val (.int ch2), .val (.int ch3), .val (.int ch4), .val (.int ch5), .val (.int ch6), .val (.ref b8), .val (.ref b16), .unset, .unset, .unset] [(.int (0 : Int32))]))
                                    exact J230 _ _ _ X17 e17 N17 (by simp [bi, hc154, hc166, hc173, hc178, hc185, hc190, hc197, hc202, hc209, hc215])
                              · --
                                refine Go.st (fun t k => XS.icmpYes X17.here hx rfl (pc0 := 202) (pc' := 212) rfl (hb hby at_202) rfl (XT.ii_le_t hc202) (by decide) (by decide) k) ?_
                                show Go p.tables e below PP (T17.setTop (mkF m 212 #[.val (.int p1), .val (.long q2), .second, .val (.int n), .val (.int ch0), .val (.int ch1), .val (.int ch2), .val (.int ch3), .val (.int ch4), .val (.int ch5), .val (.int ch6), .val (.ref b8), .val (.ref b16), .unset, .unset, .unset] []))
                                refine Go.st (fun t k => XS.iloadN X17.here hx rfl (hb hby at_212) rfl k) ?_
                                show Go p.tables e below PP (T17.setTop (mkF m 213 #[.val (.int p1), .val (.long q2), .second, .val (.int n), .val (.int ch0), .val (.int ch1), .val (.int ch2), .val (.int ch3), .val (.int ch4), .val (.int ch5), .val (.int ch6), .val (.ref b8), .val (.ref b16), .unset, .unset, .unset] [(.int n)]))
                                refine Go.st (fun t k => XS.bipush X17.here hx rfl (hb hby at_213) k) ?_
                                show Go p.tables e below PP (T17.setTop (mkF m 215 #[.val (.int p1), .val (.long q2), .second, .val (.int n), .val (.int ch0), .val (.int ch1), .val (.int ch2), .val (.int ch3), .val (.int ch4), .val (.int ch5), .val (.int ch6), .val (.ref b8), .val (.ref b16), .unset, .unset, .unset] [(.int (6 : Int32)), (.int n)]))
                                by_cases hc215 : (6 : Int32) < n
                                · --
                                  refine Go.st (fun t k => XS.icmpNo X17.here hx rfl (hb hby at_215) rfl (XT.ii_le_f hc215) k) ?_
                                  show Go p.tables e below PP (T17.setTop (mkF m 218 #[.val (.int p1), .val (.long q2), .second, .val (.int n), .val (.int ch0), .val (.int ch1), .val (.int ch2), .val (.int ch3), .val (.int ch4), .val (.int ch5), .val (.int ch6), .val (.ref b8), .val (.ref b16), .unset, .unset, .unset] []))
                                  refine Go.st (fun t k => XS.iload X17.here hx rfl (hb hby at_218) rfl k) ?_
                                  show Go p.tables e below PP (T17.setTop (mkF m 220 #[.val (.int p1), .val (.long q2), .second, .val (.int n), .val (.int ch0), .val (.int ch1), .val (.int ch2), .val (.int ch3), .val (.int ch4), .val (.int ch5), .val (.int ch6), .val (.ref b8), .val (.ref b16), .unset, .unset, .unset] [(.int ch6)]))
                                  refine Go.st (fun t k => XS.bipush X17.here hx rfl (hb hby at_220) k) ?_
                                  show Go p.tables e below PP (T17.setTop (mkF m 222 #[.val (.int p1), .val (.long q2), .second, .val (.int n), .val (.int ch0), .val (.int ch1), .val (.int ch2), .val (.int ch3), .val (.int ch4), .val (.int ch5), .val (.int ch6), .val (.ref b8), .val (.ref b16), .unset, .unset, .unset] [(.int (64 : Int32)), (.int ch6)]))
                                  by_cases hc222 : ch6 = (64 : Int32)
                                  · --
                                    refine Go.st (fun t k => XS.icmpNo X17.here hx rfl (hb hby at_222) rfl (XT.ii_ne_f hc222) k) ?_
                                    show Go p.tables e below PP (T17.setTop (mkF m 225 #[.val (.int p1), .val (.long q2), .second, .val (.int n), .val (.int ch0), .val (.int ch1), .val (.int ch2), .val (.int ch3), .val (.int ch4), .val (.int ch5), .val (.int ch6), .val (.ref b8), .val (.ref b16), .unset, .unset, .unset] []))
                                    refine Go.st (fun t k => XS.iconst X17.here hx rfl (hb hby at_225) k) ?_
                                    show Go p.tables e below PP (T17.setTop (mkF m 226 #[.val (.int p1), .val (.long q2), .second, .val (.int n), .val (.int ch0), .val (.int ch1), .val (.int ch2), .val (.int ch3), .val (.int ch4), .val (.int ch5), .val (.int ch6), .val (.ref b8), .val (.ref b16), .unset, .unset, .unset] [(.int (1 : Int32))]))
                                    refine Go.st (fun t k => XS.goto X17.here hx rfl (pc0 := 226) (pc' := 230) rfl (hb hby at_226) (by decide) (by decide) k) ?_
                                    show Go p.tables e below PP (T17.setTop (mkF m 230 #[.val (.int p1), .val (.long q2), .second, .val (.int n), .val (.int ch0), .val (.int ch1), .val (.int ch2), .val (.int ch3), .val (.int ch4), .val (.int ch5), .val (.int ch6), .val (.ref b8), .val (.ref b16), .unset, .unset, .unset] [(.int (1 : Int32))]))
                                    exact J230 _ _ _ X17 e17 N17 (by simp [bi, hc154, hc166, hc173, hc178, hc185, hc190, hc197, hc202, hc215, hc222])
                                  · --
                                    refine Go.st (fun t k => XS.icmpYes X17.here hx rfl (pc0 := 222) (pc' := 229) rfl (hb hby at_222) rfl (XT.ii_ne_t hc222) (by decide) (by decide) k) ?_
                                    show Go p.tables e below PP (T17.setTop (mkF m 229 #[.val (.int p1), .val (.long q2), .second, .val (.int n), .val (.int ch0), .val (.int ch1), .val (.int ch2), .val (.int ch3), .val (.int ch4), .val (.int ch5), .val (.int ch6), .val (.ref b8), .val (.ref b16), .unset, .unset, .unset] []))
                                    refine Go.st (fun t k => XS.iconst X17.here hx rfl (hb hby at_229) k) ?_
                                    show Go p.tables e below PP (T17.setTop (mkF m 230 #[.val (.int p1), .val (.long q2), .second, .val (.int n), .val (.int ch0), .val (.int ch1), .val (.int ch2), .val (.int ch3), .val (.int ch4), .val (.int ch5), .val (.int ch6), .val (.ref b8), .val (.ref b16), .unset, .unset, .unset] [(.int (0 : Int32))]))
                                    exact J230 _ _ _ X17 e17 N17 (by simp [bi, hc154, hc166, hc173, hc178, hc185, hc190, hc197, hc202, hc215, hc222])
                                · --
                                  refine Go.st (fun t k => XS.icmpYes X17.here hx rfl (pc0 := 215) (pc' := 229) rfl (hb hby at_215) rfl (XT.ii_le_t hc215) (by decide) (by decide) k) ?_
                                  show Go p.tables e below PP (T17.setTop (mkF m 229 #[.val (.int p1), .val (.long q2), .second, .val (.int n), .val (.int ch0), .val (.int ch1), .val (.int ch2), .val (.int ch3), .val (.int ch4), .val (.int ch5), .val (.int ch6), .val (.ref b8), .val (.ref b16), .unset, .unset, .unset] []))
                                  refine Go.st (fun t k => XS.iconst X17.here hx rfl (hb hby at_229) k) ?_
                                  show Go p.tables e below PP (T17.setTop (mkF m 230 #[.val (.int p1), .val (.long q2), .second, .val (.int n), .val (.int ch0), .val (.int ch1), .val (.int ch2), .val (.int ch3), .val (.int ch4), .val (.int ch5), .val (.int ch6), .val (.ref b8), .val (.ref b16), .unset, .unset, .unset] [(.int (0 : Int32))]))
                                  exact J230 _ _ _ X17 e17 N17 (by simp [bi, hc154, hc166, hc173, hc178, hc185, hc190, hc197, hc202, hc215])
                          · --
                            refine Go.st (fun t k => XS.icmpYes X17.here hx rfl (pc0 := 190) (pc' := 200) rfl (hb hby at_190) rfl (XT.ii_le_t hc190) (by decide) (by decide) k) ?_
                            show Go p.tables e below PP (T17.setTop (mkF m 200 #[.val (.int p1), .val (.long q2), .second, .val (.int n), .val (.int ch0), .val (.int ch1), .val (.int ch2), .val (.int ch3), .val (.int ch4), .val (.int ch5), .val (.int ch6), .val (.ref b8), .val (.ref b16), .unset, .unset, .unset] []))
                            refine Go.st (fun t k => XS.iloadN X17.here hx rfl (hb hby at_200) rfl k) ?_
                            show Go p.tables e below PP (T17.setTop (mkF m 201 #[.val (.int p1), .val (.long q2), .second, .val (.int n), .val (.int ch0), .val (.int ch1), .val (.int ch2), .val (.int ch3), .val (.int ch4), .val (.int ch5), .val (.int ch6), .val (.ref b8), .val (.ref b16), .unset, .unset, .unset] [(.int n)]))
                            refine Go.st (fun t k => XS.iconst X17.here hx rfl (hb hby at_201) k) ?_
                            show Go p.tables e below PP (T17.setTop (mkF m 202 #[.val (.int p1), .val (.long q2), .second, .val (.int n), .val (.int ch0), .val (.int ch1), .val (.int ch2), .val (.int ch3), .val (.int ch4), .val (.int ch5), .val (.int ch6), .val (.ref b8), .val (.ref b16), .unset, .unset, .unset] [(.int (5 : Int32)), (.int n)]))
                            by_cases hc202 : (5 : Int32) < n
                            · --
                              refine Go.st (fun t k => XS.icmpNo X17.here hx rfl (hb hby at_202) rfl (XT.ii_le_f hc202) k) ?_
                              show Go p.tables e below PP (T17.setTop (mkF m 205 #[.val (.int p1), .val (.long q2), .second, .val (.int n), .val (.int ch0), .val (.int ch1), .val (.int ch2), .val (.int ch3), .val (.int ch4), .val (.int ch5), .val (.int ch6), .val (.ref b8), .val (.ref b16), .unset, .unset, .unset] []))
                              refine Go.st (fun t k => XS.iload X17.here hx rfl (hb hby at_205) rfl k) ?_
                              show Go p.tables e below PP (T17.setTop (mkF m 207 #[.val (.int p1), .val (.long q2), .second, .val (.int n), .val (.int ch0), .val (.int ch1), .val (.int ch2), .val (.int ch3), .val (.int ch4), .val (.int ch5), .val (.int ch6), .val (.ref b8), .val (.ref b16), .unset, .unset, .unset] [(.int ch5)]))
                              refine Go.st (fun t k => XS.bipush X17.here hx rfl (hb hby at_207) k) ?_
                              show Go p.tables e below PP (T17.setTop (mkF m 209 #[.val (.int p1), .val (.long q2), .second, .val (.int n), .val (.int ch0), .val (.int ch1), .val (.int ch2), .val (.int ch3), .val (.int ch4), .val (.int ch5), .val (.int ch6), .val (.ref b8), .val (.ref b16), .unset, .unset, .unset] [(.int (64 : Int32)), (.int ch5)]))
                              by_cases hc209 : ch5 = (64 : Int32)
                              · --
                                refine Go.st (fun t k => XS.icmpYes X17.here hx rfl (pc0 := 209) (pc' := 225) rfl (hb hby at_209) rfl (XT.ii_eq_t hc209) (by decide) (by decide) k) ?_
                                show Go p.tables e below PP (T17.setTop (mkF m 225 #[.val (.int p1), .val (.long q2), .second, .val (.int n), .val (.int ch0), .val (.int ch1), .val (.int ch2), .val (.int ch3), .val (.int ch4), .val (.int ch5), .val (.int ch6), .val (.ref b8), .val (.ref b16), .unset, .unset, .unset] []))
                                refine Go.st (fun t k => XS.iconst X17.here hx rfl (hb hby at_225) k) ?_
                                show Go p.tables e below PP (T17.setTop (mkF m 226 #[.val (.int p1), .val (.long q2), .second, .val (.int n), .val (.int ch0), .val (.int ch1), .val (.int ch2), .val (.int ch3), .val (.int ch4), .val (.int ch5), .val (.int ch6), .val (.ref b8), .val (.ref b16), .unset, .unset, .unset] [(.int (1 : Int32))]))
                                refine Go.st (fun t k => XS.goto X17.here hx rfl (pc0 := 226) (pc' := 230) rfl (hb hby at_226) (by decide) (by decide) k) ?_
                                show Go p.tables e below PP (T17.setTop (mkF m 230 #[.val (.int p1), .val (.long q2), .second, .val (.int n), .val (.int ch0), .val (.int ch1), .val (.int ch2), .val (.int ch3), .val (.int ch4), .val (.int ch5), .val (.int ch6), .val (.ref b8), .val (.ref b16), .unset, .unset, .unset] [(.int (1 : Int32))]))
                                exact J230 _ _ _ X17 e17 N17 (by simp [bi, hc154, hc166, hc173, hc178, hc185, hc190, hc202, hc209])
                              · --
                                refine Go.st (fun t k => XS.icmpNo X17.here hx rfl (hb hby at_209) rfl (XT.ii_eq_f hc209) k) ?_
                                show Go p.tables e below PP (T17.setTop (mkF m 212 #[.val (.int p1), .val (.long q2), .second, .val (.int n), .val (.int ch0), .val (.int ch1), .val (.int ch2), .val (.int ch3), .val (.int ch4), .val (.int ch5), .val (.int ch6), .val (.ref b8), .val (.ref b16), .unset, .unset, .unset] []))
                                refine Go.st (fun t k => XS.iloadN X17.here hx rfl (hb hby at_212) rfl k) ?_
                                show Go p.tables e below PP (T17.setTop (mkF m 213 #[.val (.int p1), .val (.long q2), .second, .val (.int n), .val (.int ch0), .val (.int ch1), .val (.int ch2), .val (.int ch3), .val (.int ch4), .val (.int ch5), .val (.int ch6), .val (.ref b8), .val (.ref b16), .unset, .unset, .unset] [(.int n)]))
                                refine Go.st (fun t k => XS.bipush X17.here hx rfl (hb hby at_213) k) ?_
                                show Go p.tables e below PP (T17.setTop (mkF m 215 #[.val (.int p1), .val (.long q2), .second, .val (.int n), .val (.int ch0), .val (.int ch1), .val (.int ch2), .val (.int ch3), .val (.int ch4), .val (.int ch5), .val (.int ch6), .val (.ref b8), .val (.ref b16), .unset, .unset, .unset] [(.int (6 : Int32)), (.int n)]))
                                by_cases hc215 : (6 : Int32) < n
                                · --
                                  refine Go.st (fun t k => XS.icmpNo X17.here hx rfl (hb hby at_215) rfl (XT.ii_le_f hc215) k) ?_
                                  show Go p.tables e below PP (T17.setTop (mkF m 218 #[.val (.int p1), .val (.long q2), .second, .val (.int n), .val (.int ch0), .val (.int ch1), .val (.int ch2), .val (.int ch3), .val (.int ch4), .val (.int ch5), .val (.int ch6), .val (.ref b8), .val (.ref b16), .unset, .unset, .unset] []))
                                  refine Go.st (fun t k => XS.iload X17.here hx rfl (hb hby at_218) rfl k) ?_
                                  show Go p.tables e below PP (T17.setTop (mkF m 220 #[.val (.int p1), .val (.long q2), .second, .val (.int n), .val (.int ch0), .val (.int ch1), .val (.int ch2), .val (.int ch3), .val (.int ch4), .val (.int ch5), .val (.int ch6), .val (.ref b8), .val (.ref b16), .unset, .unset, .unset] [(.int ch6)]))
                                  refine Go.st (fun t k => XS.bipush X17.here hx rfl (hb hby at_220) k) ?_
                                  show Go p.tables e below PP (T17.setTop (mkF m 222 #[.val (.int p1), .val (.long q2), .second, .val (.int n), .val (.int ch0), .val (.int ch1), .val (.int ch2), .val (.int ch3), .val (.int ch4), .val (.int ch5), .val (.int ch6), .val (.ref b8), .val (.ref b16), .unset, .unset, .unset] [(.int (64 : Int32)), (.int ch6)]))
                                  by_cases hc222 : ch6 = (64 : Int32)
                                  · --
                                    refine Go.st (fun t k => XS.icmpNo X17.here hx rfl (hb hby at_222) rfl (XT.ii_ne_f hc222) k) ?_
                                    show Go p.tables e below PP (T17.setTop (mkF m 225 #[.val (.int p1), .val (.long q2), .second, .val (.int n), .val (.int ch0), .val (.int ch1), .val (.int ch2), .val (.int ch3), .val (.int ch4), .val (.int ch5), .val (.int ch6), .val (.ref b8), .val (.ref b16), .unset, .unset, .unset] []))
                                    refine Go.st (fun t k => XS.iconst X17.here hx rfl (hb hby at_225) k) ?_
                                    show Go p.tables e below PP (T17.setTop (mkF m 226 #[.val (.int p1), .val (.long q2), .second, .val (.int n), .val (.int ch0), .val (.int ch1), .val (.int ch2), .val (.int ch3), .val (.int ch4), .val (.int ch5), .val (.int ch6), .val (.ref b8), .val (.ref b16), .unset, .unset, .unset] [(.int (1 : Int32))]))
                                    refine Go.st (fun t k => XS.goto X17.here hx rfl (pc0 := 226) (pc' := 230) rfl (hb hby at_226) (by decide) (by decide) k) ?_
                                    show Go p.tables e below PP (T17.setTop (mkF m 230 #[.val (.int p1), .val (.long q2), .second, .val (.int n), .val (.int ch0), .val (.int ch1), .val (.int ch2), .val (.int ch3), .val (.int ch4), .val (.int ch5), .val (.int ch6), .val (.ref b8), .val (.ref b16), .unset, .unset, .unset] [(.int (1 : Int32))]))
                                    exact J230 _ _ _ X17 e17 N17 (by simp [bi, hc154, hc166, hc173, hc178, hc185, hc190, hc202, hc209, hc215, hc222])
                                  · --
                                    refine Go.st (fun t k => XS.icmpYes X17.here hx rfl (pc0 := 222) (pc' := 229) rfl (hb hby at_222) rfl (XT.ii_ne_t hc222) (by decide) (by decide) k) ?_
                                    show Go p.tables e below PP (T17.setTop (mkF m 229 #[.val (.int p1), .val (.long q2), .second, .val (.int n), .val (.int ch0), .val (.int ch1), .val (.int ch2), .val (.int ch3), .val (.int ch4), .val (.int ch5), .val (.int ch6), .val (.ref b8), .val (.ref b16), .unset, .unset, .unset] []))
                                    refine Go.st (fun t k => XS.iconst X17.here hx rfl (hb hby at_229) k) ?_
                                    show Go p.tables e below PP (T17.setTop (mkF m 230 #[.val (.int p1), .val (.long q2), .second, .val (.int n), .val (.int ch0), .val (.int ch1), .val (.int ch2), .val (.int ch3), .val (.int ch4), .val (.int ch5), .val (.int ch6), .val (.ref b8), .val (.ref b16), .unset, .unset, .unset] [(.int (0 : Int32))]))
                                    exact J230 _ _ _ X17 e17 N17 (by simp [bi, hc154, hc166, hc173, hc178, hc185, hc190, hc202, hc209, hc215, hc222])
                                · --
                                  refine Go.st (fun t k => XS.icmpYes X17.here hx rfl (pc0 := 215) (pc' := 229) rfl (hb hby at_215) rfl (XT.ii_le_t hc215) (by decide) (by decide) k) ?_
                                  show Go p.tables e below PP (T17.setTop (mkF m 229 #[.val (.int p1), .val (.long q2), .second, .val (.int n), .val (.int ch0), .val (.int ch1), .val (.int ch2), .val (.int ch3), .val (.int ch4), .val (.int ch5), .val (.int ch6), .val (.ref b8), .val (.ref b16), .unset, .unset, .unset] []))
                                  refine Go.st (fun t k => XS.iconst X17.here hx rfl (hb hby at_229) k) ?_
                                  show Go p.tables e below PP (T17.setTop (mkF m 230 #[.val (.int p1), .val (.long q2), .second, .val (.int n), .val (.int ch0), .val (.int ch1), .val (.int ch2), .val (.int ch3), .val (.int ch4), .val (.int ch5), .val (.int ch6), .val (.ref b8), .val (.ref b16), .unset, .unset, .unset] [(.int (0 : Int32))]))
                                  exact J230 _ _ _ X17 e17 N17 (by simp [bi, hc154, hc166, hc173, hc178, hc185, hc190, hc202, hc209, hc215])
                            · --
                              refine Go.st (fun t k => XS.icmpYes X17.here hx rfl (pc0 := 202) (pc' := 212) rfl (hb hby at_202) rfl (XT.ii_le_t hc202) (by decide) (by decide) k) ?_
                              show Go p.tables e below PP (T17.setTop (mkF m 212 #[.val (.int p1), .val (.long q2), .second, .val (.int n), .val (.int ch0), .val (.int ch1), .val (.int ch2), .val (.int ch3), .val (.int ch4), .val (.int ch5), .val (.int ch6), .val (.ref b8), .val (.ref b16), .unset, .unset, .unset] []))
                              refine Go.st (fun t k => XS.iloadN X17.here hx rfl (hb hby at_212) rfl k) ?_
                              show Go p.tables e below PP (T17.setTop (mkF m 213 #[.val (.int p1), .val (.long q2), .second, .val (.int n), .val (.int ch0), .val (.int ch1), .val (.int ch2), .val (.int ch3), .val (.int ch4), .val (.int ch5), .val (.int ch6), .val (.ref b8), .val (.ref b16), .unset, .unset, .unset] [(.int n)]))
                              refine Go.st (fun t k => XS.bipush X17.here hx rfl (hb hby at_213) k) ?_
                              show Go p.tables e below PP (T17.setTop (mkF m 215 #[.val (.int p1), .val (.long q2), .second, .val (.int n), .val (.int ch0), .val (.int ch1), .val (.int ch2), .val (.int ch3), .val (.int ch4), .val (.int ch5), .val (.int ch6), .val (.ref b8), .val (.ref b16), .unset, .unset, .unset] [(.int (6 : Int32)), (.int n)]))
                              by_cases hc215 : (6 : Int32) < n
                              · --
                                refine Go.st (fun t k => XS.icmpNo X17.here hx rfl (hb hby at_215) rfl (XT.ii_le_f hc215) k) ?_
                                show Go p.tables e below PP (T17.setTop (mkF m 218 #[.val (.int p1), .val (.long q2), .second, .val (.int n), .val (.int ch0), .val (.int ch1), .val (.int ch2), .val (.int ch3), .val (.int ch4), .val (.int ch5), .val (.int ch6), .val (.ref b8), .val (.ref b16), .unset, .unset, .unset] []))
                                refine Go.st (fun t k => XS.iload X17.here hx rfl (hb hby at_218) rfl k) ?_
                                show Go p.tables e below PP (T17.setTop (mkF m 220 #[.val (.int p1), .val (.long q2), .second, .val (.int n), .val (.int ch0), .val (.int ch1), .val (.int ch2), .val (.int ch3), .val (.int ch4), .val (.int ch5), .val (.int ch6), .val (.ref b8), .val (.ref b16), .unset, .unset, .unset] [(.int ch6)]))
                                refine Go.st (fun t k => XS.bipush X17.here hx rfl (hb hby at_220) k) ?_
                                show Go p.tables e below PP (T17.setTop (mkF m 222 #[.val (.int p1), .val (.long q2), .second, .val (.int n), .val (.int ch0), .val (.int ch1), .val (.int ch2), .val (.int ch3), .val (.int ch4), .val (.int ch5), .val (.int ch6), .val (.ref b8), .val (.ref b16), .unset, .unset, .unset] [(.int (64 : Int32)), (.int ch6)]))
                                by_cases hc222 : ch6 = (64 : Int32)
                                · --
                                  refine Go.st (fun t k => XS.icmpNo X17.here hx rfl (hb hby at_222) rfl (XT.ii_ne_f hc222) k) ?_
                                  show Go p.tables e below PP (T17.setTop (mkF m 225 #[.val (.int p1), .val (.long q2), .second, .val (.int n), .val (.int ch0), .val (.int ch1), .val (.int ch2), .val (.int ch3), .val (.int ch4), .val (.int ch5), .val (.int ch6), .val (.ref b8), .val (.ref b16), .unset, .unset, .unset] []))
                                  refine Go.st (fun t k => XS.iconst X17.here hx rfl (hb hby at_225) k) ?_
                                  show Go p.tables e below PP (T17.setTop (mkF m 226 #[.val (.int p1), .val (.long q2), .second, .val (.int n), .val (.int ch0), .val (.int ch1), .val (.int ch2), .val (.int ch3), .val (.int ch4), .val (.int ch5), .val (.int ch6), .val (.ref b8), .val (.ref b16), .unset, .unset, .unset] [(.int (1 : Int32))]))
                                  refine Go.st (fun t k => XS.goto X17.here hx rfl (pc0 := 226) (pc' := 230) rfl (hb hby at_226) (by decide) (by decide) k) ?_
                                  show Go p.tables e below PP (T17.setTop (mkF m 230 #[.val (.int p1), .val (.long q2), .second, .val (.int n), .val (.int ch0), .val (.int ch1), .val (.int ch2), .val (.int ch3), .val (.int ch4), .val (.int ch5), .val (.int ch6), .val (.ref b8), .val (.ref b16), .unset, .unset, .unset] [(.int (1 : Int32))]))
                                  exact J230 _ _ _ X17 e17 N17 (by simp [bi, hc154, hc166, hc173, hc178, hc185, hc190, hc202, hc215, hc222])
                                · --
                                  refine Go.st (fun t k => XS.icmpYes X17.here hx rfl (pc0 := 222) (pc' := 229) rfl (hb hby at_222) rfl (XT.ii_ne_t hc222) (by decide) (by decide) k) ?_
                                  show Go p.tables e below PP (T17.setTop (mkF m 229 #[.val (.int p1), .val (.long q2), .second, .val (.int n), .val (.int ch0), .val (.int ch1), .val (.int ch2), .val (.int ch3), .val (.int ch4), .val (.int ch5), .val (.int ch6), .val (.ref b8), .val (.ref b16), .unset, .unset, .unset] []))
                                  refine Go.st (fun t k => XS.iconst X17.here hx rfl (hb hby at_229) k) ?_
                                  show Go p.tables e below PP (T17.setTop (mkF m 230 #[.val (.int p1), .val (.long q2), .second, .val (.int n), .val (.int ch0), .val (.int ch1), .val (.int ch2), .val (.int ch3), .val (.int ch4), .val (.int ch5), .val (.int ch6), .val (.ref b8), .val (.ref b16), .unset, .unset, .unset] [(.int (0 : Int32))]))
                                  exact J230 _ _ _ X17 e17 N17 (by simp [bi, hc154, hc166, hc173, hc178, hc185, hc190, hc202, hc215, hc222])
                              · --
                                refine Go.st (fun t k => XS.icmpYes X17.here hx rfl (pc0 := 215) (pc' := 229) rfl (hb hby at_215) rfl (XT.ii_le_t hc215) (by decide) (by decide) k) ?_
                                show Go p.tables e below PP (T17.setTop (mkF m 229 #[.val (.int p1), .val (.long q2), .second, .val (.int n), .val (.int ch0), .val (.int ch1), .val (.int ch2), .val (.int ch3), .val (.int ch4), .val (.int ch5), .val (.int ch6), .val (.ref b8), .val (.ref b16), .unset, .unset, .unset] []))
                                refine Go.st (fun t k => XS.iconst X17.here hx rfl (hb hby at_229) k) ?_
                                show Go p.tables e below PP (T17.setTop (mkF m 230 #[.val (.int p1), .val (.long q2), .second, .val (.int n), .val (.int ch0), .val (.int ch1), .val (.int ch2), .val (.int ch3), .val (.int ch4), .val (.int ch5), .val (.int ch6), .val (.ref b8), .val (.ref b16), .unset, .unset, .unset] [(.int (0 : Int32))]))
                                exact J230 _ _ _ X17 e17 N17 (by simp [bi, hc154, hc166, hc173, hc178, hc185, hc190, hc202, hc215])
                      · --
                        refine Go.st (fun t k => XS.icmpYes X17.here hx rfl (pc0 := 178) (pc' := 188) rfl (hb hby at_178) rfl (XT.ii_le_t hc178) (by decide) (by decide) k) ?_
                        show Go p.tables e below PP (T17.setTop (mkF m 188 #[.val (.int p1), .val (.long q2), .second, .val (.int n), .val (.int ch0), .val (.int ch1), .val (.int ch2), .val (.int ch3), .val (.int ch4), .val (.int ch5), .val (.int ch6), .val (.ref b8), .val (.ref b16), .unset, .unset, .unset] []))
                        refine Go.st (fun t k => XS.iloadN X17.here hx rfl (hb hby at_188) rfl k) ?_
                        show Go p.tables e below PP (T17.setTop (mkF m 189 #[.val (.int p1), .val (.long q2), .second, .val (.int n), .val (.int ch0), .val (.int ch1), .val (.int ch2), .val (.int ch3), .val (.int ch4), .val (.int ch5), .val (.int ch6), .val (.ref b8), .val (.ref b16), .unset, .unset, .unset] [(.int n)]))
                        refine Go.st (fun t k => XS.iconst X17.here hx rfl (hb hby at_189) k) ?_
                        show Go p.tables e below PP (T17.setTop (mkF m 190 #[.val (.int p1), .val (.long q2), .second, .val (.int n), .val (.int ch0), .val (.int ch1), .val (.int ch2), .val (.int ch3), .val (.int ch4), .val (.int ch5), .val (.int ch6), .val (.ref b8), .val (.ref b16), .unset, .unset, .unset] [(.int (4 : Int32)), (.int n)]))
                        by_cases hc190 : (4 : Int32) < n
                        · --
                          refine Go.st (fun t k => XS.icmpNo X17.here hx rfl (hb hby at_190) rfl (XT.ii_le_f hc190) k) ?_
                          show Go p.tables e below PP (T17.setTop (mkF m 193 #[.val (.int p1), .val (.long q2), .second, .val (.int n), .val (.int ch0), .val (.int ch1), .val (.int ch2), .val (.int ch3), .val (.int ch4), .val (.int ch5), .val (.int ch6), .val (.ref b8), .val (.ref b16), .unset, .unset, .unset] []))
                          refine Go.st (fun t k => XS.iload X17.here hx rfl (hb hby at_193) rfl k) ?_
                          show Go p.tables e below PP (T17.setTop (mkF m 195 #[.val (.int p1), .val (.long q2), .second, .val (.int n), .val (.int ch0), .val (.int ch1), .val (.int ch2), .val (.int ch3), .val (.int ch4), .val (.int ch5), .val (.int ch6), .val (.ref b8), .val (.ref b16), .unset, .unset, .unset] [(.int ch4)]))
                          refine Go.st (fun t k => XS.bipush X17.here hx rfl (hb hby at_195) k) ?_
                          show Go p.tables e below PP (T17.setTop (mkF m 197 #[.val (.int p1), .val (.long q2), .second, .val (.int n), .val (.int ch0), .val (.int ch1), .val (.int ch2), .val (.int ch3), .val (.int ch4), .val (.int ch5), .val (.int ch6), .val (.ref b8), .val (.ref b16), .unset, .unset, .unset] [(.int (64 : Int32)), (.int ch4)]))
                          by_cases hc197 : ch4 = (64 : Int32)
                          · --
                            refine Go.st (fun t k => XS.icmpYes X17.here hx rfl (pc0 := 197) (pc' := 225) rfl (hb hby at_197) rfl (XT.ii_eq_t hc197) (by decide) (by decide) k) ?_
                            show Go p.tables e below PP (T17.setTop (mkF m 225 #[.val (.int p1), .val (.long q2), .second, .val (.int n), .val (.int ch0), .val (.int ch1), .val (.int ch2), .val (.int ch3), .val (.int ch4), .val (.int ch5), .val (.int ch6), .val (.ref b8), .val (.ref b16), .unset, .unset, .unset] []))
                            refine Go.st (fun t k => XS.iconst X17.here hx rfl (hb hby at_225) k) ?_
                            show Go p.tables e below PP (T17.setTop (mkF m 226 #[.val (.int p1), .val (.long q2), .second, .val (.int n), .val (.int ch0), .val (.int ch1), .val (.int ch2), .val (.int ch3), .val (.int ch4), .val (.int ch5), .val (.int ch6), .val (.ref b8), .val (.ref b16), .unset, .unset, .unset] [(.int (1 : Int32))]))
                            refine Go.st (fun t k => XS.goto X17.here hx rfl (pc0 := 226) (pc' := 230) rfl (hb hby at_226) (by decide) (by decide) k) ?_
                            show Go p.tables e below PP (T17.setTop (mkF m 230 #[.val (.int p1), .val (.long q2), .second, .val (.int n), .val (.int ch0), .val (.int ch1), .val (.int ch2), .val (.int ch3), .val (.int ch4), .val (.int ch5), .val (.int ch6), .val (.ref b8), .val (.ref b16), .unset, .unset, .unset] [(.int (1 : Int32))]))
                            exact J230 _ _ _ X17 e17 N17 (by simp [bi, hc154, hc166, hc173, hc178, hc190, hc197])
                          · --
                            refine Go.st (fun t k => XS.icmpNo X17.here hx rfl (hb hby at_197) rfl (XT.ii_eq_f hc197) k) ?_
                            show Go p.tables e below PP (T17.setTop (mkF m 200 #[.val (.int p1), .val (.long q2), .second, .val (.int n), .val (.int ch0), .val (.int ch1), .val (.int ch2), .val (.int ch3), .val (.int ch4), .val (.int ch5), .val (.int ch6), .val (.ref b8), .val (.ref b16), .unset, .unset, .unset] []))
                            refine Go.st (fun t k => XS.iloadN X17.here hx rfl (hb hby at_200) rfl k) ?_
                            show Go p.tables e below PP (T17.setTop (mkF m 201 #[.val (.int p1), .val (.long q2), .second, .val (.int n), .val (.int ch0), .val (.int ch1), .val (.int ch2), .val (.int ch3), .val (.int ch4), .val (.int ch5), .val (.int ch6), .val (.ref b8), .val (.ref b16), .unset, .unset, .unset] [(.int n)]))
                            refine Go.st (fun t k => XS.iconst X17.here hx rfl (hb hby at_201) k) ?_
                            show Go p.tables e below PP (T17.setTop (mkF m 202 #[.val (.int p1), .val (.long q2), .second, .val (.int n), .val (.int ch0), .val (.int ch1), .val (.int ch2), .val (.int ch3), .val (.int ch4), .val (.int ch5), .val (.int ch6), .val (.ref b8), .val (.ref b16), .unset, .unset, .unset] [(.int (5 : Int32)), (.int n)]))
                            by_cases hc202 : (5 : Int32) < n
                            · --
                              refine Go.st (fun t k => XS.icmpNo X17.here hx rfl (hb hby at_202) rfl (XT.ii_le_f hc202) k) ?_
                              show Go p.tables e below PP (T17.setTop (mkF m 205 #[.val (.int p1), .val (.long q2), .second, .val (.int n), .val (.int ch0), .val (.int ch1), .val (.int ch2), .val (.int ch3), .val (.int ch4), .val (.int ch5), .val (.int ch6), .val (.ref b8), .val (.ref b16), .unset, .unset, .unset] []))
                              refine Go.st (fun t k => XS.iload X17.here hx rfl (hb hby at_205) rfl k) ?_
                              show Go p.tables e below PP (T17.setTop (mkF m 207 #[.val (.int p1), .val (.long q2), .second, .val (.int n), .val (.int ch0), .val (.int ch1), .val (.int ch2), .val (.int ch3), .val (.int ch4), .val (.int ch5), .val (.int ch6), .val (.ref b8), .val (.ref b16), .unset, .unset, .unset] [(.int ch5)]))
                              refine Go.st (fun t k => XS.bipush X17.here hx rfl (hb hby at_207) k) ?_
                              show Go p.tables e below PP (T17.setTop (mkF m 209 #[.val (.int p1), .val (.long q2), .second, .val (.int n), .val (.int ch0), .val (.int ch1), .val (.int ch2), .val (.int ch3), .val (.int ch4), .val (.int ch5), .val (.int ch6), .val (.ref b8), .val (.ref b16), .unset, .unset, .unset] [(.int (64 : Int32)), (.int ch5)]))
                              by_cases hc209 : ch5 = (64 : Int32)
                              · --
                                refine Go.st (fun t k => XS.icmpYes X17.here hx rfl (pc0 := 209) (pc' := 225) rfl (hb hby at_209) rfl (XT.ii_eq_t hc209) (by decide) (by decide) k) ?_
                                show Go p.tables e below PP (T17.setTop (mkF m 225 #[.val (.int p1), .val (.long q2), .second, .val (.int n), .val (.int ch0), .val (.int ch1), .val (.int ch2), .val (.int ch3), .val (.int ch4), .val (.int ch5), .val (.int ch6), .val (.ref b8), .val (.ref b16), .unset, .unset, .unset] []))
                                refine Go.st (fun t k => XS.iconst X17.here hx rfl (hb hby at_225) k) ?_
                                show Go p.tables e below PP (T17.setTop (mkF m 226 #[.val (.int p1), .val (.long q2), .second, .val (.int n), .val (.int ch0), .val (.int ch1), .val (.int ch2), .val (.int ch3), .val (.int ch4), .val (.int ch5), .val (.int ch6), .val (.ref b8), .val (.ref b16), .unset, .unset, .unset] [(.int (1 : Int32))]))
                                refine Go.st (fun t k => XS.goto X17.here hx rfl (pc0 := 226) (pc' := 230) rfl (hb hby at_226) (by decide) (by decide) k) ?_
                                show Go p.tables e below PP (T17.setTop (mkF m 230 #[.val (.int p1), .val (.long q2), .second, .val (.int n), .val (.int ch0), .val (.int ch1), .val (.int ch2), .val (.int ch3), .val (.int ch4), .val (.int ch5), .val (.int ch6), .val (.ref b8), .val (.ref b16), .unset, .unset, .unset] [(.int (1 : Int32))]))
                                exact J230 _ _ _ X17 e17 N17 (by simp [bi, hc154, hc166, hc173, hc178, hc190, hc197, hc202, hc209])
                              · --
                                refine Go.st (fun t k => XS.icmpNo X17.here hx rfl (hb hby at_209) rfl (XT.ii_eq_f hc209) k) ?_
                                show Go p.tables e below PP (T17.setTop (mkF m 212 #[.val (.int p1), .val (.long q2), .second, .val (.int n), .val (.int ch0), .val (.int ch1), .val (.int ch2), .val (.int ch3), .val (.int ch4), .val (.int ch5), .val (.int ch6), .val (.ref b8), .val (.ref b16), .unset, .unset, .unset] []))
                                refine Go.st (fun t k => XS.iloadN X17.here hx rfl (hb hby at_212) rfl k) ?_
                                show Go p.tables e below PP (T17.setTop (mkF m 213 #[.val (.int p1), .val (.long q2), .second, .val (.int n), .val (.int ch0), .val (.int ch1), .val (.int ch2), .val (.int ch3), .val (.int ch4), .val (.int ch5), .val (.int ch6), .val (.ref b8), .val (.ref b16), .unset, .unset, .unset] [(.int n)]))
                                refine Go.st (fun t k => XS.bipush X17.here hx rfl (hb hby at_213) k) ?_
                                show Go p.tables e below PP (T17.setTop (mkF m 215 #[.val (.int p1), .val (.long q2), .second, .val (.int n), .val (.int ch0), .val (.int ch1), .val (.int ch2), .val (.int ch3), .val (.int ch4), .val (.int ch5), .val (.int ch6), .val (.ref b8), .val (.ref b16), .unset, .unset, .unset] [(.int (6 : Int32)), (.int n)]))
                                by_cases hc215 : (6 : Int32) < n
                                · --
                                  refine Go.st (fun t k => XS.icmpNo X17.here hx rfl (hb hby at_215) rfl (XT.ii_le_f hc215) k) ?_
                                  show Go p.tables e below PP (T17.setTop (mkF m 218 #[.val (.int p1), .val (.long q2), .second, .val (.int n), .val (.int ch0), .val (.int ch1), .val (.int ch2), .val (.int ch3), .val (.int ch4), .val (.int ch5), .val (.int ch6), .val (.ref b8), .val (.ref b16), .unset, .unset, .unset] []))
                                  refine Go.st (fun t k => XS.iload X17.here hx rfl (hb hby at_218) rfl k) ?_
                                  show Go p.tables e below PP (T17.setTop (mkF m 220 #[.val (.int p1), .val (.long q2), .second, .val (.int n), .val (.int ch0), .val (.int ch1), .val (.int ch2), .val (.int ch3), .val (.int ch4), .val (.int ch5), .val (.int ch6), .val (.ref b8), .val (.ref b16), .unset, .unset, .unset] [(.int ch6)]))
                                  refine Go.st (fun t k => XS.bipush X17.here hx rfl (hb hby at_220) k) ?_
                                  show Go p.tables e below PP (T17.setTop (mkF m 222 #[.val (.int p1), .val (.long q2), .second, .val (.int n), .val (.int ch0), .val (.int ch1), .val (.int ch2), .val (.int ch3), .val (.int ch4), .val (.int ch5), .val (.int ch6), .val (.ref b8), .val (.ref b16), .unset, .unset, .unset] [(.int (64 : Int32)), (.int ch6)]))
                                  by_cases hc222 : ch6 = (64 : Int32)
                                  · --
                                    refine Go.st (fun t k => XS.icmpNo X17.here hx rfl (hb hby at_222) rfl (XT.ii_ne_f hc222) k) ?_
                                    show Go p.tables e below PP (T17.setTop (mkF m 225 #[.val (.int p1), .val (.long q2), .second, .val (.int n), .val (.int ch0), .val (.int ch1), .val (.int ch2), .val (.int ch3), .val (.int ch4), .val (.int ch5), .val (.int ch6), .val (.ref b8), .val (.ref b16), .unset, .unset, .unset] []))
                                    refine Go.st (fun t k => XS.iconst X17.here hx rfl (hb hby at_225) k) ?_
                                    show Go p.tables e below PP (T17.setTop (mkF m 226 #[.val (.int p1), .val (.long q2), .second, .val (.int n), .val (.int ch0), .val (.int ch1), .val (.int ch2), .val (.int ch3), .val (.int ch4), .val (.int ch5), .val (.int ch6), .val (.ref b8), .val (.ref b16), .unset, .unset, .unset] [(.int (1 : Int32))]))
                                    refine Go.st (fun t k => XS.goto X17.here hx rfl (pc0 := 226) (pc' := 230) rfl (hb hby at_226) (by decide) (by decide) k) ?_
                                    show Go p.tables e below PP (T17.setTop (mkF m 230 #[.val (.int p1), .val (.long q2), .second, .val (.int n), .val (.int ch0), .val (.int ch1), .val (.int ch2), .val (.int ch3), .val (.int ch4), .val (.int ch5), .val (.int ch6), .val (.ref b8), .val (.ref b16), .unset, .unset, .unset] [(.int (1 : Int32))]))
                                    exact J230 _ _ _ X17 e17 N17 (by simp [bi, hc154, hc166, hc173, hc178, hc190, hc197, hc202, hc209, hc215, hc222])
                                  · --
                                    refine Go.st (fun t k => XS.icmpYes X17.here hx rfl (pc0 := 222) (pc' := 229) rfl (hb hby at_222) rfl (XT.ii_ne_t hc222) (by decide) (by decide) k) ?_
                                    show Go p.tables e below PP (T17.setTop (mkF m 229 #[.val (.int p1), .val (.long q2), .second, .val (.int n), .val (.int ch0), .val (.int ch1), .val (.int ch2), .val (.int ch3), .val (.int ch4), .val (.int ch5), .val (.int ch6), .val (.ref b8), .val (.ref b16), .unset, .unset, .unset] []))
                                    refine Go.st (fun t k => XS.iconst X17.here hx rfl (hb hby at_229) k) ?_
                                    show Go p.tables e below PP (T17.setTop (mkF m 230 #[.val (.int p1), .val (.long q2), .second, .val (.int n), .val (.int ch0), .val (.int ch1), .val (.int ch2), .val (.int ch3), .val (.int ch4), .val (.int ch5), .val (.int ch6), .val (.ref b8), .val (.ref b16), .unset, .unset, .unset] [(.int (0 : Int32))]))
                                    exact J230 _ _ _ X17 e17 N17 (by simp [bi, hc154, hc166, hc173, hc178, hc190, hc197, hc202, hc209, hc215, hc222])
                                · --
                                  refine Go.st (fun t k => XS.icmpYes X17.here hx rfl (pc0 := 215) (pc' := 229) rfl (hb hby at_215) rfl (XT.ii_le_t hc215) (by decide) (by decide) k) ?_
                                  show Go p.tables e below PP (T17.setTop (mkF m 229 #[.val (.int p1), .val (.long q2), .second, .val (.int n), .val (.int ch0), .val (.int ch1), .val (.int ch2), .val (.int ch3), .val (.int ch4), .val (.int ch5), .val (.int ch6), .val (.ref b8), .val (.ref b16), .unset, .unset, .unset] []))
                                  refine Go.st (fun t k => XS.iconst X17.here hx rfl (hb hby at_229) k) ?_
                                  show Go p.tables e below PP (T17.setTop (mkF m 230 #[.val (.int p1), .val (.long q2), .second, .val (.int n), .val (.int ch0), .val (.int ch1), .val (.int ch2), .val (.int ch3), .val (.int ch4), .val (.int ch5), .val (.int ch6), .val (.ref b8), .val (.ref b16), .unset, .unset, .unset] [(.int (0 : Int32))]))
                                  exact J230 _ _ _ X17 e17 N17 (by simp [bi, hc154, hc166, hc173, hc178, hc190, hc197, hc202, hc209, hc215])
                            · --
                              refine Go.st (fun t k => XS.icmpYes X17.here hx rfl (pc0 := 202) (pc' := 212) rfl (hb hby at_202) rfl (XT.ii_le_t hc202) (by decide) (by decide) k) ?_
                              show Go p.tables e below PP (T17.setTop (mkF m 212 #[.val (.int p1), .val (.long q2), .second, .val (.int n), .val (.int ch0), .val (.int ch1), .val (.int ch2), .val (.int ch3), .val (.int ch4), .val (.int ch5), .val (.int ch6), .val (.ref b8), .val (.ref b16), .unset, .unset, .unset] []))
                              refine Go.st (fun t k => XS.iloadN X17.here hx rfl (hb hby at_212) rfl k) ?_
                              show Go p.tables e below PP (T17.setTop (mkF m 213 #[.val (.int p1), .val (.long q2), .second, .val (.int n), .val (.int ch0), .val (.int ch1), .val (.int ch2), .val (.int ch3), .val (.int ch4), .val (.int ch5), .val (.int ch6), .val (.ref b8), .val (.ref b16), .unset, .unset, .unset] [(.int n)]))
                              refine Go.st (fun t k => XS.bipush X17.here hx rfl (hb hby at_213) k) ?_
                              show Go p.tables e below PP (T17.setTop (mkF m 215 #[.val (.int p1), .val (.long q2), .second, .val (.int n), .val (.int ch0), .val (.int ch1), .val (.int ch2), .val (.int ch3), .val (.int ch4), .val (.int ch5), .val (.int ch6), .val (.ref b8), .val (.ref b16), .unset, .unset, .unset] [(.int (6 : Int32)), (.int n)]))
                              by_cases hc215 : (6 : Int32) < n
                              · --
                                refine Go.st (fun t k => XS.icmpNo X17.here hx rfl (hb hby at_215) rfl (XT.ii_le_f hc215) k) ?_
                                show Go p.tables e below PP (T17.setTop (mkF m 218 #[.val (.int p1), .val (.long q2), .second, .val (.int n), .val (.int ch0), .val (.int ch1), .val (.int ch2), .val (.int ch3), .val (.int ch4), .val (.int ch5), .val (.int ch6), .val (.ref b8), .val (.ref b16), .unset, .unset, .unset] []))
                                refine Go.st (fun t k => XS.iload X17.here hx rfl (hb hby at_218) rfl k) ?_
                                show Go p.tables e below PP (T17.setTop (mkF m 220 #[.val (.int p1), .val (.long q2), .second, .val (.int n), .val (.int ch0), .val (.int ch1), .val (.int ch2), .val (.int ch3), .val (.int ch4), .val (.int ch5), .val (.int ch6), .val (.ref b8), .val (.ref b16), .unset, .unset, .unset] [(.int ch6)]))
                                refine Go.st (fun t k => XS.bipush X17.here hx rfl (hb hby at_220) k) ?_
                                show Go p.tables e below PP (T17.setTop (mkF m 222 #[.val (.int p1), .val (.long q2), .second, .val (.int n), .val (.int ch0), .val (.int ch1), .val (.int ch2), .val (.int ch3), .val (.int ch4), .val (.int ch5), .val (.int ch6), .val (.ref b8), .val (.ref b16), .unset, .unset, .unset] [(.int (64 : Int32)), (.int ch6)]))
                                by_cases hc222 : ch6 = (64 : Int32)
                                · --
                                  refine Go.st (fun t k => XS.icmpNo X17.here hx rfl (hb hby at_222) rfl (XT.ii_ne_f hc222) k) ?_
                                  show Go p.tables e below PP (T17.setTop (mkF m 225 #[.val (.int p1), .val (.long q2), .second, .val (.int n), .val (.int ch0), .val (.int ch1), .val (.int ch2), .val (.int ch3), .val (.int ch4), .val (.int ch5), .val (.int ch6), .val (.ref b8), .val (.ref b16), .unset, .unset, .unset] []))
                                  refine Go.st (fun t k => XS.iconst X17.here hx rfl (hb hby at_225) k) ?_
                                  show Go p.tables e below PP (T17.setTop (mkF m 226 #[.val (.int p1), .val (.long q2), .second, .val (.int n), .val (.int ch0), .val (.int ch1), .val (.int ch2), .val (.int ch3), .val (.int ch4), .val (.int ch5), .val (.int ch6), .val (.ref b8), .val (.ref b16), .unset, .unset, .unset] [(.int (1 : Int32))]))
                                  refine Go.st (fun t k => XS.goto X17.here hx rfl (pc0 := 226) (pc' := 230) rfl (hb hby at_226) (by decide) (by decide) k) ?_
                                  show Go p.tables e below PP (T17.setTop (mkF m 230 #[.val (.int p1), .val (.long q2), .second, .val (.int n), .val (.int ch0), .val (.int ch1), .val (.int ch2), .val (.int ch3), .val (.int ch4), .val (.int ch5), .val (.int ch6), .val (.ref b8), .val (.ref b16), .unset, .unset, .unset] [(.int (1 : Int32))]))
                                  exact J230 _ _ _ X17 e17 N17 (by simp [bi, hc154, hc166, hc173, hc178, hc190, hc197, hc202, hc215, hc222])
                                · --
                                  refine Go.st (fun t k => XS.icmpYes X17.here hx rfl (pc0 := 222) (pc' := 229) rfl (hb hby at_222) rfl (XT.ii_ne_t hc222) (by decide) (by decide) k) ?_
                                  show Go p.tables e below PP (T17.setTop (mkF m 229 #[.val (.int p1), .val (.long q2), .second, .val (.int n), .val (.int ch0), .val (.int ch1), .val (.int ch2), .val (.int ch3), .val (.int ch4), .val (.int ch5), .val (.int ch6), .val (.ref b8), .val (.ref b16), .unset, .unset, .unset] []))
                                  refine Go.st (fun t k => XS.iconst X17.here hx rfl (hb hby at_229) k) ?_
                                  show Go p.tables e below PP (T17.setTop (mkF m 230 #[.val (.int p1), .val (.long q2), .second, .val (.int n), .val (.int ch0), .val (.int ch1), .val (.int ch2), .val (.int ch3), .val (.int ch4), .val (.int ch5), .val (.int ch6), .val (.ref b8), .val (.ref b16), .unset, .unset, .unset] [(.int (0 : Int32))]))
                                  exact J230 _ _ _ X17 e17 N17 (by simp [bi, hc154, hc166, hc173, hc178, hc190, hc197, hc202, hc215, hc222])
                              · --
                                refine Go.st (fun t k => XS.icmpYes X17.here hx rfl (pc0 := 215) (pc' := 229) rfl (hb hby at_215) rfl (XT.ii_le_t hc215) (by decide) (by decide) k) ?_
                                show Go p.tables e below PP (T17.setTop (mkF m 229 #[.val (.int p1), .val (.long q2), .second, .val (.int n), .val (.int ch0), .val (.int ch1), .val (.int ch2), .val (.int ch3), .val (.int ch4), .val (.int ch5), .val (.int ch6), .val (.ref b8), .val (.ref b16), .unset, .unset, .unset] []))
                                refine Go.st (fun t k => XS.iconst X17.here hx rfl (hb hby at_229) k) ?_
                                show Go p.tables e below PP (T17.setTop (mkF m 230 #[.val (.int p1), .val (.long q2), .second, .val (.int n), .val (.int ch0), .val (.int ch1), .val (.int ch2), .val (.int ch3), .val (.int ch4), .val (.int ch5), .val (.int ch6), .val (.ref b8), .val (.ref b16), .unset, .unset, .unset] [(.int (0 : Int32))]))
                                exact J230 _ _ _ X17 e17 N17 (by simp [bi, hc154, hc166, hc173, hc178, hc190, hc197, hc202, hc215])
                        · --
                          refine Go.st (fun t k => XS.icmpYes X17.here hx rfl (pc0 := 190) (pc' := 200) rfl (hb hby at_190) rfl (XT.ii_le_t hc190) (by decide) (by decide) k) ?_
                          show Go p.tables e below PP (T17.setTop (mkF m 200 #[.val (.int p1), .val (.long q2), .second, .val (.int n), .val (.int ch0), .val (.int ch1), .val (.int ch2), .val (.int ch3), .val (.int ch4), .val (.int ch5), .val (.int ch6), .val (.ref b8), .val (.ref b16), .unset, .unset, .unset] []))
                          refine Go.st (fun t k => XS.iloadN X17.here hx rfl (hb hby at_200) rfl k) ?_
                          show Go p.tables e below PP (T17.setTop (mkF m 201 #[.val (.int p1), .val (.long q2), .second, .val (.int n), .val (.int ch0), .val (.int ch1), .val (.int ch2), .val (.int ch3), .val (.int ch4), .val (.int ch5), .val (.int ch6), .val (.ref b8), .val (.ref b16), .unset, .unset, .unset] [(.int n)]))
                          refine Go.st (fun t k => XS.iconst X17.here hx rfl (hb hby at_201) k) ?_
                          show Go p.tables e below PP (T17.setTop (mkF m 202 #[.val (.int p1), .val (.long q2), .second, .val (.int n), .val (.int ch0), .val (.int ch1), .val (.int ch2), .val (.int ch3), .val (.int ch4), .val (.int ch5), .val (.int ch6), .val (.ref b8), .val (.ref b16), .unset, .unset, .unset] [(.int (5 : Int32)), (.int n)]))
                          by_cases hc202 : (5 : Int32) < n
                          · --
                            refine Go.st (fun t k => XS.icmpNo X17.here hx rfl (hb hby at_202) rfl (XT.ii_le_f hc202) k) ?_
                            show Go p.tables e below PP (T17.setTop (mkF m 205 #[.val (.int p1), .val (.long q2), .second, .val (.int n), .val (.int ch0), .val (.int ch1), .val (.int ch2), .val (.int ch3), .val (.int ch4), .val (.int ch5), .val (.int ch6), .val (.ref b8), .val (.ref b16), .unset, .unset, .unset] []))
                            refine Go.st (fun t k => XS.iload X17.here hx rfl (hb hby at_205) rfl k) ?_
                            show Go p.tables e below PP (T17.setTop (mkF m 207 #[.val (.int p1), .val (.long q2), .second, .val (.int n), .val (.int ch0), .val (.int ch1), .val (.int ch2), .val (.int ch3), .val (.int ch4), .val (.int ch5), .val (.int ch6), .val (.ref b8), .val (.ref b16), .unset, .unset, .unset] [(.int ch5)]))
                            refine Go.st (fun t k => XS.bipush X17.here hx rfl (hb hby at_207) k) ?_
                            show Go p.tables e below PP (T17.setTop (mkF m 209 #[.val (.int p1), .val (.long q2), .second, .val (.int n), .val (.int ch0), .val (.int ch1), .val (.int ch2), .val (.int ch3), .val (.int ch4), .val (.int ch5), .val (.int ch6), .val (.ref b8), .val (.ref b16), .unset, .unset, .unset] [(.int (64 : Int32)), (.int ch5)]))
                            by_cases hc209 : ch5 = (64 : Int32)
                            · --
                              refine Go.st (fun t k => XS.icmpYes X17.here hx rfl (pc0 := 209) (pc' := 225) rfl (hb hby at_209) rfl (XT.ii_eq_t hc209) (by decide) (by decide) k) ?_
                              show Go p.tables e below PP (T17.setTop (mkF m 225 #[.val (.int p1), .val (.long q2), .second, .val (.int n), .val (.int ch0), .val (.int ch1), .val (.int ch2), .val (.int ch3), .val (.int ch4), .val (.int ch5), .val (.int ch6), .val (.ref b8), .val (.ref b16), .unset, .unset, .unset] []))
                              refine Go.st (fun t k => XS.iconst X17.here hx rfl (hb hby at_225) k) ?_
                              show Go p.tables e below PP (T17.setTop (mkF m 226 #[.val (.int p1), .val (.long q2), .second, .val (.int n), .val (.int ch0), .val (.int ch1), .val (.int ch2), .val (.int ch3), .val (.int ch4), .val (.int ch5), .val (.int ch6), .val (.ref b8), .val (.ref b16), .unset, .unset, .unset] [(.int (1 : Int32))]))
                              refine Go.st (fun t k => XS.goto X17.here hx rfl (pc0 := 226) (pc' := 230) rfl (hb hby at_226) (by decide) (by decide) k) ?_
                              show Go p.tables e below PP (T17.setTop (mkF m 230 #[.val (.int p1), .val (.long q2), .second, .val (.int n), .val (.int ch0), .val (.int ch1), .val (.int ch2), .val (.int ch3), .val (.int ch4), .val (.int ch5), .val (.int ch6), .val (.ref b8), .val (.ref b16), .unset, .unset, .unset] [(.int (1 : Int32))]))
                              exact J230 _ _ _ X17 e17 N17 (by simp [bi, hc154, hc166, hc173, hc178, hc190, hc202, hc209])
                            · --
                              refine Go.st (fun t k => XS.icmpNo X17.here hx rfl (hb hby at_209) rfl (XT.ii_eq_f hc209) k) ?_
                              show Go p.tables e below PP (T17.setTop (mkF m 212 #[.val (.int p1), .val (.long q2), .second, .val (.int n), .val (.int ch0), .val (.int ch1), .val (.int ch2), .val (.int ch3), .val (.int ch4), .val (.int ch5), .val (.int ch6), .val (.ref b8), .val (.ref b16), .unset, .unset, .unset] []))
                              refine Go.st (fun t k => XS.iloadN X17.here hx rfl (hb hby at_212) rfl k) ?_
                              show Go p.tables e below PP (T17.setTop (mkF m 213 #[.val (.int p1), .val (.long q2), .second, .val (.int n), .val (.int ch0), .val (.int ch1), .val (.int ch2), .val (.int ch3), .val (.int ch4), .val (.int ch5), .val (.int ch6), .val (.ref b8), .val (.ref b16), .unset, .unset, .unset] [(.int n)]))
                              refine Go.st (fun t k => XS.bipush X17.here hx rfl (hb hby at_213) k) ?_
                              show Go p.tables e below PP (T17.setTop (mkF m 215 #[.val (.int p1), .val (.long q2), .second, .val (.int n), .val (.int ch0), .val (.int ch1), .val (.int ch2), .val (.int ch3), .val (.int ch4), .val (.int ch5), .val (.int ch6), .val (.ref b8), .val (.ref b16), .unset, .unset, .unset] [(.int (6 : Int32)), (.int n)]))
                              by_cases hc215 : (6 : Int32) < n
                              · --
                                refine Go.st (fun t k => XS.icmpNo X17.here hx rfl (hb hby at_215) rfl (XT.ii_le_f hc215) k) ?_
                                show Go p.tables e below PP (T17.setTop (mkF m 218 #[.val (.int p1), .val (.long q2), .second, .val (.int n), .val (.int ch0), .val (.int ch1), .val (.int ch2), .val (.int ch3), .val (.int ch4), .val (.int ch5), .val (.int ch6), .val (.ref b8), .val (.ref b16), .unset, .unset, .unset] []))
                                refine Go.st (fun t k => XS.iload X17.here hx rfl (hb hby at_218) rfl k) ?_
                                show Go p.tables e below PP (T17.setTop (mkF m 220 #[.val (.int p1), .val (.long q2), .second, .val (.int n), .val (.int ch0), .val (.int ch1), .val (.int ch2), .val (.int ch3), .val (.int ch4), .val (.int ch5), .val (.int ch6), .val (.ref b8), .val (.ref b16), .unset, .unset, .unset] [(.int ch6)]))
                                refine Go.st (fun t k => XS.bipush X17.here hx rfl (hb hby at_220) k) ?_
                                show Go p.tables e below PP (T17.setTop (mkF m 222 #[.val (.int p1), .val (.long q2), .second, .val (.int n), .val (.int ch0), .val (.int ch1), .val (.int ch2), .val (.int ch3), .val (.int ch4), .val (.int ch5), .val (.int ch6), .val (.ref b8), .val (.ref b16), .unset, .unset, .unset] [(.int (64 : Int32)), (.int ch6)]))
                                by_cases hc222 : ch6 = (64 : Int32)
                                · --
                                  refine Go.st (fun t k => XS.icmpNo X17.here hx rfl (hb hby at_222) rfl (XT.ii_ne_f hc222) k) ?_
                                  show Go p.tables e below PP (T17.setTop (mkF m 225 #[.val (.int p1), .val (.long q2), .second, .val (.int n), .val (.int ch0), .val (.int ch1), .val (.int ch2), .val (.int ch3), .val (.int ch4), .val (.int ch5), .val (.int ch6), .val (.ref b8), .val (.ref b16), .unset, .unset, .unset] []))
                                  refine Go.st (fun t k => XS.iconst X17.here hx rfl (hb hby at_225) k) ?_
                                  show Go p.tables e below PP (T17.setTop (mkF m 226 #[.val (.int p1), .val (.long q2), .second, .val (.int n), .val (.int ch0), .val (.int ch1), .val (.int ch2), .val (.int ch3), .val (.int ch4), .val (.int ch5), .val (.int ch6), .val (.ref b8), .val (.ref b16), .unset, .unset, .unset] [(.int (1 : Int32))]))
                                  refine Go.st (fun t k => XS.goto X17.here hx rfl (pc0 := 226) (pc' := 230) rfl (hb hby at_226) (by decide) (by decide) k) ?_
                                  show Go p.tables e below PP (T17.setTop (mkF m 230 #[.val (.int p1), .val (.long q2), .second, .val (.int n), .val (.int ch0), .val (.int ch1), .val (.int ch2), .val (.int ch3), .val (.int ch4), .val (.int ch5), .val (.int ch6), .val (.ref b8), .val (.ref b16), .unset, .unset, .unset] [(.int (1 : Int32))]))
                                  exact J230 _ _ _ X17 e17 N17 (by simp [bi, hc154, hc166, hc173, hc178, hc190, hc202, hc209, hc215, hc222])
                                · --
                                  refine Go.st (fun t k => XS.icmpYes X17.here hx rfl (pc0 := 222) (pc' := 229) rfl (hb hby at_222) rfl (XT.ii_ne_t hc222) (by decide) (by decide) k) ?_
                                  show Go p.tables e below PP (T17.setTop (mkF m 229 #[.val (.int p1), .val (.long q2), .second, .val (.int n), .val (.int ch0), .val (.int ch1), .val (.int ch2), .val (.int ch3), .val (.int ch4), .val (.int ch5), .val (.int ch6), .val (.ref b8), .val (.ref b16), .unset, .unset, .unset] []))
                                  refine Go.st (fun t k => XS.iconst X17.here hx rfl (hb hby at_229) k) ?_
                                  show Go p.tables e below PP (T17.setTop (mkF m 230 #[.val (.int p1), .val (.long q2), .second, .val (.int n), .val (.int ch0), .val (.int ch1), .val (.int ch2), .val (.int ch3), .val (.int ch4), .val (.int ch5), .val (.int ch6), .val (.ref b8), .val (.ref b16), .unset, .unset, .unset] [(.int (0 : Int32))]))
                                  exact J230 _ _ _ X17 e17 N17 (by simp [bi, hc154, hc166, hc173, hc178, hc190, hc202, hc209, hc215, hc222])
                              · --
                                refine Go.st (fun t k => XS.icmpYes X17.here hx rfl (pc0 := 215) (pc' := 229) rfl (hb hby at_215) rfl (XT.ii_le_t hc215) (by decide) (by decide) k) ?_
                                show Go p.tables e below PP (T17.setTop (mkF m 229 #[.val (.int p1), .val (.long q2), .second, .val (.int n), .val (.int ch0), .val (.int ch1), .val (.int ch2), .val (.int ch3), .val (.int ch4), .val (.int ch5), .val (.int ch6), .val (.ref b8), .val (.ref b16), .unset, .unset, .unset] []))
                                refine Go.st (fun t k => XS.iconst X17.here hx rfl (hb hby at_229) k) ?_
                                show Go p.tables e below PP (T17.setTop (mkF m 230 #[.val (.int p1), .val (.long q2), .second, .val (.int n), .val (.int ch0), .val (.int ch1), .val (.int ch2), .val (.int ch3), .val (.int ch4), .val (.int ch5), .val (.int ch6), .val (.ref b8), .val (.ref b16), .unset, .unset, .unset] [(.int (0 : Int32))]))
                                exact J230 _ _ _ X17 e17 N17 (by simp [bi, hc154, hc166, hc173, hc178, hc190, hc202, hc209, hc215])
                          · --
                            refine Go.st (fun t k => XS.icmpYes X17.here hx rfl (pc0 := 202) (pc' := 212) rfl (hb hby at_202) rfl (XT.ii_le_t hc202) (by decide) (by decide) k) ?_
                            show Go p.tables e below PP (T17.setTop (mkF m 212 #[.val (.int p1), .val (.long q2), .second, .val (.int n), .val (.int ch0), .val (.int ch1), .val (.int ch2), .val (.int ch3), .val (.int ch4), .val (.int ch5), .val (.int ch6), .val (.ref b8), .val (.ref b16), .unset, .unset, .unset] []))
                            refine Go.st (fun t k => XS.iloadN X17.here hx rfl (hb hby at_212) rfl k) ?_
                            show Go p.tables e below PP (T17.setTop (mkF m 213 #[.val (.int p1), .val (.long q2), .second, .val (.int n), .val (.int ch0), .val (.int ch1), .val (.int ch2), .val (.int ch3), .val (.int ch4), .val (.int ch5), .val (.int ch6), .val (.ref b8), .val (.ref b16), .unset, .unset, .unset] [(.int n)]))
                            refine Go.st (fun t k => XS.bipush X17.here hx rfl (hb hby at_213) k) ?_
                            show Go p.tables e below PP (T17.setTop (mkF m 215 #[.val (.int p1), .val (.long q2), .second, .val (.int n), .val (.int ch0), .val (.int ch1), .val (.int ch2), .val (.int ch3), .val (.int ch4), .val (.int ch5), .val (.int ch6), .val (.ref b8), .val (.ref b16), .unset, .unset, .unset] [(.int (6 : Int32)), (.int n)]))
                            by_cases hc215 : (6 : Int32) < n
                            · --
                              refine Go.st (fun t k => XS.icmpNo X17.here hx rfl (hb hby at_215) rfl (XT.ii_le_f hc215) k) ?_
                              show Go p.tables e below PP (T17.setTop (mkF m 218 #[.val (.int p1), .val (.long q2), .second, .val (.int n), .val (.int ch0), .val (.int ch1), .val (.int ch2), .val (.int ch3), .val (.int ch4), .val (.int ch5), .val (.int ch6), .val (.ref b8), .val (.ref b16), .unset, .unset, .unset] []))
                              refine Go.st (fun t k => XS.iload X17.here hx rfl (hb hby at_218) rfl k) ?_
                              show Go p.tables e below PP (T17.setTop (mkF m 220 #[.val (.int p1), .val (.long q2), .second, .val (.int n), .val (.int ch0), .val (.int ch1), .val (.int ch2), .val (.int ch3), .val (.int ch4), .val (.int ch5), .val (.int ch6), .val (.ref b8), .val (.ref b16), .unset, .unset, .unset] [(.int ch6)]))
                              refine Go.st (fun t k => XS.bipush X17.here hx rfl (hb hby at_220) k) ?_
                              show Go p.tables e below PP (T17.setTop (mkF m 222 #[.val (.int p1), .val (.long q2), .second, .val (.int n), .val (.int ch0), .val (.int ch1), .val (.int ch2), .val (.int ch3), .val (.int ch4), .val (.int ch5), .val (.int ch6), .val (.ref b8), .val (.ref b16), .unset, .unset, .unset] [(.int (64 : Int32)), (.int ch6)]))
                              by_cases hc222 : ch6 = (64 : Int32)
                              · --
                                refine Go.st (fun t k => XS.icmpNo X17.here hx rfl (hb hby at_222) rfl (XT.ii_ne_f hc222) k) ?_
                                show Go p.tables e below PP (T17.setTop (mkF m 225 #[.val (.int p1), .val (.long q2), .second, .val (.int n), .val (.int ch0), .val (.int ch1), .val (.int ch2), .val (.int ch3), .val (.int ch4), .val (.int ch5), .val (.int ch6), .val (.ref b8), .val (.ref b16), .unset, .unset, .unset] []))
                                refine Go.st (fun t k => XS.iconst X17.here hx rfl (hb hby at_225) k) ?_
                                show Go p.tables e below PP (T17.setTop (mkF m 226 #[.val (.int p1), .val (.long q2), .second, .val (.int n), .val (.int ch0), .val (.int ch1), .val (.int ch2), .val (.int ch3), .val (.int ch4), .val (.int ch5), .val (.int ch6), .val (.ref b8), .val (.ref b16), .unset, .unset, .unset] [(.int (1 : Int32))]))
                                refine Go.st (fun t k => XS.goto X17.here hx rfl (pc0 := 226) (pc' := 230) rfl (hb hby at_226) (by decide) (by decide) k) ?_
                                show Go p.tables e below PP (T17.setTop (mkF m 230 #[.val (.int p1), .val (.long q2), .second, .val (.int n), .val (.int ch0), .val (.int ch1), .val (.int ch2), .val (.int ch3), .val (.int ch4), .val (.int ch5), .val (.int ch6), .val (.ref b8), .val (.ref b16), .unset, .unset, .unset] [(.int (1 : Int32))]))
                                exact J230 _ _ _ X17 e17 N17 (by simp [bi, hc154, hc166, hc173, hc178, hc190, hc202, hc215, hc222])
                              · --
                                refine Go.st (fun t k => XS.icmpYes X17.here hx rfl (pc0 := 222) (pc' := 229) rfl (hb hby at_222) rfl (XT.ii_ne_t hc222) (by decide) (by decide) k) ?_
                                show Go p.tables e below PP (T17.setTop (mkF m 229 #[.val (.int p1), .val (.long q2), .second, .val (.int n), .val (.int ch0), .val (.int ch1), .val (.int ch2), .val (.int ch3), .val (.int ch4), .val (.int ch5), .val (.int ch6), .val (.ref b8), .val (.ref b16), .unset, .unset, .unset] []))
                                refine Go.st (fun t k => XS.iconst X17.here hx rfl (hb hby at_229) k) ?_
                                show Go p.tables e below PP (T17.setTop (mkF m 230 #[.val (.int p1), .val (.long q2), .second, .val (.int n), .val (.int ch0), .val (.int ch1), .val (.int ch2), .val (.int ch3), .val (.int ch4), .val (.int ch5), .val (.int ch6), .val (.ref b8), .val (.ref b16), .unset, .unset, .unset] [(.int (0 : Int32))]))
                                exact J230 _ _ _ X17 e17 N17 (by simp [bi, hc154, hc166, hc173, hc178, hc190, hc202, hc215, hc222])
                            · --
                              refine Go.st (fun t k => XS.icmpYes X17.here hx rfl (pc0 := 215) (pc' := 229) rfl (hb hby at_215) rfl (XT.ii_le_t hc215) (by decide) (by decide) k) ?_
                              show Go p.tables e below PP (T17.setTop (mkF m 229 #[.val (.int p1), .val (.long q2), .second, .val (.int n), .val (.int ch0), .val (.int ch1), .val (.int ch2), .val (.int ch3), .val (.int ch4), .val (.int ch5), .val (.int ch6), .val (.ref b8), .val (.ref b16), .unset, .unset, .unset] []))
                              refine Go.st (fun t k => XS.iconst X17.here hx rfl (hb hby at_229) k) ?_
                              show Go p.tables e below PP (T17.setTop (mkF m 230 #[.val (.int p1), .val (.long q2), .second, .val (.int n), .val (.int ch0), .val (.int ch1), .val (.int ch2), .val (.int ch3), .val (.int ch4), .val (.int ch5), .val (.int ch6), .val (.ref b8), .val (.ref b16), .unset, .unset, .unset] [(.int (0 : Int32))]))
                              exact J230 _ _ _ X17 e17 N17 (by simp [bi, hc154, hc166, hc173, hc178, hc190, hc202, hc215])
                  · --
                    refine Go.st (fun t k => XS.icmpYes X17.here hx rfl (pc0 := 166) (pc' := 176) rfl (hb hby at_166) rfl (XT.ii_le_t hc166) (by decide) (by decide) k) ?_
                    show Go p.tables e below PP (T17.setTop (mkF m 176 #[.val (.int p1), .val (.long q2), .second, .val (.int n), .val (.int ch0), .val (.int ch1), .val (.int ch2), .val (.int ch3), .val (.int ch4), .val (.int ch5), .val (.int ch6), .val (.ref b8), .val (.ref b16), .unset, .unset, .unset] []))
                    refine Go.st (fun t k => XS.iloadN X17.here hx rfl (hb hby at_176) rfl k) ?_
                    show Go p.tables e below PP (T17.setTop (mkF m 177 #[.val (.int p1), .val (.long q2), .second, .val (.int n), .val (.int ch0), .val (.int ch1), .val (.int ch2), .val (.int ch3), .val (.int ch4), .val (.int ch5), .val (.int ch6), .val (.ref b8), .val (.ref b16), .unset, .unset, .unset] [(.int n)]))
                    refine Go.st (fun t k => XS.iconst X17.here hx rfl (hb hby at_177) k) ?_
                    show Go p.tables e below PP (T17.setTop (mkF m 178 #[.val (.int p1), .val (.long q2), .second, .val (.int n), .val (.int ch0), .val (.int ch1), .val (.int ch2), .val (.int ch3), .val (.int ch4), .val (.int ch5), .val (.int ch6), .val (.ref b8), .val (.ref b16), .unset, .unset, .unset] [(.int (3 : Int32)), (.int n)]))
                    by_cases hc178 : (3 : Int32) < n
                    · --
                      refine Go.st (fun t k => XS.icmpNo X17.here hx rfl (hb hby at_178) rfl (XT.ii_le_f hc178) k) ?_
                      show Go p.tables e below PP (T17.setTop (mkF m 181 #[.val (.int p1), .val (.long q2), .second, .val (.int n), .val (.int ch0), .val (.int ch1), .val (.int ch2), .val (.int ch3), .val (.int ch4), .val (.int ch5), .val (.int ch6), .val (.ref b8), .val (.ref b16), .unset, .unset, .unset] []))
                      refine Go.st (fun t k => XS.iload X17.here hx rfl (hb hby at_181) rfl k) ?_
                      show Go p.tables e below PP (T17.setTop (mkF m 183 #[.val (.int p1), .val (.long q2), .second, .val (.int n), .val (.int ch0), .val (.int ch1), .val (.int ch2), .val (.int ch3), .val (.int ch4), .val (.int ch5), .val (.int ch6), .val (.ref b8), .val (.ref b16), .unset, .unset, .unset] [(.int ch3)]))
                      refine Go.st (fun t k => XS.bipush X17.here hx rfl (hb hby at_183) k) ?_
                      show Go p.tables e below PP (T17.setTop (mkF m 185 #[.val (.int p1), .val (.long q2), .second, .val (.int n), .val (.int ch0), .val (.int ch1), .val (.int ch2), .val (.int ch3), .val (.int ch4), .val (.int ch5), .val (.int ch6), .val (.ref b8), .val (.ref b16), .unset, .unset, .unset] [(.int (64 : Int32)), (.int ch3)]))
                      by_cases hc185 : ch3 = (64 : Int32)
                      · --
                        refine Go.st (fun t k => XS.icmpYes X17.here hx rfl (pc0 := 185) (pc' := 225) rfl (hb hby at_185) rfl (XT.ii_eq_t hc185) (by decide) (by decide) k) ?_
                        show Go p.tables e below PP (T17.setTop (mkF m 225 #[.val (.int p1), .val (.long q2), .second, .val (.int n), .val (.int ch0), .val (.int ch1), .val (.int ch2), .val (.int ch3), .val (.int ch4), .val (.int ch5), .val (.int ch6), .val (.ref b8), .val (.ref b16), .unset, .unset, .unset] []))
                        refine Go.st (fun t k => XS.iconst X17.here hx rfl (hb hby at_225) k) ?_
                        show Go p.tables e below PP (T17.setTop (mkF m 226 #[.val (.int p1), .val (.long q2), .second, .val (.int n), .val (.int ch0), .val (.int ch1), .val (.int ch2), .val (.int ch3), .val (.int ch4), .val (.int ch5), .val (.int ch6), .val (.ref b8), .val (.ref b16), .unset, .unset, .unset] [(.int (1 : Int32))]))
                        refine Go.st (fun t k => XS.goto X17.here hx rfl (pc0 := 226) (pc' := 230) rfl (hb hby at_226) (by decide) (by decide) k) ?_
                        show Go p.tables e below PP (T17.setTop (mkF m 230 #[.val (.int p1), .val (.long q2), .second, .val (.int n), .val (.int ch0), .val (.int ch1), .val (.int ch2), .val (.int ch3), .val (.int ch4), .val (.int ch5), .val (.int ch6), .val (.ref b8), .val (.ref b16), .unset, .unset, .unset] [(.int (1 : Int32))]))
                        exact J230 _ _ _ X17 e17 N17 (by simp [bi, hc154, hc166, hc178, hc185])
                      · --
                        refine Go.st (fun t k => XS.icmpNo X17.here hx rfl (hb hby at_185) rfl (XT.ii_eq_f hc185) k) ?_
                        show Go p.tables e below PP (T17.setTop (mkF m 188 #[.val (.int p1), .val (.long q2), .second, .val (.int n), .val (.int ch0), .val (.int ch1), .val (.int ch2), .val (.int ch3), .val (.int ch4), .val (.int ch5), .val (.int ch6), .val (.ref b8), .val (.ref b16), .unset, .unset, .unset] []))
                        refine Go.st (fun t k => XS.iloadN X17.here hx rfl (hb hby at_188) rfl k) ?_
                        show Go p.tables e below PP (T17.setTop (mkF m 189 #[.val (.int p1), .val (.long q2), .second, .val (.int n), .val (.int ch0), .val (.int ch1), .val (.int ch2), .val (.int ch3), .val (.int ch4), .val (.int ch5), .val (.int ch6), .val (.ref b8), .val (.ref b16), .unset, .unset, .unset] [(.int n)]))
                        refine Go.st (fun t k => XS.iconst X17.here hx rfl (hb hby at_189) k) ?_
                        show Go p.tables e below PP (T17.setTop (mkF m 190 #[.val (.int p1), .val (.long q2), .second, .val (.int n), .val (.int ch0), .val (.int ch1), .val (.int ch2), .val (.int ch3), .val (.int ch4), .val (.int ch5), .val (.int ch6), .val (.ref b8), .val (.ref b16), .unset, .unset, .unset] [(.int (4 : Int32)), (.int n)]))
                        by_cases hc190 : (4 : Int32) < n
                        · --
                          refine Go.st (fun t k => XS.icmpNo X17.here hx rfl (hb hby at_190) rfl (XT.ii_le_f hc190) k) ?_
                          show Go p.tables e below PP (T17.setTop (mkF m 193 #[.val (.int p1), .val (.long q2), .second, .val (.int n), .val (.int ch0), .val (.int ch1), .val (.int ch2), .val (.int ch3), .val (.int ch4), .val (.int ch5), .val (.int ch6), .val (.ref b8), .val (.ref b16), .unset, .unset, .unset] []))
                          refine Go.st (fun t k => XS.iload X17.here hx rfl (hb hby at_193) rfl k) ?_
                          show Go p.tables e below PP (T17.setTop (mkF m 195 #[.val (.int p1), .val (.long q2), .second, .val (.int n), .val (.int ch0), .val (.int ch1), .val (.int ch2), .val (.int ch3), .val (.int ch4), .val (.int ch5), .val (.int ch6), .val (.ref b8), .val (.ref b16), .unset, .unset, .unset] [(.int ch4)]))
                          refine Go.st (fun t k => XS.bipush X17.here hx rfl (hb hby at_195) k) ?_
                          show Go p.tables e below PP (T17.setTop (mkF m 197 #[.val (.int p1), .val (.long q2), .second, .val (.int n), .val (.int ch0), .val (.int ch1), .val (.int ch2), .val (.int ch3), .val (.int ch4), .val (.int ch5), .val (.int ch6), .val (.ref b8), .val (.ref b16), .unset, .unset, .unset] [(.int (64 : Int32)), (.int ch4)]))
                          by_cases hc197 : ch4 = (64 : Int32)
                          · --
                            refine Go.st (fun t k => XS.icmpYes X17.here hx rfl (pc0 := 197) (pc' := 225) rfl (hb hby at_197) rfl (XT.ii_eq_t hc197) (by decide) (by decide) k) ?_
                            show Go p.tables e below PP (T17.setTop (mkF m 225 #[.val (.int p1), .val (.long q2), .second, .val (.int n), .val (.int ch0), .val (.int ch1), .val (.int ch2), .val (.int ch3), .val (.int ch4), .val (.int ch5), .val (.int ch6), .val (.ref b8), .val (.ref b16), .unset, .unset, .unset] []))
                            refine Go.st (fun t k => XS.iconst X17.here hx rfl (hb hby at_225) k) ?_
                            show Go p.tables e below PP (T17.setTop (mkF m 226 #[.val (.int p1), .val (.long q2), .second, .val (.int n), .val (.int ch0), .val (.int ch1), .val (.int ch2), .val (.int ch3), .val (.int ch4), .val (.int ch5), .val (.int ch6), .val (.ref b8), .val (.ref b16), .unset, .unset, .unset] [(.int (1 : Int32))]))
                            refine Go.st (fun t k => XS.goto X17.here hx rfl (pc0 := 226) (pc' := 230) rfl (hb hby at_226) (by decide) (by decide) k) ?_
                            show Go p.tables e below PP (T17.setTop (mkF m 230 #[.val (.int p1), .val (.long q2), .second, .val (.int n), .val (.int ch0), .val (.int ch1), .val (.int ch2), .val (.int ch3), .val (.int ch4), .val (.int ch5), .val (.int ch6), .val (.ref b8), .val (.ref b16), .unset, .unset, .unset] [(.int (1 : Int32))]))
                            exact J230 _ _ _ X17 e17 N17 (by simp [bi, hc154, hc166, hc178, hc185, hc190, hc197])
                          · --
                            refine Go.st (fun t k => XS.icmpNo X17.here hx rfl (hb hby at_197) rfl (XT.ii_eq_f hc197) k) ?_
                            show Go p.tables e below PP (T17.setTop (mkF m 200 #[.val (.int p1), .val (.long q2), .second, .val (.int n), .val (.int ch0), .val (.int ch1), .val (.int ch2), .val (.int ch3), .val (.int ch4), .val (.int ch5), .val (.int ch6), .val (.ref b8), .val (.ref b16), .unset, .unset, .unset] []))
                            refine Go.st (fun t k => XS.iloadN X17.here hx rfl (hb hby at_200) rfl k) ?_
                            show Go p.tables e below PP (T17.setTop (mkF m 201 #[.val (.int p1), .val (.long q2), .second, .val (.int n), .val (.int ch0), .val (.int ch1), .val (.int ch2), .val (.int ch3), .val (.int ch4), .val (.int ch5), .val (.int ch6), .val (.ref b8), .val (.ref b16), .unset, .unset, .unset] [(.int n)]))
                            refine Go.st (fun t k => XS.iconst X17.here hx rfl (hb hby at_201) k) ?_
                            show Go p.tables e below PP (T17.setTop (mkF m 202 #[.val (.int p1), .val (.long q2), .second, .val (.int n), .val (.int ch0), .val (.int ch1), .val (.int ch2), .val (.int ch3), .val (.int ch4), .val (.int ch5), .val (.int ch6), .val (.ref b8), .val (.ref b16), .unset, .unset, .unset] [(.int (5 : Int32)), (.int n)]))
                            by_cases hc202 : (5 : Int32) < n
                            · --
                              refine Go.st (fun t k => XS.icmpNo X17.here hx rfl (hb hby at_202) rfl (XT.ii_le_f hc202) k) ?_
                              show Go p.tables e below PP (T17.setTop (mkF m 205 #[.val (.int p1), .val (.long q2), .second, .val (.int n), .val (.int ch0), .val (.int ch1), .val (.int ch2), .val (.int ch3), .val (.int ch4), .val (.int ch5), .val (.int ch6), .val (.ref b8), .val (.ref b16), .unset, .unset, .unset] []))
                              refine Go.st (fun t k => XS.iload X17.here hx rfl (hb hby at_205) rfl k) ?_
                              show Go p.tables e below PP (T17.setTop (mkF m 207 #[.val (.int p1), .val (.long q2), .second, .val (.int n), .val (.int ch0), .val (.int ch1), .val (.int ch2), .val (.int ch3), .val (.int ch4), .val (.int ch5), .val (.int ch6), .val (.ref b8), .val (.ref b16), .unset, .unset, .unset] [(.int ch5)]))
                              refine Go.st (fun t k => XS.bipush X17.here hx rfl (hb hby at_207) k) ?_
                              show Go p.tables e below PP (T17.setTop (mkF m 209 #[.val (.int p1), .val (.long q2), .second, .val (.int n), .val (.int ch0), .val (.int ch1), .val (.int ch2), .val (.int ch3), .val (.int ch4), .val (.int ch5), .val (.int ch6), .val (.ref b8), .val (.ref b16), .unset, .unset, .unset] [(.int (64 : Int32)), (.int ch5)]))
                              by_cases hc209 : ch5 = (64 : Int32)
                              · --
                                refine Go.st (fun t k => XS.icmpYes X17.here hx rfl (pc0 := 209) (pc' := 225) rfl (hb hby at_209) rfl (XT.ii_eq_t hc209) (by decide) (by decide) k) ?_
                                show Go p.tables e below PP (T17.setTop (mkF m 225 #[.val (.int p1), .val (.long q2), .second, .val (.int n), .val (.int ch0), .val (.int ch1), .val (.int ch2), .val (.int ch3), .val (.int ch4), .val (.int ch5), .val (.int ch6), .val (.ref b8), .val (.ref b16), .unset, .unset, .unset] []))
                                refine Go.st (fun t k => XS.iconst X17.here hx rfl (hb hby at_225) k) ?_
                                show Go p.tables e below PP (T17.setTop (mkF m 226 #[.val (.int p1), .val (.long q2), .second, .val (.int n), .val (.int ch0), .val (.int ch1), .val (.int ch2), .val (.int ch3), .val (.int ch4), .val (.int ch5), .val (.int ch6), .val (.ref b8), .val (.ref b16), .unset, .unset, .unset] [(.int (1 : Int32))]))
                                refine Go.st (fun t k => XS.goto X17.here hx rfl (pc0 := 226) (pc' := 230) rfl (hb hby at_226) (by decide) (by decide) k) ?_
                                show Go p.tables e below PP (T17.setTop (mkF m 230 #[.val (.int p1), .val (.long q2), .second, .val (.int n), .val (.int ch0), .val (.int ch1), .val (.int ch2), .val (.int ch3), .val (.int ch4), .val (.int ch5), .val (.int ch6), .val (.ref b8), .val (.ref b16), .unset, .unset, .unset] [(.int (1 : Int32))]))
                                exact J230 _ _ _ X17 e17 N17 (by simp [bi, hc154, hc166, hc178, hc185, hc190, hc197, hc202, hc209])
                              · --
                                refine Go.st (fun t k => XS.icmpNo X17.here hx rfl (hb hby at_209) rfl (XT.ii_eq_f hc209) k) ?_
                                show Go p.tables e below PP (T17.setTop (mkF m 212 #[.val (.int p1), .val (.long q2), .second, .val (.int n), .val (.int ch0), .val (.int ch1), .val (.int ch2), .val (.int ch3), .val (.int ch4), .val (.int ch5), .val (.int ch6), .val (.ref b8), .val (.ref b16), .unset, .unset, .unset] []))
                                refine Go.st (fun t k => XS.iloadN X17.here hx rfl (hb hby at_212) rfl k) ?_
                                show Go p.tables e below PP (T17.setTop (mkF m 213 #[.val (.int p1), .val (.long q2), .second, .val (.int n), .val (.int ch0), .val (.int ch1), .val (.int ch2), .val (.int ch3), .val (.int ch4), .val (.int ch5), .val (.int ch6), .val (.ref b8), .val (.ref b16), .unset, .unset, .unset] [(.int n)]))
                                refine Go.st (fun t k => XS.bipush X17.here hx rfl (hb hby at_213) k) ?_
                                show Go p.tables e below PP (T17.setTop (mkF m 215 #[.val (.int p1), .val (.long q2), .second, .val (.int n), .val (.int ch0), .val (.int ch1), .val (.int ch2), .val (.int ch3), .val (.int ch4), .val (.int ch5), .val (.int ch6), .val (.ref b8), .val (.ref b16), .unset, .unset, .unset] [(.int (6 : Int32)), (.int n)]))
                                by_cases hc215 : (6 : Int32) < n
                                · --
                                  refine Go.st (fun t k => XS.icmpNo X17.here hx rfl (hb hby at_215) rfl (XT.ii_le_f hc215) k) ?_
                                  show Go p.tables e below PP (T17.setTop (mkF m 218 #[.val (.int p1), .val (.long q2), .second, .val (.int n), .val (.int ch0), .val (.int ch1), .val (.int ch2), .val (.int ch3), .val (.int ch4), .val (.int ch5), .val (.int ch6), .val (.ref b8), .val (.ref b16), .unset, .unset, .unset] []))
                                  refine Go.st (fun t k => XS.iload X17.here hx rfl (hb hby at_218) rfl k) ?_
                                  show Go p.tables e below PP (T17.setTop (mkF m 220 #[.val (.int p1), .val (.long q2), .second, .val (.int n), .val (.int ch0), .val (.int ch1), .val (.int ch2), .val (.int ch3), .val (.int ch4), .val (.int ch5), .val (.int ch6), .val (.ref b8), .val (.ref b16), .unset, .unset, .unset] [(.int ch6)]))
                                  refine Go.st (fun t k => XS.bipush X17.here hx rfl (hb hby at_220) k) ?_
                                  show Go p.tables e below PP (T17.setTop (mkF m 222 #[.val (.int p1), .val (.long q2), .second, .val (.int n), .val (.int ch0), .val (.int ch1), .val (.int ch2), .val (.int ch3), .val (.int ch4), .val (.int ch5), .val (.int ch6), .val (.ref b8), .val (.ref b16), .unset, .unset, .unset] [(.int (64 : Int32)), (.int ch6)]))
                                  by_cases hc222 : ch6 = (64 : Int32)
                                  · --
                                    refine Go.st (fun t k => XS.icmpNo X17.here hx rfl (hb hby at_222) rfl (XT.ii_ne_f hc222) k) ?_
                                    show Go p.tables e below PP (T17.setTop (mkF m 225 #[.val (.int p1), .val (.long q2), .second, .val (.int n), .val (.int ch0), .val (.int ch1), .val (.int ch2), .val (.int ch3), .val (.int ch4), .val (.int ch5), .val (.int ch6), .val (.ref b8), .val (.ref b16), .unset, .unset, .unset] []))
                                    refine Go.st (fun t k => XS.iconst X17.here hx rfl (hb hby at_225) k) ?_
                                    show Go p.tables e below PP (T17.setTop (mkF m 226 #[.val (.int p1), .val (.long q2), .second, .val (.int n), .val (.int ch0), .val (.int ch1), .val (.int ch2), .val (.int ch3), .val (.int ch4), .val (.int ch5), .val (.int ch6), .val (.ref b8), .val (.ref b16), .unset, .unset, .unset] [(.int (1 : Int32))]))
                                    refine Go.st (fun t k => XS.goto X17.here hx rfl (pc0 := 226) (pc' := 230) rfl (hb hby at_226) (by decide) (by decide) k) ?_
                                    show Go p.tables e below PP (T17.setTop (mkF m 230 #[.val (.int p1), .val (.long q2), .second, .val (.int n), .val (.int ch0), .val (.int ch1), .val (.int ch2), .val (.int ch3), .val (.int ch4), .val (.int ch5), .val (.int ch6), .val (.ref b8), .val (.ref b16), .unset, .unset, .unset] [(.int (1 : Int32))]))
                                    exact J230 _ _ _ X17 e17 N17 (by simp [bi, hc154, hc166, hc178, hc185, hc190, hc197, hc202, hc209, hc215, hc222])
                                  · --
                                    refine Go.st (fun t k => XS.icmpYes X17.here hx rfl (pc0 := 222) (pc' := 229) rfl (hb hby at_222) rfl (XT.ii_ne_t hc222) (by decide) (by decide) k) ?_
                                    show Go p.tables e below PP (T17.setTop (mkF m 229 #[.val (.int p1), .val (.long q2), .second, .val (.int n), .val (.int ch0), .val (.int ch1), .val (.int ch2), .val (.int ch3), .val (.int ch4), .val (.int ch5), .val (.int ch6), .val (.ref b8), .val (.ref b16), .unset, .unset, .unset] []))
                                    refine Go.st (fun t k => XS.iconst X17.here hx rfl (hb hby at_229) k) ?_
                                    show Go p.tables e below PP (T17.setTop (mkF m 230 #[.val (.int p1), .val (.long q2), .second, .val (.int n), .val (.int ch0), .val (.int ch1), .val (.int ch2), .val (.int ch3), .val (.int ch4), .val (.int ch5), .val (.int ch6), .val (.ref b8), .val (.ref b16), .unset, .unset, .unset] [(.int (0 : Int32))]))
                                    exact J230 _ _ _ X17 e17 N17 (by simp [bi, hc154, hc166, hc178, hc185, hc190, hc197, hc202, hc209, hc215, hc222])
                                · --
                                  refine Go.st (fun t k => XS.icmpYes X17.here hx rfl (pc0 := 215) (pc' := 229) rfl (hb hby at_215) rfl (XT.ii_le_t hc215) (by decide) (by decide) k) ?_
                                  show Go p.tables e below PP (T17.setTop (mkF m 229 #[.val (.int p1), .val (.long q2), .second, .val (.int n), .val (.int ch0), .val (.int ch1), .val (.int ch2), .val (.int ch3), .val (.int ch4), .val (.int ch5), .val (.int ch6), .val (.ref b8), .val (.ref b16), .unset, .unset, .unset] []))
                                  refine Go.st (fun t k => XS.iconst X17.here hx rfl (hb hby at_229) k) ?_
                                  show Go p.tables e below PP (T17.setTop (mkF m 230 #[.val (.int p1), .val (.long q2), .second, .val (.int n), .val (.int ch0), .val (.int ch1), .val (.int ch2), .val (.int ch3), .val (.int ch4), .val (.int ch5), .val (.int ch6), .val (.ref b8), .val (.ref b16), .unset, .unset, .unset] [(.int (0 : Int32))]))
                                  exact J230 _ _ _ X17 e17 N17 (by simp [bi, hc154, hc166, hc178, hc185, hc190, hc197, hc202, hc209, hc215])
                            · --
                              refine Go.st (fun t k => XS.icmpYes X17.here hx rfl (pc0 := 202) (pc' := 212) rfl (hb hby at_202) rfl (XT.ii_le_t hc202) (by decide) (by decide) k) ?_
                              show Go p.tables e below PP (T17.setTop (mkF m 212 #[.val (.int p1), .val (.long q2), .second, .val (.int n), .val (.int ch0), .val (.int ch1), .val (.int ch2), .val (.int ch3), .val (.int ch4), .val (.int ch5), .val (.int ch6), .val (.ref b8), .val (.ref b16), .unset, .unset, .unset] []))
                              refine Go.st (fun t k => XS.iloadN X17.here hx rfl (hb hby at_212) rfl k) ?_
                              show Go p.tables e below PP (T17.setTop (mkF m 213 #[.val (.int p1), .val (.long q2), .second, .val (.int n), .val (.int ch0), .val (.int ch1), .val (.int ch2), .val (.int ch3), .val (.int ch4), .val (.int ch5), .val (.int ch6), .val (.ref b8), .val (.ref b16), .unset, .unset, .unset] [(.int n)]))
                              refine Go.st (fun t k => XS.bipush X17.here hx rfl (hb hby at_213) k) ?_
                              show Go p.tables e below PP (T17.setTop (mkF m 215 #[.val (.int p1), .val (.long q2), .second, .val (.int n), .val (.int ch0), .val (.int ch1), .val (.int ch2), .val (.int ch3), .val (.int ch4), .val (.int ch5), .val (.int ch6), .val (.ref b8), .val (.ref b16), .unset, .unset, .unset] [(.int (6 : Int32)), (.int n)]))
                              by_cases hc215 : (6 : Int32) < n
                              · --
                                refine Go.st (fun t k => XS.icmpNo X17.here hx rfl (hb hby at_215) rfl (XT.ii_le_f hc215) k) ?_
                                show Go p.tables e below PP (T17.setTop (mkF m 218 #[.val (.int p1), .val (.long q2), .second, .val (.int n), .val (.int ch0), .val (.int ch1), .val (.int ch2), .val (.int ch3), .val (.int ch4), .val (.int ch5), .val (.int ch6), .val (.ref b8), .val (.ref b16), .unset, .unset, .unset] []))
                                refine Go.st (fun t k => XS.iload X17.here hx rfl (hb hby at_218) rfl k) ?_
                                show Go p.tables e below PP (T17.setTop (mkF m 220 #[.val (.int p1), .val (.long q2), .second, .val (.int n), .val (.int ch0), .val (.int ch1), .val (.int ch2), .val (.int ch3), .val (.int ch4), .val (.int ch5), .val (.int ch6), .val (.ref b8), .val (.ref b16), .unset, .unset, .unset] [(.int ch6)]))
                                refine Go.st (fun t k => XS.bipush X17.here hx rfl (hb hby at_220) k) ?_
                                show Go p.tables e below PP (T17.setTop (mkF m 222 #[.val (.int p1), .val (.long q2), .second, .val (.int n), .val (.int ch0), .val (.int ch1), .val (.int ch2), .val (.int ch3), .val (.int ch4), .val (.int ch5), .val (.int ch6), .val (.ref b8), .val (.ref b16), .unset, .unset, .unset] [(.int (64 : Int32)), (.int ch6)]))
                                by_cases hc222 : ch6 = (64 : Int32)
                                · --
                                  refine Go.st (fun t k => XS.icmpNo X17.here hx rfl (hb hby at_222) rfl (XT.ii_ne_f hc222) k) ?_
                                  show Go p.tables e below PP (T17.setTop (mkF m 225 #[.val (.int p1), .val (.long q2), .second, .val (.int n), .val (.int ch0), .val (.int ch1), .val (.int ch2), .val (.int ch3), .val (.int ch4), .val (.int ch5), .val (.int ch6), .val (.ref b8), .val (.ref b16), .unset, .unset, .unset] []))
                                  refine Go.st (fun t k => XS.iconst X17.here hx rfl (hb hby at_225) k) ?_
                                  show Go p.tables e below PP (T17.setTop (mkF m 226 #[.val (.int p1), .val (.long q2), .second, .val (.int n), .val (.int ch0), .val (.int ch1), .val (.int ch2), .val (.int ch3), .val (.int ch4), .val (.int ch5), .val (.int ch6), .val (.ref b8), .val (.ref b16), .unset, .unset, .unset] [(.int (1 : Int32))]))
                                  refine Go.st (fun t k => XS.goto X17.here hx rfl (pc0 := 226) (pc' := 230) rfl (hb hby at_226) (by decide) (by decide) k) ?_
                                  show Go p.tables e below PP (T17.setTop (mkF m 230 #[.val (.int p1), .val (.long q2), .second, .val (.int n), .val (.int ch0), .val (.int ch1), .val (.int ch2), .val (.int ch3), .val (.int ch4), .val (.int ch5), .val (.int ch6), .val (.ref b8), .val (.ref b16), .unset, .unset, .unset] [(.int (1 : Int32))]))
                                  exact J230 _ _ _ X17 e17 N17 (by simp [bi, hc154, hc166, hc178, hc185, hc190, hc197, hc202, hc215, hc222])
                                · --
                                  refine Go.st (fun t k => XS.icmpYes X17.here hx rfl (pc0 := 222) (pc' := 229) rfl (hb hby at_222) rfl (XT.ii_ne_t hc222) (by decide) (by decide) k) ?_
                                  show Go p.tables e below PP (T17.setTop (mkF m 229 #[.val (.int p1), .val (.long q2), .second, .val (.int n), .val (.int ch0), .val (.int ch1), .val (.int ch2), .val (.int ch3), .val (.int ch4), .val (.int ch5), .val (.int ch6), .val (.ref b8), .val (.ref b16), .unset, .unset, .unset] []))
                                  refine Go.st (fun t k => XS.iconst X17.here hx rfl (hb hby at_229) k) ?_
                                  show Go p.tables e below PP (T17.setTop (mkF m 230 #[.val (.int p1), .val (.long q2), .second, .val (.int n), .val (.int ch0), .val (.int ch1), .val (.int ch2), .val (.int ch3), .val (.int ch4), .val (.int ch5), .val (.int ch6), .val (.ref b8), .val (.ref b16), .unset, .unset, .unset] [(.int (0 : Int32))]))
                                  exact J230 _ _ _ X17 e17 N17 (by simp [bi, hc154, hc166, hc178, hc185, hc190, hc197, hc202, hc215, hc222])
                              · --
                                refine Go.st (fun t k => XS.icmpYes X17.here hx rfl (pc0 := 215) (pc' := 229) rfl (hb hby at_215) rfl (XT.ii_le_t hc215) (by decide) (by decide) k) ?_
                                show Go p.tables e below PP (T17.setTop (mkF m 229 #[.val (.int p1), .val (.long q2), .second, .val (.int n), .val (.int ch0), .val (.int ch1), .val (.int ch2), .val (.int ch3), .val (.int ch4), .val (.int ch5), .val (.int ch6), .val (.ref b8), .val (.ref b16), .unset, .unset, .unset] []))
                                refine Go.st (fun t k => XS.iconst X17.here hx rfl (hb hby at_229) k) ?_
                                show Go p.tables e below PP (T17.setTop (mkF m 230 #[.val (.int p1), .val (.long q2), .second, .val (.int n), .val (.int ch0), .val (.int ch1), .val (.int ch2), .val (.int ch3), .val (.int ch4), .val (.int ch5), .val (.int ch6), .val (.ref b8), .val (.ref b16), .unset, .unset, .unset] [(.int (0 : Int32))]))
                                exact J230 _ _ _ X17 e17 N17 (by simp [bi, hc154, hc166, hc178, hc185, hc190, hc197, hc202, hc215])
                        · --
                          refine Go.st (fun t k => XS.icmpYes X17.here hx rfl (pc0 := 190) (pc' := 200) rfl (hb hby at_190) rfl (XT.ii_le_t hc190) (by decide) (by decide) k) ?_
                          show Go p.tables e below PP (T17.setTop (mkF m 200 #[.val (.int p1), .val (.long q2), .second, .val (.int n), .val (.int ch0), .val (.int ch1), .val (.int ch2), .val (.int ch3), .val (.int ch4), .val (.int ch5), .val (.int ch6), .val (.ref b8), .val (.ref b16), .unset, .unset, .unset] []))
                          refine Go.st (fun t k => XS.iloadN X17.here hx rfl (hb hby at_200) rfl k) ?_
                          show Go p.tables e below PP (T17.setTop (mkF m 201 #[.val (.int p1), .val (.long q2), .second, .val (.int n), .val (.int ch0), .val (.int ch1), .val (.int ch2), .val (.int ch3), .val (.int ch4), .val (.int ch5), .val (.int ch6), .val (.ref b8), .val (.ref b16), .unset, .unset, .unset] [(.int n)]))
                          refine Go.st (fun t k => XS.iconst X17.here hx rfl (hb hby at_201) k) ?_
                          show Go p.tables e below PP (T17.setTop (mkF m 202 #[.val (.int p1), .val (.long q2), .second, .val (.int n), .val (.int ch0), .val (.int ch1), .val (.int ch2), .val (.int ch3), .val (.int ch4), .val (.int ch5), .val (.int ch6), .val (.ref b8), .val (.ref b16), .unset, .unset, .unset] [(.int (5 : Int32)), (.int n)]))
                          by_cases hc202 : (5 : Int32) < n
                          · --
                            refine Go.st (fun t k => XS.icmpNo X17.here hx rfl (hb hby at_202) rfl (XT.ii_le_f hc202) k) ?_
                            show Go p.tables e below PP (T17.setTop (mkF m 205 #[.val (.int p1), .val (.long q2), .second, .val (.int n), .val (.int ch0), .val (.int ch1), .val (.int ch2), .val (.int ch3), .val (.int ch4), .val (.int ch5), .val (.int ch6), .val (.ref b8), .val (.ref b16), .unset, .unset, .unset] []))
                            refine Go.st (fun t k => XS.iload X17.here hx rfl (hb hby at_205) rfl k) ?_
                            show Go p.tables e below PP (T17.setTop (mkF m 207 #[.val (.int p1), .val (.long q2), .second, .val (.int n), .val (.int ch0), .val (.int ch1), .val (.int ch2), .val (.int ch3), .val (.int ch4), .val (.int ch5), .val (.int ch6), .val (.ref b8), .val (.ref b16), .unset, .unset, .unset] [(.int ch5)]))
                            refine Go.st (fun t k => XS.bipush X17.here hx rfl (hb hby at_207) k) ?_
                            show Go p.tables e below PP (T17.setTop (mkF m 209 #[.val (.int p1), .val (.long q2), .second, .val (.int n), .val (.int ch0), .val (.int ch1), .val (.int ch2), .val (.int ch3), .val (.int ch4), .val (.int ch5), .val (.int ch6), .val (.ref b8), .val (.ref b16), .unset, .unset, .unset] [(.int (64 : Int32)), (.int ch5)]))
                            by_cases hc209 : ch5 = (64 : Int32)
                            · --
                              refine Go.st (fun t k => XS.icmpYes X17.here hx rfl (pc0 := 209) (pc' := 225) rfl (hb hby at_209) rfl (XT.ii_eq_t hc209) (by decide) (by decide) k) ?_
                              show Go p.tables e below PP (T17.setTop (mkF m 225 #[.val (.int p1), .val (.long q2), .second, .val (.int n), .val (.int ch0), .val (.int ch1), .val (.int ch2), .val (.int ch3), .val (.int ch4), .val (.int ch5), .val (.int ch6), .val (.ref b8), .val (.ref b16), .unset, .unset, .unset] []))
                              refine Go.st (fun t k => XS.iconst X17.here hx rfl (hb hby at_225) k) ?_
                              show Go p.tables e below PP (T17.setTop (mkF m 226 #[.val (.int p1), .val (.long q2), .second, .val (.int n), .val (.int ch0), .val (.int ch1), .val (.int ch2), .val (.int ch3), .val (.int ch4), .val (.int ch5), .val (.int ch6), .val (.ref b8), .val (.ref b16), .unset, .unset, .unset] [(.int (1 : Int32))]))
                              refine Go.st (fun t k => XS.goto X17.here hx rfl (pc0 := 226) (pc' := 230) rfl (hb hby at_226) (by decide) (by decide) k) ?_
                              show Go p.tables e below PP (T17.setTop (mkF m 230 #[.val (.int p1), .val (.long q2), .second, .val (.int n), .val (.int ch0), .val (.int ch1), .val (.int ch2), .val (.int ch3), .val (.int ch4), .val (.int ch5), .val (.int ch6), .val (.ref b8), .val (.ref b16), .unset, .unset, .unset] [(.int (1 : Int32))]))
                              exact J230 _ _ _ X17 e17 N17 (by simp [bi, hc154, hc166, hc178, hc185, hc190, hc202, hc209])
                            · --
                              refine Go.st (fun t k => XS.icmpNo X17.here hx rfl (hb hby at_209) rfl (XT.ii_eq_f hc209) k) ?_
                              show Go p.tables e below PP (T17.setTop (mkF m 212 #[.val (.int p1), .val (.long q2), .second, .val (.int n), .val (.int ch0), .val (.int ch1), .val (.int ch2), .val (.int ch3), .val (.int ch4), .val (.int ch5), .val (.int ch6), .val (.ref b8), .val (.ref b16), .unset, .unset, .unset] []))
                              refine Go.st (fun t k => XS.iloadN X17.here hx rfl (hb hby at_212) rfl k) ?_
                              show Go p.tables e below PP (T17.setTop (mkF m 213 #[.val (.int p1), .val (.long q2), .second, .val (.int n), .val (.int ch0), .val (.int ch1), .val (.int ch2), .val (.int ch3), .val (.int ch4), .val (.int ch5), .val (.int ch6), .val (.ref b8), .val (.ref b16), .unset, .unset, .unset] [(.int n)]))
                              refine Go.st (fun t k => XS.bipush X17.here hx rfl (hb hby at_213) k) ?_
                              show Go p.tables e below PP (T17.setTop (mkF m 215 #[.val (.int p1), .val (.long q2), .second, .val (.int n), .val (.int ch0), .val (.int ch1), .val (.int ch2), .val (.int ch3), .val (.int ch4), .val (.int ch5), .val (.int ch6), .val (.ref b8), .val (.ref b16), .unset, .unset, .unset] [(.int (6 : Int32)), (.int n)]))
                              by_cases hc215 : (6 : Int32) < n
                              · --
                                refine Go.st (fun t k => XS.icmpNo X17.here hx rfl (hb hby at_215) rfl (XT.ii_le_f hc215) k) ?_
                                show Go p.tables e below PP (T17.setTop (mkF m 218 #[.val (.int p1), .val (.long q2), .second, .val (.int n), .val (.int ch0), .val (.int ch1), .val (.int ch2), .val (.int ch3), .val (.int ch4), .val (.int ch5), .val (.int ch6), .val (.ref b8), .val (.ref b16), .unset, .unset, .unset] []))
                                refine Go.st (fun t k => XS.iload X17.here hx rfl (hb hby at_218) rfl k) ?_
                                show Go p.tables e below PP (T17.setTop (mkF m 220 #[.val (.int p1), .val (.long q2), .second, .val (.int n), .val (.int ch0), .val (.int ch1), .val (.int ch2), .val (.int ch3), .val (.int ch4), .val (.int ch5), .val (.int ch6), .val (.ref b8), .val (.ref b16), .unset, .unset, .unset] [(.int ch6)]))
                                refine Go.st (fun t k => XS.bipush X17.here hx rfl (hb hby at_220) k) ?_
                                show Go p.tables e below PP (T17.setTop (mkF m 222 #[.val (.int p1), .val (.long q2), .second, .val (.int n), .val (.int ch0), .val (.int ch1), .val (.int ch2), .val (.int ch3), .val (.int ch4), .val (.int ch5), .val (.int ch6), .val (.ref b8), .val (.ref b16), .unset, .unset, .unset] [(.int (64 : Int32)), (.int ch6)]))
                                by_cases hc222 : ch6 = (64 : Int32)
                                · --
                                  refine Go.st (fun t k => XS.icmpNo X17.here hx rfl (hb hby at_222) rfl (XT.ii_ne_f hc222) k) ?_
                                  show Go p.tables e below PP (T17.setTop (mkF m 225 #[.val (.int p1), .val (.long q2), .second, .val (.int n), .val (.int ch0), .val (.int ch1), .val (.int ch2), .val (.int ch3), .val (.int ch4), .val (.int ch5), .val (.int ch6), .val (.ref b8), .val (.ref b16), .unset, .unset, .unset] []))
                                  refine Go.st (fun t k => XS.iconst X17.here hx rfl (hb hby at_225) k) ?_
                                  show Go p.tables e below PP (T17.setTop (mkF m 226 #[.val (.int p1), .val (.long q2), .second, .val (.int n), .val (.int ch0), .val (.int ch1), .val (.int ch2), .val (.int ch3), .val (.int ch4), .val (.int ch5), .val (.int ch6), .val (.ref b8), .val (.ref b16), .unset, .unset, .unset] [(.int (1 : Int32))]))
                                  refine Go.st (fun t k => XS.goto X17.here hx rfl (pc0 := 226) (pc' := 230) rfl (hb hby at_226) (by decide) (by decide) k) ?_
                                  show Go p.tables e below PP (T17.setTop (mkF m 230 #[.val (.int p1), .val (.long q2), .second, .val (.int n), .val (.int ch0), .val (.int ch1), .val (.int ch2), .val (.int ch3), .val (.int ch4), .val (.int ch5), .val (.int ch6), .val (.ref b8), .val (.ref b16), .unset, .unset, .unset] [(.int (1 : Int32))]))
                                  exact J230 _ _ _ X17 e17 N17 (by simp [bi, hc154, hc166, hc178, hc185, hc190, hc202, hc209, hc215, hc222])
                                · --
                                  refine Go.st (fun t k => XS.icmpYes X17.here hx rfl (pc0 := 222) (pc' := 229) rfl (hb hby at_222) rfl (XT.ii_ne_t hc222) (by decide) (by decide) k) ?_
                                  show Go p.tables e below PP (T17.setTop (mkF m 229 #[.val (.int p1), .val (.long q2), .second, .val (.int n), .val (.int ch0), .val (.int ch1), .val (.int ch2), .val (.int ch3), .val (.int ch4), .val (.int ch5), .val (.int ch6), .val (.ref b8), .val (.ref b16), .unset, .unset, .unset] []))
                                  refine Go.st (fun t k => XS.iconst X17.here hx rfl (hb hby at_229) k) ?_
                                  show Go p.tables e below PP (T17.setTop (mkF m 230 #[.val (.int p1), .val (.long q2), .second, .val (.int n), .val (.int ch0), .val (.int ch1), .val (.int ch2), .val (.int ch3), .val (.int ch4), .val (.int ch5), .val (.int ch6), .val (.ref b8), .val (.ref b16), .unset, .unset, .unset] [(.int (0 : Int32))]))
                                  exact J230 _ _ _ X17 e17 N17 (by simp [bi, hc154, hc166, hc178, hc185, hc190, hc202, hc209, hc215, hc222])
                              · --
                                refine Go.st (fun t k => XS.icmpYes X17.here hx rfl (pc0 := 215) (pc' := 229) rfl (hb hby at_215) rfl (XT.ii_le_t hc215) (by decide) (by decide) k) ?_
                                show Go p.tables e below PP (T17.setTop (mkF m 229 #[.val (.int p1), .val (.long q2), .second, .val (.int n), .val (.int ch0), .val (.int ch1), .val (.int ch2), .val (.int ch3), .val (.int ch4), .val (.int ch5), .val (.int ch6), .val (.ref b8), .val (.ref b16), .unset, .unset, .unset] []))
                                refine Go.st (fun t k => XS.iconst X17.here hx rfl (hb hby at_229) k) ?_
                                show Go p.tables e below PP (T17.setTop (mkF m 230 #[.val (.int p1), .val (.long q2), .second, .val (.int n), .val (.int ch0), .val (.int ch1), .val (.int ch2), .val (.int ch3), .val (.int ch4), .val (.int ch5), .val (.int ch6), .val (.ref b8), .val (.ref b16), .unset, .unset, .unset] [(.int (0 : Int32))]))
                                exact J230 _ _ _ X17 e17 N17 (by simp [bi, hc154, hc166, hc178, hc185, hc190, hc202, hc209, hc215])
                          · --
                            refine Go.st (fun t k => XS.icmpYes X17.here hx rfl (pc0 := 202) (pc' := 212) rfl (hb hby at_202) rfl (XT.ii_le_t hc202) (by decide) (by decide) k) ?_
                            show Go p.tables e below PP (T17.setTop (mkF m 212 #[.val (.int p1), .val (.long q2), .second, .val (.int n), .val (.int ch0), .val (.int ch1), .val (.int ch2), .val (.int ch3), .val (.int ch4), .val (.int ch5), .val (.int ch6), .val (.ref b8), .val (.ref b16), .unset, .unset, .unset] []))
                            refine Go.st (fun t k => XS.iloadN X17.here hx rfl (hb hby at_212) rfl k) ?_
                            show Go p.tables e below PP (T17.setTop (mkF m 213 #[.val (.int p1), .val (.long q2), .second, .val (.int n), .val (.int ch0), .val (.int ch1), .val (.int ch2), .val (.int ch3), .val (.int ch4), .val (.int ch5), .val (.int ch6), .val (.ref b8), .val (.ref b16), .unset, .unset, .unset] [(.int n)]))
                            refine Go.st (fun t k => XS.bipush X17.here hx rfl (hb hby at_213) k) ?_
                            show Go p.tables e below PP (T17.setTop (mkF m 215 #[.val (.int p1), .val (.long q2), .second, .val (.int n), .val (.int ch0), .val (.int ch1), .val (.int ch2), .val (.int ch3), .val (.int ch4), .val (.int ch5), .val (.int ch6), .val (.ref b8), .val (.ref b16), .unset, .unset, .unset] [(.int (6 : Int32)), (.int n)]))
                            by_cases hc215 : (6 : Int32) < n
                            · --
                              refine Go.st (fun t k => XS.icmpNo X17.here hx rfl (hb hby at_215) rfl (XT.ii_le_f hc215) k) ?_
                              show Go p.tables e below PP (T17.setTop (mkF m 218 #[.val (.int p1), .val (.long q2), .second, .val (.int n), .val (.int ch0), .val (.int ch1), .val (.int ch2), .val (.int ch3), .val (.int ch4), .val (.int ch5), .val (.int ch6), .val (.ref b8), .val (.ref b16), .unset, .unset, .unset] []))
                              refine Go.st (fun t k => XS.iload X17.here hx rfl (hb hby at_218) rfl k) ?_
                              show Go p.tables e below PP (T17.setTop (mkF m 220 #[.val (.int p1), .val (.long q2), .second, .val (.int n), .val (.int ch0), .val (.int ch1), .val (.int ch2), .val (.int ch3), .val (.int ch4), .val (.int ch5), .val (.int ch6), .val (.ref b8), .val (.ref b16), .unset, .unset, .unset] [(.int ch6)]))
                              refine Go.st (fun t k => XS.bipush X17.here hx rfl (hb hby at_220) k) ?_
                              show Go p.tables e below PP (T17.setTop (mkF m 222 #[.val (.int p1), .val (.long q2), .second, .val (.int n), .val (.int ch0), .val (.int ch1), .val (.int ch2), .val (.int ch3), .val (.int ch4), .val (.int ch5), .val (.int ch6), .val (.ref b8), .val (.ref b16), .unset, .unset, .unset] [(.int (64 : Int32)), (.int ch6)]))
                              by_cases hc222 : ch6 = (64 : Int32)
                              · --
                                refine Go.st (fun t k => XS.icmpNo X17.here hx rfl (hb hby at_222) rfl (XT.ii_ne_f hc222) k) ?_
                                show Go p.tables e below PP (T17.setTop (mkF m 225 #[.val (.int p1), .val (.long q2), .second, .val (.int n), .val (.int ch0), .val (.int ch1), .val (.int ch2), .val (.int ch3), .val (.int ch4), .val (.int ch5), .val (.int ch6), .val (.ref b8), .val (.ref b16), .unset, .unset, .unset] []))
                                refine Go.st (fun t k => XS.iconst X17.here hx rfl (hb hby at_225) k) ?_
                                show Go p.tables e below PP (T17.setTop (mkF m 226 #[.val (.int p1), .val (.long q2), .second, .val (.int n), .val (.int ch0), .val (.int ch1), .val (.int ch2), .val (.int ch3), .val (.int ch4), .val (.int ch5), .val (.int ch6), .val (.ref b8), .val (.ref b16), .unset, .unset, .unset] [(.int (1 : Int32))]))
                                refine Go.st (fun t k => XS.goto X17.here hx rfl (pc0 := 226) (pc' := 230) rfl (hb hby at_226) (by decide) (by decide) k) ?_
                                show Go p.tables e below PP (T17.setTop (mkF m 230 #[.val (.int p1), .val (.long q2), .second, .val (.int n), .val (.int ch0), .val (.int ch1), .val (.int ch2), .val (.int ch3), .val (.int ch4), .val (.int ch5), .val (.int ch6), .val (.ref b8), .val (.ref b16), .unset, .unset, .unset] [(.int (1 : Int32))]))
                                exact J230 _ _ _ X17 e17 N17 (by simp [bi, hc154, hc166, hc178, hc185, hc190, hc202, hc215, hc222])
                              · --
                                refine Go.st (fun t k => XS.icmpYes X17.here hx rfl (pc0 := 222) (pc' := 229) rfl (hb hby at_222) rfl (XT.ii_ne_t hc222) (by decide) (by decide) k) ?_
                                show Go p.tables e below PP (T17.setTop (mkF m 229 #[.val (.int p1), .val (.long q2), .second, .val (.int n), .val (.int ch0), .val (.int ch1), .val (.int ch2), .val (.int ch3), .val (.int ch4), .val (.int ch5), .val (.int ch6), .val (.ref b8), .val (.ref b16), .unset, .unset, .unset] []))
                                refine Go.st (fun t k => XS.iconst X17.here hx rfl (hb hby at_229) k) ?_
                                show Go p.tables e below PP (T17.setTop (mkF m 230 #[.val (.int p1), .val (.long q2), .second, .val (.int n), .val (.int ch0), .val (.int ch1), .val (.int ch2), .val (.int ch3), .val (.int ch4), .val (.int ch5), .val (.int ch6), .val (.ref b8), .val (.ref b16), .unset, .unset, .unset] [(.int (0 : Int32))]))
                                exact J230 _ _ _ X17 e17 N17 (by simp [bi, hc154, hc166, hc178, hc185, hc190, hc202, hc215, hc222])
                            · --
                              refine Go.st (fun t k => XS.icmpYes X17.here hx rfl (pc0 := 215) (pc' := 229) rfl (hb hby at_215) rfl (XT.ii_le_t hc215) (by decide) (by decide) k) ?_
                              show Go p.tables e below PP (T17.setTop (mkF m 229 #[.val (.int p1), .val (.long q2), .second, .val (.int n), .val (.int ch0), .val (.int ch1), .val (.int ch2), .val (.int ch3), .val (.int ch4), .val (.int ch5), .val (.int ch6), .val (.ref b8), .val (.ref b16), .unset, .unset, .unset] []))
                              refine Go.st (fun t k => XS.iconst X17.here hx rfl (hb hby at_229) k) ?_
                              show Go p.tables e below PP (T17.setTop (mkF m 230 #[.val (.int p1), .val (.long q2), .second, .val (.int n), .val (.int ch0), .val (.int ch1), .val (.int ch2), .val (.int ch3), .val (.int ch4), .val (.int ch5), .val (.int ch6), .val (.ref b8), .val (.ref b16), .unset, .unset, .unset] [(.int (0 : Int32))]))
                              exact J230 _ _ _ X17 e17 N17 (by simp [bi, hc154, hc166, hc178, hc185, hc190, hc202, hc215])
                    · --
                      refine Go.st (fun t k => XS.icmpYes X17.here hx rfl (pc0 := 178) (pc' := 188) rfl (hb hby at_178) rfl (XT.ii_le_t hc178) (by decide) (by decide) k) ?_
                      show Go p.tables e below PP (T17.setTop (mkF m 188 #[.val (.int p1), .val (.long q2), .second, .val (.int n), .val (.int ch0), .val (.int ch1), .val (.int ch2), .val (.int ch3), .val (.int ch4), .val (.int ch5), .val (.int ch6), .val (.ref b8), .val (.ref b16), .unset, .unset, .unset] []))
                      refine Go.st (fun t k => XS.iloadN X17.here hx rfl (hb hby at_188) rfl k) ?_
                      show Go p.tables e below PP (T17.setTop (mkF m 189 #[.val (.int p1), .val (.long q2), .second, .val (.int n), .val (.int ch0), .val (.int ch1), .val (.int ch2), .val (.int ch3), .val (.int ch4), .val (.int ch5), .val (.int ch6), .val (.ref b8), .val (.ref b16), .unset, .unset, .unset] [(.int n)]))
                      refine Go.st (fun t k => XS.iconst X17.here hx rfl (hb hby at_189) k) ?_
                      show Go p.tables e below PP (T17.setTop (mkF m 190 #[.val (.int p1), .val (.long q2), .second, .val (.int n), .val (.int ch0), .val (.int ch1), .val (.int ch2), .val (.int ch3), .val (.int ch4), .val (.int ch5), .val (.int ch6), .val (.ref b8), .val (.ref b16), .unset, .unset, .unset] [(.int (4 : Int32)), (.int n)]))
                      by_cases hc190 : (4 : Int32) < n
                      · --
                        refine Go.st (fun t k => XS.icmpNo X17.here hx rfl (hb hby at_190) rfl (XT.ii_le_f hc190) k) ?_
                        show Go p.tables e below PP (T17.setTop (mkF m 193 #[.val (.int p1), .val (.long q2), .second, .val (.int n), .val (.int ch0), .val (.int ch1), .val (.int ch2), .val (.int ch3), .val (.int ch4), .val (.int ch5), .val (.int ch6), .val (.ref b8), .val (.ref b16), .unset, .unset, .unset] []))
                        refine Go.st (fun t k => XS.iload X17.here hx rfl (hb hby at_193) rfl k) ?_
                        show Go p.tables e below PP (T17.setTop (mkF m 195 #[.val (.int p1), .val (.long q2), .second, .val (.int n), .val (.int ch0), .val (.int ch1), .val (.int ch2), .val (.int ch3), .val (.int ch4), .val (.int ch5), .val (.int ch6), .val (.ref b8), .val (.ref b16), .unset, .unset, .unset] [(.int ch4)]))
                        refine Go.st (fun t k => XS.bipush X17.here hx rfl (hb hby at_195) k) ?_
                        show Go p.tables e below PP (T17.setTop (mkF m 197 #[.val (.int p1), .val (.long q2), .second, .val (.int n), .val (.int ch0), .val (.int ch1), .val (.int ch2), .val (.int ch3), .val (.int ch4), .val (.int ch5), .val (.int ch6), .val (.ref b8), .val (.ref b16), .unset, .unset, .unset] [(.int (64 : Int32)), (.int ch4)]))
                        by_cases hc197 : ch4 = (64 : Int32)
                        · --
                          refine Go.st (fun t k => XS.icmpYes X17.here hx rfl (pc0 := 197) (pc' := 225) rfl (hb hby at_197) rfl (XT.ii_eq_t hc197) (by decide) (by decide) k) ?_
                          show Go p.tables e below PP (T17.setTop (mkF m 225 #[.val (.int p1), .val (.long q2), .second, .val (.int n), .val (.int ch0), .val (.int ch1), .val (.int ch2), .val (.int ch3), .val (.int ch4), .val (.int ch5), .val (.int ch6), .val (.ref b8), .val (.ref b16), .unset, .unset, .unset] []))
                          refine Go.st (fun t k => XS.iconst X17.here hx rfl (hb hby at_225) k) ?_
                          show Go p.tables e below PP (T17.setTop (mkF m 226 #[.val (.int p1), .val (.long q2), .second, .val (.int n), .val (.int ch0), .val (.int ch1), .val (.int ch2), .val (.int ch3), .val (.int ch4), .val (.int ch5), .val (.int ch6), .val (.ref b8), .val (.ref b16), .unset, .unset, .unset] [(.int (1 : Int32))]))
                          refine Go.st (fun t k => XS.goto X17.here hx rfl (pc0 := 226) (pc' := 230) rfl (hb hby at_226) (by decide) (by decide) k) ?_
                          show Go p.tables e below PP (T17.setTop (mkF m 230 #[.val (.int p1), .val (.long q2), .second, .val (.int n), .val (.int ch0), .val (.int ch1), .val (.int ch2), .val (.int ch3), .val (.int ch4), .val (.int ch5), .val (.int ch6), .val (.ref b8), .val (.ref b16), .unset, .unset, .unset] [(.int (1 : Int32))]))
                          exact J230 _ _ _ X17 e17 N17 (by simp [bi, hc154, hc166, hc178, hc190, hc197])
                        · --
                          refine Go.st (fun t k => XS.icmpNo X17.here hx rfl (hb hby at_197) rfl (XT.ii_eq_f hc197) k) ?_
                          show Go p.tables e below PP (T17.setTop (mkF m 200 #[.val (.int p1), .val (.long q2), .second, .val (.int n), .val (.int ch0), .val (.int ch1), .val (.int ch2), .val (.int ch3), .val (.int ch4), .val (.int ch5), .val (.int ch6), .val (.ref b8), .val (.ref b16), .unset, .unset, .unset] []))
                          refine Go.st (fun t k => XS.iloadN X17.here hx rfl (hb hby at_200) rfl k) ?_
                          show Go p.tables e below PP (T17.setTop (mkF m 201 #[.val (.int p1), .val (.long q2), .second, .val (.int n), .val (.int ch0), .val (.int ch1), .val (.int ch2), .val (.int ch3), .val (.int ch4), .val (.int ch5), .val (.int ch6), .val (.ref b8), .val (.ref b16), .unset, .unset, .unset] [(.int n)]))
                          refine Go.st (fun t k => XS.iconst X17.here hx rfl (hb hby at_201) k) ?_
                          show Go p.tables e below PP (T17.setTop (mkF m 202 #[.val (.int p1), .val (.long q2), .second, .val (.int n), .val (.int ch0), .val (.int ch1), .val (.int ch2), .val (.int ch3), .val (.int ch4), .val (.int ch5), .val (.int ch6), .val (.ref b8), .val (.ref b16), .unset, .unset, .unset] [(.int (5 : Int32)), (.int n)]))
                          by_cases hc202 : (5 : Int32) < n
                          · --
                            refine Go.st (fun t k => XS.icmpNo X17.here hx rfl (hb hby at_202) rfl (XT.ii_le_f hc202) k) ?_
                            show Go p.tables e below PP (T17.setTop (mkF m 205 #[.val (.int p1), .val (.long q2), .second, .val (.int n), .val (.int ch0), .val (.int ch1), .val (.int ch2), .val (.int ch3), .val (.int ch4), .val (.int ch5), .val (.int ch6), .val (.ref b8), .val (.ref b16), .unset, .unset, .unset] []))
                            refine Go.st (fun t k => XS.iload X17.here hx rfl (hb hby at_205) rfl k) ?_
                            show Go p.tables e below PP (T17.setTop (mkF m 207 #[.val (.int p1), .val (.long q2), .second, .val (.int n), .val (.int ch0), .val (.int ch1), .val (.int ch2), .val (.int ch3), .val (.int ch4), .val (.int ch5), .val (.int ch6), .val (.ref b8), .val (.ref b16), .unset, .unset, .unset] [(.int ch5)]))
                            refine Go.st (fun t k => XS.bipush X17.here hx rfl (hb hby at_207) k) ?_
                            show Go p.tables e below PP (T17.setTop (mkF m 209 #[.val (.int p1), .val (.long q2), .second, .val (.int n), .val (.int ch0), .val (.int ch1), .val (.int ch2), .val (.int ch3), .val (.int ch4), .val (.int ch5), .val (.int ch6), .val (.ref b8), .val (.ref b16), .unset, .unset, .unset] [(.int (64 : Int32)), (.int ch5)]))
                            by_cases hc209 : ch5 = (64 : Int32)
                            · --
                              refine Go.st (fun t k => XS.icmpYes X17.here hx rfl (pc0 := 209) (pc' := 225) rfl (hb hby at_209) rfl (XT.ii_eq_t hc209) (by decide) (by decide) k) ?_
                              show Go p.tables e below PP (T17.setTop (mkF m 225 #[.val (.int p1), .val (.long q2), .second, .val (.int n), .val (.int ch0), .val (.int ch1), .val (.int ch2), .val (.int ch3), .val (.int ch4), .val (.int ch5), .val (.int ch6), .val (.ref b8), .val (.ref b16), .unset, .unset, .unset] []))
                              refine Go.st (fun t k => XS.iconst X17.here hx rfl (hb hby at_225) k) ?_
                              show Go p.tables e below PP (T17.setTop (mkF m 226 #[.val (.int p1), .val (.long q2), .second, .val (.int n), .val (.int ch0), .val (.int ch1), .val (.int ch2), .val (.int ch3), .val (.int ch4), .val (.int ch5), .val (.int ch6), .val (.ref b8), .val (.ref b16), .unset, .unset, .unset] [(.int (1 : Int32))]))
                              refine Go.st (fun t k => XS.goto X17.here hx rfl (pc0 := 226) (pc' := 230) rfl (hb hby at_226) (by decide) (by decide) k) ?_
                              show Go p.tables e below PP (T17.setTop (mkF m 230 #[.val (.int p1), .val (.long q2), .second, .val (.int n), .val (.int ch0), .val (.int ch1), .val (.int ch2), .val (.int ch3), .val (.int ch4), .val (.int ch5), .val (.int ch6), .val (.ref b8), .val (.ref b16), .unset, .unset, .unset] [(.int (1 : Int32))]))
                              exact J230 _ _ _ X17 e17 N17 (by simp [bi, hc154, hc166, hc178, hc190, hc197, hc202, hc209])
                            · --
                              refine Go.st (fun t k => XS.icmpNo X17.here hx rfl (hb hby at_209) rfl (XT.ii_eq_f hc209) k) ?_
                              show Go p.tables e below PP (T17.setTop (mkF m 212 #[.val (.int p1), .val (.long q2), .second, .val (.int n), .val (.int ch0), .val (.int ch1), .val (.int ch2), .val (.int ch3), .val (.int ch4), .val (.int ch5), .val (.int ch6), .val (.ref b8), .val (.ref b16), .unset, .unset, .unset] []))
                              refine Go.st (fun t k => XS.iloadN X17.here hx rfl (hb hby at_212) rfl k) ?_
                              show Go p.tables e below PP (T17.setTop (mkF m 213 #[.val (.int p1), .val (.long q2), .second, .val (.int n), .val (.int ch0), .val (.int ch1), .val (.int ch2), .val (.int ch3), .val (.int ch4), .val (.int ch5), .val (.int ch6), .val (.ref b8), .val (.ref b16), .unset, .unset, .unset] [(.int n)]))
                              refine Go.st (fun t k => XS.bipush X17.here hx rfl (hb hby at_213) k) ?_
                              show Go p.tables e below PP (T17.setTop (mkF m 215 #[.val (.int p1), .val (.long q2), .second, .val (.int n), .val (.int ch0), .val (.int ch1), .val (.int ch2), .val (.int ch3), .val (.int ch4), .val (.int ch5), .val (.int ch6), .val (.ref b8), .val (.ref b16), .unset, .unset, .unset] [(.int (6 : Int32)), (.int n)]))
                              by_cases hc215 : (6 : Int32) < n
                              · --
                                refine Go.st (fun t k => XS.icmpNo X17.here hx rfl (hb hby at_215) rfl (XT.ii_le_f hc215) k) ?_
                                show Go p.tables e below PP (T17.setTop (mkF m 218 #[.val (.int p1), .val (.long q2), .second, .val (.int n), .val (.int ch0), .val (.int ch1), .val (.int ch2), .val (.int ch3), .val (.int ch4), .val (.int ch5), .val (.int ch6), .val (.ref b8), .val (.ref b16), .unset, .unset, .unset] []))
                                refine Go.st (fun t k => XS.iload X17.here hx rfl (hb hby at_218) rfl k) ?_
                                show Go p.tables e below PP (T17.setTop (mkF m 220 #[.val (.int p1), .val (.long q2), .second, .val (.int n), .val (.int ch0), .val (.int ch1), .val (.int ch2), .val (.int ch3), .val (.int ch4), .val (.int ch5), .val (.int ch6), .val (.ref b8), .val (.ref b16), .unset, .unset, .unset] [(.int ch6)]))
                                refine Go.st (fun t k => XS.bipush X17.here hx rfl (hb hby at_220) k) ?_
                                show Go p.tables e below PP (T17.setTop (mkF m 222 #[.val (.int p1), .val (.long q2), .second, .val (.int n), .val (.int ch0), .val (.int ch1), .val (.int ch2), .val (.int ch3), .val (.int ch4), .val (.int ch5), .val (.int ch6), .val (.ref b8), .val (.ref b16), .unset, .unset, .unset] [(.int (64 : Int32)), (.int ch6)]))
                                by_cases hc222 : ch6 = (64 : Int32)
                                · --
                                  refine Go.st (fun t k => XS.icmpNo X17.here hx rfl (hb hby at_222) rfl (XT.ii_ne_f hc222) k) ?_
                                  show Go p.tables e below PP (T17.setTop (mkF m 225 #[.val (.int p1), .val (.long q2), .second, .val (.int n), .val (.int ch0), .val (.int ch1), .val (.int ch2), .val (.int ch3), .val (.int ch4), .val (.int ch5), .val (.int ch6), .val (.ref b8), .val (.ref b16), .unset, .unset, .unset] []))
                                  refine Go.st (fun t k => XS.iconst X17.here hx rfl (hb hby at_225) k) ?_
                                  show Go p.tables e below PP (T17.setTop (mkF m 226 #[.val (.int p1), .val (.long q2), .second, .val (.int n), .val (.int ch0), .val (.int ch1), .val (.int ch2), .val (.int ch3), .val (.int ch4), .val (.int ch5), .val (.int ch6), .val (.ref b8), .val (.ref b16), .unset, .unset, .unset] [(.int (1 : Int32))]))
                                  refine Go.st (fun t k => XS.goto X17.here hx rfl (pc0 := 226) (pc' := 230) rfl (hb hby at_226) (by decide) (by decide) k) ?_
                                  show Go p.tables e below PP (T17.setTop (mkF m 230 #[.val (.int p1), .val (.long q2), .second, .val (.int n), .val (.int ch0), .val (.int ch1), .val (.int ch2), .val (.int ch3), .val (.int ch4), .val (.int ch5), .val (.int ch6), .val (.ref b8), .val (.ref b16), .unset, .unset, .unset] [(.int (1 : Int32))]))
                                  exact J230 _ _ _ X17 e17 N17 (by simp [bi, hc154, hc166, hc178, hc190, hc197, hc202, hc209, hc215, hc222])
                                · --
                                  refine Go.st (fun t k => XS.icmpYes X17.here hx rfl (pc0 := 222) (pc' := 229) rfl (hb hby at_222) rfl (XT.ii_ne_t hc222) (by decide) (by decide) k) ?_
                                  show Go p.tables e below PP (T17.setTop (mkF m 229 #[.val (.int p1), .val (.long q2), .second, .val (.int n), .val (.int ch0), .val (.int ch1), .val (.int ch2), .val (.int ch3), .val (.int ch4), .val (.int ch5), .val (.int ch6), .val (.ref b8), .val (.ref b16), .unset, .unset, .unset] []))
                                  refine Go.st (fun t k => XS.iconst X17.here hx rfl (hb hby at_229) k) ?_
                                  show Go p.tables e below PP (T17.setTop (mkF m 230 #[.val (.int p1), .val (.long q2), .second, .val (.int n), .val (.int ch0), .val (.int ch1), .val (.int ch2), .val (.int ch3), .val (.int ch4), .val (.int ch5), .val (.int ch6), .val (.ref b8), .val (.ref b16), .unset, .unset, .unset] [(.int (0 : Int32))]))
                                  exact J230 _ _ _ X17 e17 N17 (by simp [bi, hc154, hc166, hc178, hc190, hc197, hc202, hc209, hc215, hc222])
                              · --
                                refine Go.st (fun t k => XS.icmpYes X17.here hx rfl (pc0 := 215) (pc' := 229) rfl (hb hby at_215) rfl (XT.ii_le_t hc215) (by decide) (by decide) k) ?_
                                show Go p.tables e below PP (T17.setTop (mkF m 229 #[.val (.int p1), .val (.long q2), .second, .val (.int n), .val (.int ch0), .val (.int ch1), .val (.int ch2), .val (.int ch3), .val (.int ch4), .val (.int ch5), .val (.int ch6), .val (.ref b8), .val (.ref b16), .unset, .unset, .unset] []))
                                refine Go.st (fun t k => XS.iconst X17.here hx rfl (hb hby at_229) k) ?_
                                show Go p.tables e below PP (T17.setTop (mkF m 230 #[.val (.int p1), .val (.long q2), .second, .val (.int n), .val (.int ch0), .val (.int ch1), .val (.int ch2), .val (.int ch3), .val (.int ch4), .val (.int ch5), .val (.int ch6), .val (.ref b8), .val (.ref b16), .unset, .unset, .unset] [(.int (0 : Int32))]))
                                exact J230 _ _ _ X17 e17 N17 (by simp [bi, hc154, hc166, hc178, hc190, hc197, hc202, hc209, hc215])
                          · --
                            refine Go.st (fun t k => XS.icmpYes X17.here hx rfl (pc0 := 202) (pc' := 212) rfl (hb hby at_202) rfl (XT.ii_le_t hc202) (by decide) (by decide) k) ?_
                            show Go p.tables e below PP (T17.setTop (mkF m 212 #[.val (.int p1), .val (.long q2), .second, .val (.int n), .val (.int ch0), .val (.int ch1), .val (.int ch2), .val (.int ch3), .val (.int ch4), .val (.int ch5), .val (.int ch6), .val (.ref b8), .val (.ref b16), .unset, .unset, .unset] []))
                            refine Go.st (fun t k => XS.iloadN X17.here hx rfl (hb hby at_212) rfl k) ?_
                            show Go p.tables e below PP (T17.setTop (mkF m 213 #[.val (.int p1), .val (.long q2), .second, .val (.int n), .val (.int ch0), .val (.int ch1), .val (.int ch2), .val (.int ch3), .val (.int ch4), .val (.int ch5), .val (.int ch6), .val (.ref b8), .val (.ref b16), .unset, .unset, .unset] [(.int n)]))
                            refine Go.st (fun t k => XS.bipush X17.here hx rfl (hb hby at_213) k) ?_
                            show Go p.tables e below PP (T17.setTop (mkF m 215 #[.val (.int p1), .val (.long q2), .second, .val (.int n), .val (.int ch0), .val (.int ch1), .val (.int ch2), .val (.int ch3), .val (.int ch4), .val (.int ch5), .val (.int ch6), .val (.ref b8), .val (.ref b16), .unset, .unset, .unset] [(.int (6 : Int32)), (.int n)]))
                            by_cases hc215 : (6 : Int32) < n
                            · --
                              refine Go.st (fun t k => XS.icmpNo X17.here hx rfl (hb hby at_215) rfl (XT.ii_le_f hc215) k) ?_
                              show Go p.tables e below PP (T17.setTop (mkF m 218 #[.val (.int p1), .val (.long q2), .second, .val (.int n), .val (.int ch0), .val (.int ch1), .val (.int ch2), .val (.int ch3), .val (.int ch4), .val (.int ch5), .val (.int ch6), .val (.ref b8), .val (.ref b16), .unset, .unset, .unset] []))
                              refine Go.st (fun t k => XS.iload X17.here hx rfl (hb hby at_218) rfl k) ?_
                              show Go p.tables e below PP (T17.setTop (mkF m 220 #[.val (.int p1), .val (.long q2), .second, .val (.int n), .val (.int ch0), .val (.int ch1), .val (.int ch2), .val (.int ch3), .val (.int ch4), .val (.int ch5), .val (.int ch6), .val (.ref b8), .val (.ref b16), .unset, .unset, .unset] [(.int ch6)]))
                              refine Go.st (fun t k => XS.bipush X17.here hx rfl (hb hby at_220) k) ?_
                              show Go p.tables e below PP (T17.setTop (mkF m 222 #[.val (.int p1), .val (.long q2), .second, .val (.int n), .val (.int ch0), .val (.int ch1), .val (.int ch2), .val (.int ch3), .val (.int ch4), .val (.int ch5), .val (.int ch6), .val (.ref b8), .val (.ref b16), .unset, .unset, .unset] [(.int (64 : Int32)), (.int ch6)]))
                              by_cases hc222 : ch6 = (64 : Int32)
                              · --
                                refine Go.st (fun t k => XS.icmpNo X17.here hx rfl (hb hby at_222) rfl (XT.ii_ne_f hc222) k) ?_
                                show Go p.tables e below PP (T17.setTop (mkF m 225 #[.val (.int p1), .val (.long q2), .second, .val (.int n), .val (.int ch0), .val (.int ch1), .val (.int ch2), .val (.int ch3), .val (.int ch4), .val (.int ch5), .val (.int ch6), .val (.ref b8), .val (.ref b16), .unset, .unset, .unset] []))
                                refine Go.st (fun t k => XS.iconst X17.here hx rfl (hb hby at_225) k) ?_
                                show Go p.tables e below PP (T17.setTop (mkF m 226 #[.val (.int p1), .val (.long q2), .second, .val (.int n), .val (.int ch0), .val (.int ch1), .val (.int ch2), .val (.int ch3), .val (.int ch4), .val (.int ch5), .val (.int ch6), .val (.ref b8), .val (.ref b16), .unset, .unset, .unset] [(.int (1 : Int32))]))
                                refine Go.st (fun t k => XS.goto X17.here hx rfl (pc0 := 226) (pc' := 230) rfl (hb hby at_226) (by decide) (by decide) k) ?_
                                show Go p.tables e below PP (T17.setTop (mkF m 230 #[.val (.int p1), .val (.long q2), .second, .val (.int n), .val (.int ch0), .val (.int ch1), .val (.int ch2), .val (.int ch3), .val (.int ch4), .val (.int ch5), .val (.int ch6), .val (.ref b8), .val (.ref b16), .unset, .unset, .unset] [(.int (1 : Int32))]))
                                exact J230 _ _ _ X17 e17 N17 (by simp [bi, hc154, hc166, hc178, hc190, hc197, hc202, hc215, hc222])
                              · --
                                refine Go.st (fun t k => XS.icmpYes X17.here hx rfl (pc0 := 222) (pc' := 229) rfl (hb hby at_222) rfl (XT.ii_ne_t hc222) (by decide) (by decide) k) ?_
                                show Go p.tables e below PP (T17.setTop (mkF m 229 #[.val (.int p1), .val (.long q2), .second, .val (.int n), .val (.int ch0), .val (.int ch1), .val (.int ch2), .val (.int ch3), .val (.int ch4), .val (.int ch5), .val (.int ch6), .val (.ref b8), .val (.ref b16), .unset, .unset, .unset] []))
                                refine Go.st (fun t k => XS.iconst X17.here hx rfl (hb hby at_229) k) ?_
                                show Go p.tables e below PP (T17.setTop (mkF m 230 #[.val (.int p1), .val (.long q2), .second, .val (.int n), .val (.int ch0), .val (.int ch1), .val (.int ch2), .val (.int ch3), .val (.int ch4), .val (.int ch5), .val (.int ch6), .val (.ref b8), .val (.ref b16), .unset, .unset, .unset] [(.int (0 : Int32))]))
                                exact J230 _ _ _ X17 e17 N17 (by simp [bi, hc154, hc166, hc178, hc190, hc197, hc202, hc215, hc222])
                            · --
                              refine Go.st (fun t k => XS.icmpYes X17.here hx rfl (pc0 := 215) (pc' := 229) rfl (hb hby at_215) rfl (XT.ii_le_t hc215) (by decide) (by decide) k) ?_
                              show Go p.tables e below PP (T17.setTop (mkF m 229 #[.val (.int p1), .val (.long q2), .second, .val (.int n), .val (.int ch0), .val (.int ch1), .val (.int ch2), .val (.int ch3), .val (.int ch4), .val (.int ch5), .val (.int ch6), .val (.ref b8), .val (.ref b16), .unset, .unset, .unset] []))
                              refine Go.st (fun t k => XS.iconst X17.here hx rfl (hb hby at_229) k) ?_
                              show Go p.tables e below PP (T17.setTop (mkF m 230 #[.val (.int p1), .val (.long q2), .second, .val (.int n), .val (.int ch0), .val (.int ch1), .val (.int ch2), .val (.int ch3), .val (.int ch4), .val (.int ch5), .val (.int ch6), .val (.ref b8), .val (.ref b16), .unset, .unset, .unset] [(.int (0 : Int32))]))
                              exact J230 _ _ _ X17 e17 N17 (by simp [bi, hc154, hc166, hc178, hc190, hc197, hc202, hc215])
                      · --
                        refine Go.st (fun t k => XS.icmpYes X17.here hx rfl (pc0 := 190) (pc' := 200) rfl (hb hby at_190) rfl (XT.ii_le_t hc190) (by decide) (by decide) k) ?_
                        show Go p.tables e below PP (T17.setTop (mkF m 200 #[.val (.int p1), .val (.long q2), .second, .val (.int n), .val (.int ch0), .val (.int ch1), .val (.int ch2), .val (.int ch3), .val (.int ch4), .val (.int ch5), .val (.int ch6), .val (.ref b8), .val (.ref b16), .unset, .unset, .unset] []))
                        refine Go.st (fun t k => XS.iloadN X17.here hx rfl (hb hby at_200) rfl k) ?_
                        show Go p.tables e below PP (T17.setTop (mkF m 201 #[.val (.int p1), .val (.long q2), .second, .val (.int n), .val (.int ch0), .val (.int ch1), .val (.int ch2), .val (.int ch3), .val (.int ch4), .val (.int ch5), .val (.int ch6), .val (.ref b8), .val (.ref b16), .unset, .unset, .unset] [(.int n)]))
                        refine Go.st (fun t k => XS.iconst X17.here hx rfl (hb hby at_201) k) ?_
                        show Go p.tables e below PP (T17.setTop (mkF m 202 #[.val (.int p1), .val (.long q2), .second, .val (.int n), .val (.int ch0), .val (.int ch1), .val (.int ch2), .val (.int ch3), .val (.int ch4), .val (.int ch5), .val (.int ch6), .val (.ref b8), .val (.ref b16), .unset, .unset, .unset] [(.int (5 : Int32)), (.int n)]))
                        by_cases hc202 : (5 : Int32) < n
                        · --
                          refine Go.st (fun t k => XS.icmpNo X17.here hx rfl (hb hby at_202) rfl (XT.ii_le_f hc202) k) ?_
                          show Go p.tables e below PP (T17.setTop (mkF m 205 #[.val (.int p1), .val (.long q2), .second, .val (.int n), .val (.int ch0), .val (.int ch1), .val (.int ch2), .val (.int ch3), .val (.int ch4), .val (.int ch5), .val (.int ch6), .val (.ref b8), .val (.ref b16), .unset, .unset, .unset] []))
                          refine Go.st (fun t k => XS.iload X17.here hx rfl (hb hby at_205) rfl k) ?_
                          show Go p.tables e below PP (T17.setTop (mkF m 207 #[.val (.int p1), .val (.long q2), .second, .val (.int n), .val (.int ch0), .val (.int ch1), .val (.int ch2), .val (.int ch3), .val (.int ch4), .val (.int ch5), .val (.int ch6), .val (.ref b8), .val (.ref b16), .unset, .unset, .unset] [(.int ch5)]))
                          refine Go.st (fun t k => XS.bipush X17.here hx rfl (hb hby at_207) k) ?_
                          show Go p.tables e below PP (T17.setTop (mkF m 209 #[.val (.int p1), .val (.long q2), .second, .val (.int n), .val (.int ch0), .val (.int ch1), .val (.int ch2), .val (.int ch3), .val (.int ch4), .val (.int ch5), .val (.int ch6), .val (.ref b8), .val (.ref b16), .unset, .unset, .unset] [(.int (64 : Int32)), (.int ch5)]))
                          by_cases hc209 : ch5 = (64 : Int32)
                          · --
                            refine Go.st (fun t k => XS.icmpYes X17.here hx rfl (pc0 := 209) (pc' := 225) rfl (hb hby at_209) rfl (XT.ii_eq_t hc209) (by decide) (by decide) k) ?_
                            show Go p.tables e below PP (T17.setTop (mkF m 225 #[.val (.int p1), .val (.long q2), .second, .val (.int n), .val (.int ch0), .val (.int ch1), .val (.int ch2), .val (.int ch3), .val (.int ch4), .val (.int ch5), .val (.int ch6), .val (.ref b8), .val (.ref b16), .unset, .unset, .unset] []))
                            refine Go.st (fun t k => XS.iconst X17.here hx rfl (hb hby at_225) k) ?_
                            show Go p.tables e below PP (T17.setTop (mkF m 226 #[.val (.int p1), .val (.long q2), .second, .val (.int n), .val (.int ch0), .val (.int ch1), .val (.int ch2), .val (.int ch3), .val (.int ch4), .val (.int ch5), .val (.int ch6), .val (.ref b8), .val (.ref b16), .unset, .unset, .unset] [(.int (1 : Int32))]))
                            refine Go.st (fun t k => XS.goto X17.here hx rfl (pc0 := 226) (pc' := 230) rfl (hb hby at_226) (by decide) (by decide) k) ?_
                            show Go p.tables e below PP (T17.setTop (mkF m 230 #[.val (.int p1), .val (.long q2), .second, .val (.int n), .val (.int ch0), .val (.int ch1), .val (.int ch2), .val (.int ch3), .val (.int ch4), .val (.int ch5), .val (.int ch6), .val (.ref b8), .val (.ref b16), .unset, .unset, .unset] [(.int (1 : Int32))]))
                            exact J230 _ _ _ X17 e17 N17 (by simp [bi, hc154, hc166, hc178, hc190, hc202, hc209])
                          · --
                            refine Go.st (fun t k => XS.icmpNo X17.here hx rfl (hb hby at_209) rfl (XT.ii_eq_f hc209) k) ?_
                            show Go p.tables e below PP (T17.setTop (mkF m 212 #[.val (.int p1), .val (.long q2), .second, .val (.int n), .val (.int ch0), .val (.int ch1), .val (.int ch2), .val (.int ch3), .val (.int ch4), .val (.int ch5), .val (.int ch6), .val (.ref b8), .val (.ref b16), .unset, .unset, .unset] []))
                            refine Go.st (fun t k => XS.iloadN X17.here hx rfl (hb hby at_212) rfl k) ?_
                            show Go p.tables e below PP (T17.setTop (mkF m 213 #[.val (.int p1), .val (.long q2), .second, .val (.int n), .val (.int ch0), .val (.int ch1), .val (.int ch2), .val (.int ch3), .val (.int ch4), .val (.int ch5), .val (.int ch6), .val (.ref b8), .val (.ref b16), .unset, .unset, .unset] [(.int n)]))
                            refine Go.st (fun t k => XS.bipush X17.here hx rfl (hb hby at_213) k) ?_
                            show Go p.tables e below PP (T17.setTop (mkF m 215 #[.val (.int p1), .val (.long q2), .second, .val (.int n), .val (.int ch0), .val (.int ch1), .val (.int ch2), .val (.int ch3), .val (.int ch4), .val (.int ch5), .val (.int ch6), .val (.ref b8), .val (.ref b16), .unset, .unset, .unset] [(.int (6 : Int32)), (.int n)]))
                            by_cases hc215 : (6 : Int32) < n
                            · --
                              refine Go.st (fun t k => XS.icmpNo X17.here hx rfl (hb hby at_215) rfl (XT.ii_le_f hc215) k) ?_
                              show Go p.tables e below PP (T17.setTop (mkF m 218 #[.val (.int p1), .val (.long q2), .second, .val (.int n), .val (.int ch0), .val (.int ch1), .val (.int ch2), .val (.int ch3), .val (.int ch4), .val (.int ch5), .val (.int ch6), .val (.ref b8), .val (.ref b16), .unset, .unset, .unset] []))
                              refine Go.st (fun t k => XS.iload X17.here hx rfl (hb hby at_218) rfl k) ?_
                              show Go p.tables e below PP (T17.setTop (mkF m 220 #[.val (.int p1), .val (.long q2), .second, .val (.int n), .val (.int ch0), .val (.int ch1), .val (.int ch2), .val (.int ch3), .val (.int ch4), .val (.int ch5), .val (.int ch6), .val (.ref b8), .val (.ref b16), .unset, .unset, .unset] [(.int ch6)]))
                              refine Go.st (fun t k => XS.bipush X17.here hx rfl (hb hby at_220) k) ?_
                              show Go p.tables e below PP (T17.setTop (mkF m 222 #[.val (.int p1), .val (.long q2), .second, .val (.int n), .val (.int ch0), .val (.int ch1), .val (.int ch2), .val (.int ch3), .val (.int ch4), .val (.int ch5), .val (.int ch6), .val (.ref b8), .val (.ref b16), .unset, .unset, .unset] [(.int (64 : Int32)), (.int ch6)]))
                              by_cases hc222 : ch6 = (64 : Int32)
                              · --
                                refine Go.st (fun t k => XS.icmpNo X17.here hx rfl (hb hby at_222) rfl (XT.ii_ne_f hc222) k) ?_
                                show Go p.tables e below PP (T17.setTop (mkF m 225 #[.val (.int p1), .val (.long q2), .second, .val (.int n), .val (.int ch0), .val (.int ch1), .val (.int ch2), .val (.int ch3), .val (.int ch4), .val (.int ch5), .val (.int ch6), .val (.ref b8), .val (.ref b16), .unset, .unset, .unset] []))
                                refine Go.st (fun t k => XS.iconst X17.here hx rfl (hb hby at_225) k) ?_
                                show Go p.tables e below PP (T17.setTop (mkF m 226 #[.val (.int p1), .val (.long q2), .second, .val (.int n), .val (.int ch0), .val (.int ch1), .val (.int ch2), .val (.int ch3), .val (.int ch4), .val (.int ch5), .val (.int ch6), .val (.ref b8), .val (.ref b16), .unset, .unset, .unset] [(.int (1 : Int32))]))
                                refine Go.st (fun t k => XS.goto X17.here hx rfl (pc0 := 226) (pc' := 230) rfl (hb hby at_226) (by decide) (by decide) k) ?_
                                show Go p.tables e below PP (T17.setTop (mkF m 230 #[.val (.int p1), .val (.long q2), .second, .val (.int n), .val (.int ch0), .val (.int ch1), .val (.int ch2), .val (.int ch3), .val (.int ch4), .val (.int ch5), .val (.int ch6), .val (.ref b8), .val (.ref b16), .unset, .unset, .unset] [(.int (1 : Int32))]))
                                exact J230 _ _ _ X17 e17 N17 (by simp [bi, hc154, hc166, hc178, hc190, hc202, hc209, hc215, hc222])
                              · --
                                refine Go.st (fun t k => XS.icmpYes X17.here hx rfl (pc0 := 222) (pc' := 229) rfl (hb hby at_222) rfl (XT.ii_ne_t hc222) (by decide) (by decide) k) ?_
                                show Go p.tables e below PP (T17.setTop (mkF m 229 #[.val (.int p1), .val (.long q2), .second, .val (.int n), .val (.int ch0), .val (.int ch1), .val (.int ch2), .val (.int ch3), .val (.int ch4), .val (.int ch5), .val (.int ch6), .val (.ref b8), .val (.ref b16), .unset, .unset, .unset] []))
                                refine Go.st (fun t k => XS.iconst X17.here hx rfl (hb hby at_229) k) ?_
                                show Go p.tables e below PP (T17.setTop (mkF m 230 #[.val (.int p1), .val (.long q2), .second, .val (.int n), .val (.int ch0), .val (.int ch1), .val (.int ch2), .val (.int ch3), .val (.int ch4), .val (.int ch5), .val (.int ch6), .val (.ref b8), .val (.ref b16), .unset, .unset, .unset] [(.int (0 : Int32))]))
                                exact J230 _ _ _ X17 e17 N17 (by simp [bi, hc154, hc166, hc178, hc190, hc202, hc209, hc215, hc222])
                            · --
                              refine Go.st (fun t k => XS.icmpYes X17.here hx rfl (pc0 := 215) (pc' := 229) rfl (hb hby at_215) rfl (XT.ii_le_t hc215) (by decide) (by decide) k) ?_
                              show Go p.tables e below PP (T17.setTop (mkF m 229 #[.val (.int p1), .val (.long q2), .second, .val (.int n), .val (.int ch0), .val (.int ch1), .val (.int ch2), .val (.int ch3), .val (.int ch4), .val (.int ch5), .val (.int ch6), .val (.ref b8), .val (.ref b16), .unset, .unset, .unset] []))
                              refine Go.st (fun t k => XS.iconst X17.here hx rfl (hb hby at_229) k) ?_
                              show Go p.tables e below PP (T17.setTop (mkF m 230 #[.val (.int p1), .val (.long q2), .second, .val (.int n), .val (.int ch0), .val (.int ch1), .val (.int ch2), .val (.int ch3), .val (.int ch4), .val (.int ch5), .val (.int ch6), .val (.ref b8), .val (.ref b16), .unset, .unset, .unset] [(.int (0 : Int32))]))
                              exact J230 _ _ _ X17 e17 N17 (by simp [bi, hc154, hc166, hc178, hc190, hc202, hc209, hc215])
                        · --
                          refine Go.st (fun t k => XS.icmpYes X17.here hx rfl (pc0 := 202) (pc' := 212) rfl (hb hby at_202) rfl (XT.ii_le_t hc202) (by decide) (by decide) k) ?_
                          show Go p.tables e below PP (T17.setTop (mkF m 212 #[.val (.int p1), .val (.long q2), .second, .val (.int n), .val (.int ch0), .val (.int ch1), .val (.int ch2), .val (.int ch3), .val (.int ch4), .val (.int ch5), .val (.int ch6), .val (.ref b8), .val (.ref b16), .unset, .unset, .unset] []))
                          refine Go.st (fun t k => XS.iloadN X17.here hx rfl (hb hby at_212) rfl k) ?_
                          show Go p.tables e below PP (T17.setTop (mkF m 213 #[.val (.int p1), .val (.long q2), .second, .val (.int n), .val (.int ch0), .val (.int ch1), .val (.int ch2), .val (.int ch3), .val (.int ch4), .val (.int ch5), .val (.int ch6), .val (.ref b8), .val (.ref b16), .unset, .unset, .unset] [(.int n)]))
                          refine Go.st (fun t k => XS.bipush X17.here hx rfl (hb hby at_213) k) ?_
                          show Go p.tables e below PP (T17.setTop (mkF m 215 #[.val (.int p1), .val (.long q2), .second, .val (.int n), .val (.int ch0), .val (.int ch1), .val (.int ch2), .val (.int ch3), .val (.int ch4), .val (.int ch5), .val (.int ch6), .val (.ref b8), .val (.ref b16), .unset, .unset, .unset] [(.int (6 : Int32)), (.int n)]))
                          by_cases hc215 : (6 : Int32) < n
                          · --
                            refine Go.st (fun t k => XS.icmpNo X17.here hx rfl (hb hby at_215) rfl (XT.ii_le_f hc215) k) ?_
                            show Go p.tables e below PP (T17.setTop (mkF m 218 #[.val (.int p1), .val (.long q2), .second, .val (.int n), .val (.int ch0), .val (.int ch1), .val (.int ch2), .val (.int ch3), .val (.int ch4), .val (.int ch5), .val (.int ch6), .val (.ref b8), .val (.ref b16), .unset, .unset, .unset] []))
                            refine Go.st (fun t k => XS.iload X17.here hx rfl (hb hby at_218) rfl k) ?_
                            show Go p.tables e below PP (T17.setTop (mkF m 220 #[.val (.int p1), .val (.long q2), .second, .val (.int n), .val (.int ch0), .val (.int ch1), .val (.int ch2), .val (.int ch3), .val (.int ch4), .val (.int ch5), .val (.int ch6), .val (.ref b8), .val (.ref b16), .unset, .unset, .unset] [(.int ch6)]))
                            refine Go.st (fun t k => XS.bipush X17.here hx rfl (hb hby at_220) k) ?_
                            show Go p.tables e below PP (T17.setTop (mkF m 222 #[.val (.int p1), .val (.long q2), .second, .val (.int n), .val (.int ch0), .val (.int ch1), .val (.int ch2), .val (.int ch3), .val (.int ch4), .val (.int ch5), .val (.int ch6), .val (.ref b8), .val (.ref b16), .unset, .unset, .unset] [(.int (64 : Int32)), (.int ch6)]))
                            by_cases hc222 : ch6 = (64 : Int32)
                            · --
                              refine Go.st (fun t k => XS.icmpNo X17.here hx rfl (hb hby at_222) rfl (XT.ii_ne_f hc222) k) ?_
                              show Go p.tables e below PP (T17.setTop (mkF m 225 #[.val (.int p1), .val (.long q2), .second, .val (.int n), .val (.int ch0), .val (.int ch1), .val (.int ch2), .val (.int ch3), .val (.int ch4), .val (.int ch5), .val (.int ch6), .val (.ref b8), .val (.ref b16), .unset, .unset, .unset] []))
                              refine Go.st (fun t k => XS.iconst X17.here hx rfl (hb hby at_225) k) ?_
                              show Go p.tables e below PP (T17.setTop (mkF m 226 #[.val (.int p1), .val (.long q2), .second, .val (.int n), .val (.int ch0), .val (.int ch1), .val (.int ch2), .val (.int ch3), .val (.int ch4), .val (.int ch5), .val (.int ch6), .val (.ref b8), .val (.ref b16), .unset, .unset, .unset] [(.int (1 : Int32))]))
                              refine Go.st (fun t k => XS.goto X17.here hx rfl (pc0 := 226) (pc' := 230) rfl (hb hby at_226) (by decide) (by decide) k) ?_
                              show Go p.tables e below PP (T17.setTop (mkF m 230 #[.val (.int p1), .val (.long q2), .second, .val (.int n), .val (.int ch0), .val (.int ch1), .val (.int ch2), .val (.int ch3), .val (.int ch4), .val (.int ch5), .val (.int ch6), .val (.ref b8), .val (.ref b16), .unset, .unset, .unset] [(.int (1 : Int32))]))
                              exact J230 _ _ _ X17 e17 N17 (by simp [bi, hc154, hc166, hc178, hc190, hc202, hc215, hc222])
                            · --
                              refine Go.st (fun t k => XS.icmpYes X17.here hx rfl (pc0 := 222) (pc' := 229) rfl (hb hby at_222) rfl (XT.ii_ne_t hc222) (by decide) (by decide) k) ?_
                              show Go p.tables e below PP (T17.setTop (mkF m 229 #[.val (.int p1), .val (.long q2), .second, .val (.int n), .val (.int ch0), .val (.int ch1), .val (.int ch2), .val (.int ch3), .val (.int ch4), .val (.int ch5), .val (.int ch6), .val (.ref b8), .val (.ref b16), .unset, .unset, .unset] []))
                              refine Go.st (fun t k => XS.iconst X17.here hx rfl (hb hby at_229) k) ?_
                              show Go p.tables e below PP (T17.setTop (mkF m 230 #[.val (.int p1), .val (.long q2), .second, .val (.int n), .val (.int ch0), .val (.int ch1), .val (.int ch2), .val (.int ch3), .val (.int ch4), .val (.int ch5), .val (.int ch6), .val (.ref b8), .val (.ref b16), .unset, .unset, .unset] [(.int (0 : Int32))]))
                              exact J230 _ _ _ X17 e17 N17 (by simp [bi, hc154, hc166, hc178, hc190, hc202, hc215, hc222])
                          · --
                            refine Go.st (fun t k => XS.icmpYes X17.here hx rfl (pc0 := 215) (pc' := 229) rfl (hb hby at_215) rfl (XT.ii_le_t hc215) (by decide) (by decide) k) ?_
                            show Go p.tables e below PP (T17.setTop (mkF m 229 #[.val (.int p1), .val (.long q2), .second, .val (.int n), .val (.int ch0), .val (.int ch1), .val (.int ch2), .val (.int ch3), .val (.int ch4), .val (.int ch5), .val (.int ch6), .val (.ref b8), .val (.ref b16), .unset, .unset, .unset] []))
                            refine Go.st (fun t k => XS.iconst X17.here hx rfl (hb hby at_229) k) ?_
                            show Go p.tables e below PP (T17.setTop (mkF m 230 #[.val (.int p1), .val (.long q2), .second, .val (.int n), .val (.int ch0), .val (.int ch1), .val (.int ch2), .val (.int ch3), .val (.int ch4), .val (.int ch5), .val (.int ch6), .val (.ref b8), .val (.ref b16), .unset, .unset, .unset] [(.int (0 : Int32))]))
                            exact J230 _ _ _ X17 e17 N17 (by simp [bi, hc154, hc166, hc178, hc190, hc202, hc215])
              show Go p.tables e below PP (T14.setTop (mkF m 128 #[.val (.int p1), .val (.long q2), .second, .val (.int n), .val (.int ch0), .val (.int ch1), .val (.int ch2), .val (.int ch3), .val (.int ch4), .val (.int ch5), .val (.int ch6), .val (.ref b8), .unset, .unset, .unset, .unset] []))
              refine Go.st (fun t k => XS.iloadN X14.here hx rfl (hb hby at_128) rfl k) ?_
              show Go p.tables e below PP (T14.setTop (mkF m 129 #[.val (.int p1), .val (.long q2), .second, .val (.int n), .val (.int ch0), .val (.int ch1), .val (.int ch2), .val (.int ch3), .val (.int ch4), .val (.int ch5), .val (.int ch6), .val (.ref b8), .unset, .unset, .unset, .unset] [(.int n)]))
              refine Go.st (fun t k => XS.bipush X14.here hx rfl (hb hby at_129) k) ?_
              show Go p.tables e below PP (T14.setTop (mkF m 131 #[.val (.int p1), .val (.long q2), .second, .val (.int n), .val (.int ch0), .val (.int ch1), .val (.int ch2), .val (.int ch3), .val (.int ch4), .val (.int ch5), .val (.int ch6), .val (.ref b8), .unset, .unset, .unset, .unset] [(.int (6 : Int32)), (.int n)]))
              by_cases hc131 : (6 : Int32) < n
              · --
                refine Go.st (fun t k => XS.icmpNo X14.here hx rfl (hb hby at_131) rfl (XT.ii_le_f hc131) k) ?_
                show Go p.tables e below PP (T14.setTop (mkF m 134 #[.val (.int p1), .val (.long q2), .second, .val (.int n), .val (.int ch0), .val (.int ch1), .val (.int ch2), .val (.int ch3), .val (.int ch4), .val (.int ch5), .val (.int ch6), .val (.ref b8), .unset, .unset, .unset, .unset] []))
                refine Go.st (fun t k => XS.aload X14.here hx rfl (hb hby at_134) rfl rfl k) ?_
                show Go p.tables e below PP (T14.setTop (mkF m 136 #[.val (.int p1), .val (.long q2), .second, .val (.int n), .val (.int ch0), .val (.int ch1), .val (.int ch2), .val (.int ch3), .val (.int ch4), .val (.int ch5), .val (.int ch6), .val (.ref b8), .unset, .unset, .unset, .unset] [(.ref b8)]))
                refine Go.st (fun t k => XS.bipush X14.here hx rfl (hb hby at_136) k) ?_
                show Go p.tables e below PP (T14.setTop (mkF m 138 #[.val (.int p1), .val (.long q2), .second, .val (.int n), .val (.int ch0), .val (.int ch1), .val (.int ch2), .val (.int ch3), .val (.int ch4), .val (.int ch5), .val (.int ch6), .val (.ref b8), .unset, .unset, .unset, .unset] [(.int (6 : Int32)), (.ref b8)]))
                refine Go.st (fun t k => XS.iload X14.here hx rfl (hb hby at_138) rfl k) ?_
                show Go p.tables e below PP (T14.setTop (mkF m 140 #[.val (.int p1), .val (.long q2), .second, .val (.int n), .val (.int ch0), .val (.int ch1), .val (.int ch2), .val (.int ch3), .val (.int ch4), .val (.int ch5), .val (.int ch6), .val (.ref b8), .unset, .unset, .unset, .unset] [(.int ch6), (.int (6 : Int32)), (.ref b8)]))
                obtain ⟨cl23, Ar23, S23, Nn23, H23⟩ := id V_b8
                have hin23 : ¬ ((6 : Int32) < 0 ∨ cl23.slots.size ≤ ((6 : Int32)).toNatClampNeg) := inb_of S23 ⟨by decide, hc131⟩
                obtain ⟨T23, h23, X23, e23, W23, st23⟩ := stC X14 hx hZ e14 Ar23 (j := (6 : Int32)) hin23 (g := (mkF m 140 #[.val (.int p1), .val (.long q2), .second, .val (.int n), .val (.int ch0), .val (.int ch1), .val (.int ch2), .val (.int ch3), .val (.int ch4), .val (.int ch5), .val (.int ch6), .val (.ref b8), .unset, .unset, .unset, .unset] [(.int ch6), (.int (6 : Int32)), (.ref b8)])) rfl rfl (hb hby at_140)
                refine Go.st st23 ?_
                have N23 := Fr.snoc X23 N14 g_b8
                replace CR := CR.trans (CHr.wr W23 SF_b8 CH)
                have CH' := CH.wr W23 SF_b8
                replace SF_b8 := Safe.wr W23 SF_b8 CH SF_b8
                replace CH := CH'
                clear CH'
                replace hk : k0 ≤ h23.size := by rw [W23.size]; exact hk
                replace O := O.wr W23 g_b8
                replace Zn : n0 ≤ h23.size := by rw [W23.size]; exact Zn
                replace V_b8 := Afn.set Ar23 S23 Nn23 H23 (fits_nar_char _) W23
                show Go p.tables e below PP (T23.setTop (mkF m 141 #[.val (.int p1), .val (.long q2), .second, .val (.int n), .val (.int ch0), .val (.int ch1), .val (.int ch2), .val (.int ch3), .val (.int ch4), .val (.int ch5), .val (.int ch6), .val (.ref b8), .unset, .unset, .unset, .unset] []))
                exact J141 _ _ _  X23 e23 N23 (V_b8.congr (fun k _ => own_yes cs (6 : Int32) ch6 6 rfl (by rw [hcs]; exact hch6.2.2) k)) O Zn CH CR hk SF_b8 (trivial)
              · --
                refine Go.st (fun t k => XS.icmpYes X14.here hx rfl (pc0 := 131) (pc' := 141) rfl (hb hby at_131) rfl (XT.ii_le_t hc131) (by decide) (by decide) k) ?_
                show Go p.tables e below PP (T14.setTop (mkF m 141 #[.val (.int p1), .val (.long q2), .second, .val (.int n), .val (.int ch0), .val (.int ch1), .val (.int ch2), .val (.int ch3), .val (.int ch4), .val (.int ch5), .val (.int ch6), .val (.ref b8), .unset, .unset, .unset, .unset] []))
                exact J141 _ _ _  X14 e14 N14 (V_b8.congr (fun k hk => own_no cs n (6 : Int32) 6 rfl hc131 k hk)) O Zn CH CR hk SF_b8 (trivial)
            show Go p.tables e below PP (T13.setTop (mkF m 117 #[.val (.int p1), .val (.long q2), .second, .val (.int n), .val (.int ch0), .val (.int ch1), .val (.int ch2), .val (.int ch3), .val (.int ch4), .val (.int ch5), .val (.int ch6), .val (.ref b8), .unset, .unset, .unset, .unset] []))
            refine Go.st (fun t k => XS.iloadN X13.here hx rfl (hb hby at_117) rfl k) ?_
            show Go p.tables e below PP (T13.setTop (mkF m 118 #[.val (.int p1), .val (.long q2), .second, .val (.int n), .val (.int ch0), .val (.int ch1), .val (.int ch2), .val (.int ch3), .val (.int ch4), .val (.int ch5), .val (.int ch6), .val (.ref b8), .unset, .unset, .unset, .unset] [(.int n)]))
            refine Go.st (fun t k => XS.iconst X13.here hx rfl (hb hby at_118) k) ?_
            show Go p.tables e below PP (T13.setTop (mkF m 119 #[.val (.int p1), .val (.long q2), .second, .val (.int n), .val (.int ch0), .val (.int ch1), .val (.int ch2), .val (.int ch3), .val (.int ch4), .val (.int ch5), .val (.int ch6), .val (.ref b8), .unset, .unset, .unset, .unset] [(.int (5 : Int32)), (.int n)]))
            by_cases hc119 : (5 : Int32) < n
            · --
              refine Go.st (fun t k => XS.icmpNo X13.here hx rfl (hb hby at_119) rfl (XT.ii_le_f hc119) k) ?_
              show Go p.tables e below PP (T13.setTop (mkF m 122 #[.val (.int p1), .val (.long q2), .second, .val (.int n), .val (.int ch0), .val (.int ch1), .val (.int ch2), .val (.int ch3), .val (.int ch4), .val (.int ch5), .val (.int ch6), .val (.ref b8), .unset, .unset, .unset, .unset] []))
              refine Go.st (fun t k => XS.aload X13.here hx rfl (hb hby at_122) rfl rfl k) ?_
              show Go p.tables e below PP (T13.setTop (mkF m 124 #[.val (.int p1), .val (.long q2), .second, .val (.int n), .val (.int ch0), .val (.int ch1), .val (.int ch2), .val (.int ch3), .val (.int ch4), .val (.int ch5), .val (.int ch6), .val (.ref b8), .unset, .unset, .unset, .unset] [(.ref b8)]))
              refine Go.st (fun t k => XS.iconst X13.here hx rfl (hb hby at_124) k) ?_
              show Go p.tables e below PP (T13.setTop (mkF m 125 #[.val (.int p1), .val (.long q2), .second, .val (.int n), .val (.int ch0), .val (.int ch1), .val (.int ch2), .val (.int ch3), .val (.int ch4), .val (.int ch5), .val (.int ch6), .val (.ref b8), .unset, .unset, .unset, .unset] [(.int (5 : Int32)), (.ref b8)]))
              refine Go.st (fun t k => XS.iload X13.here hx rfl (hb hby at_125) rfl k) ?_
              show Go p.tables e below PP (T13.setTop (mkF m 127 #[.val (.int p1), .val (.long q2), .second, .val (.int n), .val (.int ch0), .val (.int ch1), .val (.int ch2), .val (.int ch3), .val (.int ch4), .val (.int ch5), .val (.int ch6), .val (.ref b8), .unset, .unset, .unset, .unset] [(.int ch5), (.int (5 : Int32)), (.ref b8)]))
              obtain ⟨cl24, Ar24, S24, Nn24, H24⟩ := id V_b8
              have hin24 : ¬ ((5 : Int32) < 0 ∨ cl24.slots.size ≤ ((5 : Int32)).toNatClampNeg) := inb_of S24 ⟨by decide, hc119⟩
              obtain ⟨T24, h24, X24, e24, W24, st24⟩ := stC X13 hx hZ e13 Ar24 (j := (5 : Int32)) hin24 (g := (mkF m 127 #[.val (.int p1), .val (.long q2), .second, .val (.int n), .val (.int ch0), .val (.int ch1), .val (.int ch2), .val (.int ch3), .val (.int ch4), .val (.int ch5), .val (.int ch6), .val (.ref b8), .unset, .unset, .unset, .unset] [(.int ch5), (.int (5 : Int32)), (.ref b8)])) rfl rfl (hb hby at_127)
              refine Go.st st24 ?_
              have N24 := Fr.snoc X24 N13 g_b8
              replace CR := CR.trans (CHr.wr W24 SF_b8 CH)
              have CH' := CH.wr W24 SF_b8
              replace SF_b8 := Safe.wr W24 SF_b8 CH SF_b8
              replace CH := CH'
              clear CH'
              replace hk : k0 ≤ h24.size := by rw [W24.size]; exact hk
              replace O := O.wr W24 g_b8
              replace Zn : n0 ≤ h24.size := by rw [W24.size]; exact Zn
              replace V_b8 := Afn.set Ar24 S24 Nn24 H24 (fits_nar_char _) W24
              show Go p.tables e below PP (T24.setTop (mkF m 128 #[.val (.int p1), .val (.long q2), .second, .val (.int n), .val (.int ch0), .val (.int ch1), .val (.int ch2), .val (.int ch3), .val (.int ch4), .val (.int ch5), .val (.int ch6), .val (.ref b8), .unset, .unset, .unset, .unset] []))
              exact J128 _ _ _  X24 e24 N24 (V_b8.congr (fun k _ => own_yes cs (5 : Int32) ch5 5 rfl (by rw [hcs]; exact hch5.2.2) k)) O Zn CH CR hk SF_b8 (trivial)
            · --
              refine Go.st (fun t k => XS.icmpYes X13.here hx rfl (pc0 := 119) (pc' := 128) rfl (hb hby at_119) rfl (XT.ii_le_t hc119) (by decide) (by decide) k) ?_
              show Go p.tables e below PP (T13.setTop (mkF m 128 #[.val (.int p1), .val (.long q2), .second, .val (.int n), .val (.int ch0), .val (.int ch1), .val (.int ch2), .val (.int ch3), .val (.int ch4), .val (.int ch5), .val (.int ch6), .val (.ref b8), .unset, .unset, .unset, .unset] []))
              exact J128 _ _ _  X13 e13 N13 (V_b8.congr (fun k hk => own_no cs n (5 : Int32) 5 rfl hc119 k hk)) O Zn CH CR hk SF_b8 (trivial)
          show Go p.tables e below PP (T12.setTop (mkF m 106 #[.val (.int p1), .val (.long q2), .second, .val (.int n), .val (.int ch0), .val (.int ch1), .val (.int ch2), .val (.int ch3), .val (.int ch4), .val (.int ch5), .val (.int ch6), .val (.ref b8), .unset, .unset, .unset, .unset] []))
          refine Go.st (fun t k => XS.iloadN X12.here hx rfl (hb hby at_106) rfl k) ?_
          show Go p.tables e below PP (T12.setTop (mkF m 107 #[.val (.int p1), .val (.long q2), .second, .val (.int n), .val (.int ch0), .val (.int ch1), .val (.int ch2), .val (.int ch3), .val (.int ch4), .val (.int ch5), .val (.int ch6), .val (.ref b8), .unset, .unset, .unset, .unset] [(.int n)]))
          refine Go.st (fun t k => XS.iconst X12.here hx rfl (hb hby at_107) k) ?_
          show Go p.tables e below PP (T12.setTop (mkF m 108 #[.val (.int p1), .val (.long q2), .second, .val (.int n), .val (.int ch0), .val (.int ch1), .val (.int ch2), .val (.int ch3), .val (.int ch4), .val (.int ch5), .val (.int ch6), .val (.ref b8), .unset, .unset, .unset, .unset] [(.int (4 : Int32)), (.int n)]))
          by_cases hc108 : (4 : Int32) < n
          · --
            refine Go.st (fun t k => XS.icmpNo X12.here hx rfl (hb hby at_108) rfl (XT.ii_le_f hc108) k) ?_
            show Go p.tables e below PP (T12.setTop (mkF m 111 #[.val (.int p1), .val (.long q2), .second, .val (.int n), .val (.int ch0), .val (.int ch1), .val (.int ch2), .val (.int ch3), .val (.int ch4), .val (.int ch5), .val (.int ch6), .val (.ref b8), .unset, .unset, .unset, .unset] []))
            refine Go.st (fun t k => XS.aload X12.here hx rfl (hb hby at_111) rfl rfl k) ?_
            show Go p.tables e below PP (T12.setTop (mkF m 113 #[.val (.int p1), .val (.long q2), .second, .val (.int n), .val (.int ch0), .val (.int ch1), .val (.int ch2), .val (.int ch3), .val (.int ch4), .val (.int ch5), .val (.int ch6), .val (.ref b8), .unset, .unset, .unset, .unset] [(.ref b8)]))
            refine Go.st (fun t k => XS.iconst X12.here hx rfl (hb hby at_113) k) ?_
            show Go p.tables e below PP (T12.setTop (mkF m 114 #[.val (.int p1), .val (.long q2), .second, .val (.int n), .val (.int ch0), .val (.int ch1), .val (.int ch2), .val (.int ch3), .val (.int ch4), .val (.int ch5), .val (.int ch6), .val (.ref b8), .unset, .unset, .unset, .unset] [(.int (4 : Int32)), (.ref b8)]))
            refine Go.st (fun t k => XS.iload X12.here hx rfl (hb hby at_114) rfl k) ?_
            show Go p.tables e below PP (T12.setTop (mkF m 116 #[.val (.int p1), .val (.long q2), .second, .val (.int n), .val (.int ch0), .val (.int ch1), .val (.int ch2), .val (.int ch3), .val (.int ch4), .val (.int ch5), .val (.int ch6), .val (.ref b8), .unset, .unset, .unset, .unset] [(.int ch4), (.int (4 : Int32)), (.ref b8)]))
            obtain ⟨cl25, Ar25, S25, Nn25, H25⟩ := id V_b8
            have hin25 : ¬ ((4 : Int32) < 0 ∨ cl25.slots.size ≤ ((4 : Int32)).toNatClampNeg) := inb_of S25 ⟨by decide, hc108⟩
            obtain ⟨T25, h25, X25, e25, W25, st25⟩ := stC X12 hx hZ e12 Ar25 (j := (4 : Int32)) hin25 (g := (mkF m 116 #[.val (.int p1), .val (.long q2), .second, .val (.int n), .val (.int ch0), .val (.int ch1), .val (.int ch2), .val (.int ch3), .val (.int ch4), .val (.int ch5), .val (.int ch6), .val (.ref b8), .unset, .unset, .unset, .unset] [(.int ch4), (.int (4 : Int32)), (.ref b8)])) rfl rfl (hb hby at_116)
            refine Go.st st25 ?_
            have N25 := Fr.snoc X25 N12 g_b8
            replace CR := CR.trans (CHr.wr W25 SF_b8 CH)
            have CH' := CH.wr W25 SF_b8
            replace SF_b8 := Safe.wr W25 SF_b8 CH SF_b8
            replace CH := CH'
            clear CH'
            replace hk : k0 ≤ h25.size := by rw [W25.size]; exact hk
            replace O := O.wr W25 g_b8
            replace Zn : n0 ≤ h25.size := by rw [W25.size]; exact Zn
            replace V_b8 := Afn.set Ar25 S25 Nn25 H25 (fits_nar_char _) W25
            show Go p.tables e below PP (T25.setTop (mkF m 117 #[.val (.int p1), .val (.long q2), .second, .val (.int n), .val (.int ch0), .val (.int ch1), .val (.int ch2), .val (.int ch3), .val (.int ch4), .val (.int ch5), .val (.int ch6), .val (.ref b8), .unset, .unset, .unset, .unset] []))
            exact J117 _ _ _  X25 e25 N25 (V_b8.congr (fun k _ => own_yes cs (4 : Int32) ch4 4 rfl (by rw [hcs]; exact hch4.2.2) k)) O Zn CH CR hk SF_b8 (trivial)
          · --
            refine Go.st (fun t k => XS.icmpYes X12.here hx rfl (pc0 := 108) (pc' := 117) rfl (hb hby at_108) rfl (XT.ii_le_t hc108) (by decide) (by decide) k) ?_
            show Go p.tables e below PP (T12.setTop (mkF m 117 #[.val (.int p1), .val (.long q2), .second, .val (.int n), .val (.int ch0), .val (.int ch1), .val (.int ch2), .val (.int ch3), .val (.int ch4), .val (.int ch5), .val (.int ch6), .val (.ref b8), .unset, .unset, .unset, .unset] []))
            exact J117 _ _ _  X12 e12 N12 (V_b8.congr (fun k hk => own_no cs n (4 : Int32) 4 rfl hc108 k hk)) O Zn CH CR hk SF_b8 (trivial)
        show Go p.tables e below PP (T11.setTop (mkF m 95 #[.val (.int p1), .val (.long q2), .second, .val (.int n), .val (.int ch0), .val (.int ch1), .val (.int ch2), .val (.int ch3), .val (.int ch4), .val (.int ch5), .val (.int ch6), .val (.ref b8), .unset, .unset, .unset, .unset] []))
        refine Go.st (fun t k => XS.iloadN X11.here hx rfl (hb hby at_95) rfl k) ?_
        show Go p.tables e below PP (T11.setTop (mkF m 96 #[.val (.int p1), .val (.long q2), .second, .val (.int n), .val (.int ch0), .val (.int ch1), .val (.int ch2), .val (.int ch3), .val (.int ch4), .val (.int ch5), .val (.int ch6), .val (.ref b8), .unset, .unset, .unset, .unset] [(.int n)]))
        refine Go.st (fun t k => XS.iconst X11.here hx rfl (hb hby at_96) k) ?_
        show Go p.tables e below PP (T11.setTop (mkF m 97 #[.val (.int p1), .val (.long q2), .second, .val (.int n), .val (.int ch0), .val (.int ch1), .val (.int ch2), .val (.int ch3), .val (.int ch4), .val (.int ch5), .val (.int ch6), .val (.ref b8), .unset, .unset, .unset, .unset] [(.int (3 : Int32)), (.int n)]))
        by_cases hc97 : (3 : Int32) < n
        · --
          refine Go.st (fun t k => XS.icmpNo X11.here hx rfl (hb hby at_97) rfl (XT.ii_le_f hc97) k) ?_
          show Go p.tables e below PP (T11.setTop (mkF m 100 #[.val (.int p1), .val (.long q2), .second, .val (.int n), .val (.int ch0), .val (.int ch1), .val (.int ch2), .val (.int ch3), .val (.int ch4), .val (.int ch5), .val (.int ch6), .val (.ref b8), .unset, .unset, .unset, .unset] []))
          refine Go.st (fun t k => XS.aload X11.here hx rfl (hb hby at_100) rfl rfl k) ?_
          show Go p.tables e below PP (T11.setTop (mkF m 102 #[.val (.int p1), .val (.long q2), .second, .val (.int n), .val (.int ch0), .val (.int ch1), .val (.int ch2), .val (.int ch3), .val (.int ch4), .val (.int ch5), .val (.int ch6), .val (.ref b8), .unset, .unset, .unset, .unset] [(.ref b8)]))
          refine Go.st (fun t k => XS.iconst X11.here hx rfl (hb hby at_102) k) ?_
          show Go p.tables e below PP (T11.setTop (mkF m 103 #[.val (.int p1), .val (.long q2), .second, .val (.int n), .val (.int ch0), .val (.int ch1), .val (.int ch2), .val (.int ch3), .val (.int ch4), .val (.int ch5), .val (.int ch6), .val (.ref b8), .unset, .unset, .unset, .unset] [(.int (3 : Int32)), (.ref b8)]))
          refine Go.st (fun t k => XS.iload X11.here hx rfl (hb hby at_103) rfl k) ?_
          show Go p.tables e below PP (T11.setTop (mkF m 105 #[.val (.int p1), .val (.long q2), .second, .val (.int n), .val (.int ch0), .val (.int ch1), .val (.int ch2), .val (.int ch3), .val (.int ch4), .val (.int ch5), .val (.int ch6), .val (.ref b8), .unset, .unset, .unset, .unset] [(.int ch3), (.int (3 : Int32)), (.ref b8)]))
          obtain ⟨cl26, Ar26, S26, Nn26, H26⟩ := id V_b8
          have hin26 : ¬ ((3 : Int32) < 0 ∨ cl26.slots.size ≤ ((3 : Int32)).toNatClampNeg) := inb_of S26 ⟨by decide, hc97⟩
          obtain ⟨T26, h26, X26, e26, W26, st26⟩ := stC X11 hx hZ e11 Ar26 (j := (3 : Int32)) hin26 (g := (mkF m 105 #[.val (.int p1), .val (.long q2), .second, .val (.int n), .val (.int ch0), .val (.int ch1), .val (.int ch2), .val (.int ch3), .val (.int ch4), .val (.int ch5), .val (.int ch6), .val (.ref b8), .unset, .unset, .unset, .unset] [(.int ch3), (.int (3 : Int32)), (.ref b8)])) rfl rfl (hb hby at_105)
          refine Go.st st26 ?_
          have N26 := Fr.snoc X26 N11 g_b8
          replace CR := CR.trans (CHr.wr W26 SF_b8 CH)
          have CH' := CH.wr W26 SF_b8
          replace SF_b8 := Safe.wr W26 SF_b8 CH SF_b8
          replace CH := CH'
          clear CH'
          replace hk : k0 ≤ h26.size := by rw [W26.size]; exact hk
          replace O := O.wr W26 g_b8
          replace Zn : n0 ≤ h26.size := by rw [W26.size]; exact Zn
          replace V_b8 := Afn.set Ar26 S26 Nn26 H26 (fits_nar_char _) W26
          show Go p.tables e below PP (T26.setTop (mkF m 106 #[.val (.int p1), .val (.long q2), .second, .val (.int n), .val (.int ch0), .val (.int ch1), .val (.int ch2), .val (.int ch3), .val (.int ch4), .val (.int ch5), .val (.int ch6), .val (.ref b8), .unset, .unset, .unset, .unset] []))
          exact J106 _ _ _  X26 e26 N26 (V_b8.congr (fun k _ => own_yes cs (3 : Int32) ch3 3 rfl (by rw [hcs]; exact hch3.2.2) k)) O Zn CH CR hk SF_b8 (trivial)
        · --
          refine Go.st (fun t k => XS.icmpYes X11.here hx rfl (pc0 := 97) (pc' := 106) rfl (hb hby at_97) rfl (XT.ii_le_t hc97) (by decide) (by decide) k) ?_
          show Go p.tables e below PP (T11.setTop (mkF m 106 #[.val (.int p1), .val (.long q2), .second, .val (.int n), .val (.int ch0), .val (.int ch1), .val (.int ch2), .val (.int ch3), .val (.int ch4), .val (.int ch5), .val (.int ch6), .val (.ref b8), .unset, .unset, .unset, .unset] []))
          exact J106 _ _ _  X11 e11 N11 (V_b8.congr (fun k hk => own_no cs n (3 : Int32) 3 rfl hc97 k hk)) O Zn CH CR hk SF_b8 (trivial)
      show Go p.tables e below PP (T10.setTop (mkF m 84 #[.val (.int p1), .val (.long q2), .second, .val (.int n), .val (.int ch0), .val (.int ch1), .val (.int ch2), .val (.int ch3), .val (.int ch4), .val (.int ch5), .val (.int ch6), .val (.ref b8), .unset, .unset, .unset, .unset] []))
      refine Go.st (fun t k => XS.iloadN X10.here hx rfl (hb hby at_84) rfl k) ?_
      show Go p.tables e below PP (T10.setTop (mkF m 85 #[.val (.int p1), .val (.long q2), .second, .val (.int n), .val (.int ch0), .val (.int ch1), .val (.int ch2), .val (.int ch3), .val (.int ch4), .val (.int ch5), .val (.int ch6), .val (.ref b8), .unset, .unset, .unset, .unset] [(.int n)]))
      refine Go.st (fun t k => XS.iconst X10.here hx rfl (hb hby at_85) k) ?_
      show Go p.tables e below PP (T10.setTop (mkF m 86 #[.val (.int p1), .val (.long q2), .second, .val (.int n), .val (.int ch0), .val (.int ch1), .val (.int ch2), .val (.int ch3), .val (.int ch4), .val (.int ch5), .val (.int ch6), .val (.ref b8), .unset, .unset, .unset, .unset] [(.int (2 : Int32)), (.int n)]))
      by_cases hc86 : (2 : Int32) < n
      · --
        refine Go.st (fun t k => XS.icmpNo X10.here hx rfl (hb hby at_86) rfl (XT.ii_le_f hc86) k) ?_
        show Go p.tables e below PP (T10.setTop (mkF m 89 #[.val (.int p1), .val (.long q2), .second, .val (.int n), .val (.int ch0), .val (.int ch1), .val (.int ch2), .val (.int ch3), .val (.int ch4), .val (.int ch5), .val (.int ch6), .val (.ref b8), .unset, .unset, .unset, .unset] []))
        refine Go.st (fun t k => XS.aload X10.here hx rfl (hb hby at_89) rfl rfl k) ?_
        show Go p.tables e below PP (T10.setTop (mkF m 91 #[.val (.int p1), .val (.long q2), .second, .val (.int n), .val (.int ch0), .val (.int ch1), .val (.int ch2), .val (.int ch3), .val (.int ch4), .val (.int ch5), .val (.int ch6), .val (.ref b8), .unset, .unset, .unset, .unset] [(.ref b8)]))
        refine Go.st (fun t k => XS.iconst X10.here hx rfl (hb hby at_91) k) ?_
        show Go p.tables e below PP (T10.setTop (mkF m 92 #[.val (.int p1), .val (.long q2), .second, .val (.int n), .val (.int ch0), .val (.int ch1), .val (.int ch2), .val (.int ch3), .val (.int ch4), .val (.int ch5), .val (.int ch6), .val (.ref b8), .unset, .unset, .unset, .unset] [(.int (2 : Int32)), (.ref b8)]))
        refine Go.st (fun t k => XS.iload X10.here hx rfl (hb hby at_92) rfl k) ?_
        show Go p.tables e below PP (T10.setTop (mkF m 94 #[.val (.int p1), .val (.long q2), .second, .val (.int n), .val (.int ch0), .val (.int ch1), .val (.int ch2), .val (.int ch3), .val (.int ch4), .val (.int ch5), .val (.int ch6), .val (.ref b8), .unset, .unset, .unset, .unset] [(.int ch2), (.int (2 : Int32)), (.ref b8)]))
        obtain ⟨cl27, Ar27, S27, Nn27, H27⟩ := id V_b8
        have hin27 : ¬ ((2 : Int32) < 0 ∨ cl27.slots.size ≤ ((2 : Int32)).toNatClampNeg) := inb_of S27 ⟨by decide, hc86⟩
        obtain ⟨T27, h27, X27, e27, W27, st27⟩ := stC X10 hx hZ e10 Ar27 (j := (2 : Int32)) hin27 (g := (mkF m 94 #[.val (.int p1), .val (.long q2), .second, .val (.int n), .val (.int ch0), .val (.int ch1), .val (.int ch2), .val (.int ch3), .val (.int ch4), .val (.int ch5), .val (.int ch6), .val (.ref b8), .unset, .unset, .unset, .unset] [(.int ch2), (.int (2 : Int32)), (.ref b8)])) rfl rfl (hb hby at_94)
        refine Go.st st27 ?_
        have N27 := Fr.snoc X27 N10 g_b8
        replace CR := CR.trans (CHr.wr W27 SF_b8 CH)
        have CH' := CH.wr W27 SF_b8
        replace SF_b8 := Safe.wr W27 SF_b8 CH SF_b8
        replace CH := CH'
        clear CH'
        replace hk : k0 ≤ h27.size := by rw [W27.size]; exact hk
        replace O := O.wr W27 g_b8
        replace Zn : n0 ≤ h27.size := by rw [W27.size]; exact Zn
        replace V_b8 := Afn.set Ar27 S27 Nn27 H27 (fits_nar_char _) W27
        show Go p.tables e below PP (T27.setTop (mkF m 95 #[.val (.int p1), .val (.long q2), .second, .val (.int n), .val (.int ch0), .val (.int ch1), .val (.int ch2), .val (.int ch3), .val (.int ch4), .val (.int ch5), .val (.int ch6), .val (.ref b8), .unset, .unset, .unset, .unset] []))
        exact J95 _ _ _  X27 e27 N27 (V_b8.congr (fun k _ => own_yes cs (2 : Int32) ch2 2 rfl (by rw [hcs]; exact hch2.2.2) k)) O Zn CH CR hk SF_b8 (trivial)
      · --
        refine Go.st (fun t k => XS.icmpYes X10.here hx rfl (pc0 := 86) (pc' := 95) rfl (hb hby at_86) rfl (XT.ii_le_t hc86) (by decide) (by decide) k) ?_
        show Go p.tables e below PP (T10.setTop (mkF m 95 #[.val (.int p1), .val (.long q2), .second, .val (.int n), .val (.int ch0), .val (.int ch1), .val (.int ch2), .val (.int ch3), .val (.int ch4), .val (.int ch5), .val (.int ch6), .val (.ref b8), .unset, .unset, .unset, .unset] []))
        exact J95 _ _ _  X10 e10 N10 (V_b8.congr (fun k hk => own_no cs n (2 : Int32) 2 rfl hc86 k hk)) O Zn CH CR hk SF_b8 (trivial)
    show Go p.tables e below PP (T9.setTop (mkF m 73 #[.val (.int p1), .val (.long q2), .second, .val (.int n), .val (.int ch0), .val (.int ch1), .val (.int ch2), .val (.int ch3), .val (.int ch4), .val (.int ch5), .val (.int ch6), .val (.ref b8), .unset, .unset, .unset, .unset] []))
    refine Go.st (fun t k => XS.iloadN X9.here hx rfl (hb hby at_73) rfl k) ?_
    show Go p.tables e below PP (T9.setTop (mkF m 74 #[.val (.int p1), .val (.long q2), .second, .val (.int n), .val (.int ch0), .val (.int ch1), .val (.int ch2), .val (.int ch3), .val (.int ch4), .val (.int ch5), .val (.int ch6), .val (.ref b8), .unset, .unset, .unset, .unset] [(.int n)]))
    refine Go.st (fun t k => XS.iconst X9.here hx rfl (hb hby at_74) k) ?_
    show Go p.tables e below PP (T9.setTop (mkF m 75 #[.val (.int p1), .val (.long q2), .second, .val (.int n), .val (.int ch0), .val (.int ch1), .val (.int ch2), .val (.int ch3), .val (.int ch4), .val (.int ch5), .val (.int ch6), .val (.ref b8), .unset, .unset, .unset, .unset] [(.int (1 : Int32)), (.int n)]))
    by_cases hc75 : (1 : Int32) < n
    · --
      refine Go.st (fun t k => XS.icmpNo X9.here hx rfl (hb hby at_75) rfl (XT.ii_le_f hc75) k) ?_
      show Go p.tables e below PP (T9.setTop (mkF m 78 #[.val (.int p1), .val (.long q2), .second, .val (.int n), .val (.int ch0), .val (.int ch1), .val (.int ch2), .val (.int ch3), .val (.int ch4), .val (.int ch5), .val (.int ch6), .val (.ref b8), .unset, .unset, .unset, .unset] []))
      refine Go.st (fun t k => XS.aload X9.here hx rfl (hb hby at_78) rfl rfl k) ?_
      show Go p.tables e below PP (T9.setTop (mkF m 80 #[.val (.int p1), .val (.long q2), .second, .val (.int n), .val (.int ch0), .val (.int ch1), .val (.int ch2), .val (.int ch3), .val (.int ch4), .val (.int ch5), .val (.int ch6), .val (.ref b8), .unset, .unset, .unset, .unset] [(.ref b8)]))
      refine Go.st (fun t k => XS.iconst X9.here hx rfl (hb hby at_80) k) ?_
      show Go p.tables e below PP (T9.setTop (mkF m 81 #[.val (.int p1), .val (.long q2), .second, .val (.int n), .val (.int ch0), .val (.int ch1), .val (.int ch2), .val (.int ch3), .val (.int ch4), .val (.int ch5), .val (.int ch6), .val (.ref b8), .unset, .unset, .unset, .unset] [(.int (1 : Int32)), (.ref b8)]))
      refine Go.st (fun t k => XS.iload X9.here hx rfl (hb hby at_81) rfl k) ?_
      show Go p.tables e below PP (T9.setTop (mkF m 83 #[.val (.int p1), .val (.long q2), .second, .val (.int n), .val (.int ch0), .val (.int ch1), .val (.int ch2), .val (.int ch3), .val (.int ch4), .val (.int ch5), .val (.int ch6), .val (.ref b8), .unset, .unset, .unset, .unset] [(.int ch1), (.int (1 : Int32)), (.ref b8)]))
      obtain ⟨cl28, Ar28, S28, Nn28, H28⟩ := id V_b8
      have hin28 : ¬ ((1 : Int32) < 0 ∨ cl28.slots.size ≤ ((1 : Int32)).toNatClampNeg) := inb_of S28 ⟨by decide, hc75⟩
      obtain ⟨T28, h28, X28, e28, W28, st28⟩ := stC X9 hx hZ e9 Ar28 (j := (1 : Int32)) hin28 (g := (mkF m 83 #[.val (.int p1), .val (.long q2), .second, .val (.int n), .val (.int ch0), .val (.int ch1), .val (.int ch2), .val (.int ch3), .val (.int ch4), .val (.int ch5), .val (.int ch6), .val (.ref b8), .unset, .unset, .unset, .unset] [(.int ch1), (.int (1 : Int32)), (.ref b8)])) rfl rfl (hb hby at_83)
      refine Go.st st28 ?_
      have N28 := Fr.snoc X28 N9 g_b8
      replace CR := CR.trans (CHr.wr W28 SF_b8 CH)
      have CH' := CH.wr W28 SF_b8
      replace SF_b8 := Safe.wr W28 SF_b8 CH SF_b8
      replace CH := CH'
      clear CH'
      replace hk : k0 ≤ h28.size := by rw [W28.size]; exact hk
      replace O := O.wr W28 g_b8
      replace Zn : n0 ≤ h28.size := by rw [W28.size]; exact Zn
      replace V_b8 := Afn.set Ar28 S28 Nn28 H28 (fits_nar_char _) W28
      show Go p.tables e below PP (T28.setTop (mkF m 84 #[.val (.int p1), .val (.long q2), .second, .val (.int n), .val (.int ch0), .val (.int ch1), .val (.int ch2), .val (.int ch3), .val (.int ch4), .val (.int ch5), .val (.int ch6), .val (.ref b8), .unset, .unset, .unset, .unset] []))
      exact J84 _ _ _  X28 e28 N28 (V_b8.congr (fun k _ => own_yes cs (1 : Int32) ch1 1 rfl (by rw [hcs]; exact hch1.2.2) k)) O Zn CH CR hk SF_b8 (trivial)
    · --
      refine Go.st (fun t k => XS.icmpYes X9.here hx rfl (pc0 := 75) (pc' := 84) rfl (hb hby at_75) rfl (XT.ii_le_t hc75) (by decide) (by decide) k) ?_
      show Go p.tables e below PP (T9.setTop (mkF m 84 #[.val (.int p1), .val (.long q2), .second, .val (.int n), .val (.int ch0), .val (.int ch1), .val (.int ch2), .val (.int ch3), .val (.int ch4), .val (.int ch5), .val (.int ch6), .val (.ref b8), .unset, .unset, .unset, .unset] []))
      exact J84 _ _ _  X9 e9 N9 (V_b8.congr (fun k hk => own_no cs n (1 : Int32) 1 rfl hc75 k hk)) O Zn CH CR hk SF_b8 (trivial)
  show Go p.tables e below PP (T8.setTop (mkF m 63 #[.val (.int p1), .val (.long q2), .second, .val (.int n), .val (.int ch0), .val (.int ch1), .val (.int ch2), .val (.int ch3), .val (.int ch4), .val (.int ch5), .val (.int ch6), .val (.ref b8), .unset, .unset, .unset, .unset] []))
  refine Go.st (fun t k => XS.iloadN X8.here hx rfl (hb hby at_63) rfl k) ?_
  show Go p.tables e below PP (T8.setTop (mkF m 64 #[.val (.int p1), .val (.long q2), .second, .val (.int n), .val (.int ch0), .val (.int ch1), .val (.int ch2), .val (.int ch3), .val (.int ch4), .val (.int ch5), .val (.int ch6), .val (.ref b8), .unset, .unset, .unset, .unset] [(.int n)]))
  by_cases hc64 : (0 : Int32) < n
  · --
    refine Go.st (fun t k => XS.ifNo X8.here hx rfl (hb hby at_64) rfl (XT.i0_le_f hc64) k) ?_
    show Go p.tables e below PP (T8.setTop (mkF m 67 #[.val (.int p1), .val (.long q2), .second, .val (.int n), .val (.int ch0), .val (.int ch1), .val (.int ch2), .val (.int ch3), .val (.int ch4), .val (.int ch5), .val (.int ch6), .val (.ref b8), .unset, .unset, .unset, .unset] []))
    refine Go.st (fun t k => XS.aload X8.here hx rfl (hb hby at_67) rfl rfl k) ?_
    show Go p.tables e below PP (T8.setTop (mkF m 69 #[.val (.int p1), .val (.long q2), .second, .val (.int n), .val (.int ch0), .val (.int ch1), .val (.int ch2), .val (.int ch3), .val (.int ch4), .val (.int ch5), .val (.int ch6), .val (.ref b8), .unset, .unset, .unset, .unset] [(.ref b8)]))
    refine Go.st (fun t k => XS.iconst X8.here hx rfl (hb hby at_69) k) ?_
    show Go p.tables e below PP (T8.setTop (mkF m 70 #[.val (.int p1), .val (.long q2), .second, .val (.int n), .val (.int ch0), .val (.int ch1), .val (.int ch2), .val (.int ch3), .val (.int ch4), .val (.int ch5), .val (.int ch6), .val (.ref b8), .unset, .unset, .unset, .unset] [(.int (0 : Int32)), (.ref b8)]))
    refine Go.st (fun t k => XS.iload X8.here hx rfl (hb hby at_70) rfl k) ?_
    show Go p.tables e below PP (T8.setTop (mkF m 72 #[.val (.int p1), .val (.long q2), .second, .val (.int n), .val (.int ch0), .val (.int ch1), .val (.int ch2), .val (.int ch3), .val (.int ch4), .val (.int ch5), .val (.int ch6), .val (.ref b8), .unset, .unset, .unset, .unset] [(.int ch0), (.int (0 : Int32)), (.ref b8)]))
    obtain ⟨cl29, Ar29, S29, Nn29, H29⟩ := id V_b8
    have hin29 : ¬ ((0 : Int32) < 0 ∨ cl29.slots.size ≤ ((0 : Int32)).toNatClampNeg) := inb_of S29 ⟨by decide, hc64⟩
    obtain ⟨T29, h29, X29, e29, W29, st29⟩ := stC X8 hx hZ e8 Ar29 (j := (0 : Int32)) hin29 (g := (mkF m 72 #[.val (.int p1), .val (.long q2), .second, .val (.int n), .val (.int ch0), .val (.int ch1), .val (.int ch2), .val (.int ch3), .val (.int ch4), .val (.int ch5), .val (.int ch6), .val (.ref b8), .unset, .unset, .unset, .unset] [(.int ch0), (.int (0 : Int32)), (.ref b8)])) rfl rfl (hb hby at_72)
    refine Go.st st29 ?_
    have N29 := Fr.snoc X29 N0 g_b8
    replace CR := CR.trans (CHr.wr W29 SF_b8 CH)
    have CH' := CH.wr W29 SF_b8
    replace SF_b8 := Safe.wr W29 SF_b8 CH SF_b8
    replace CH := CH'
    clear CH'
    replace hk : k0 ≤ h29.size := by rw [W29.size]; exact hk
    replace O := O.wr W29 g_b8
    replace Zn : n0 ≤ h29.size := by rw [W29.size]; exact Zn
    replace V_b8 := Afn.set Ar29 S29 Nn29 H29 (fits_nar_char _) W29
    show Go p.tables e below PP (T29.setTop (mkF m 73 #[.val (.int p1), .val (.long q2), .second, .val (.int n), .val (.int ch0), .val (.int ch1), .val (.int ch2), .val (.int ch3), .val (.int ch4), .val (.int ch5), .val (.int ch6), .val (.ref b8), .unset, .unset, .unset, .unset] []))
    exact J73 _ _ _  X29 e29 N29 (V_b8.congr (fun k _ => own_yes cs (0 : Int32) ch0 0 rfl (by rw [hcs]; exact hch0.2.2) k)) O Zn CH CR hk SF_b8 (trivial)
  · --
    refine Go.st (fun t k => XS.ifYes X8.here hx rfl (pc0 := 64) (pc' := 73) rfl (hb hby at_64) rfl (XT.i0_le_t hc64) (by decide) (by decide) k) ?_
    show Go p.tables e below PP (T8.setTop (mkF m 73 #[.val (.int p1), .val (.long q2), .second, .val (.int n), .val (.int ch0), .val (.int ch1), .val (.int ch2), .val (.int ch3), .val (.int ch4), .val (.int ch5), .val (.int ch6), .val (.ref b8), .unset, .unset, .unset, .unset] []))
    exact J73 _ _ _  X8 e8 N0 (V_b8.congr (fun k hk => own_no cs n (0 : Int32) 0 rfl hc64 k hk)) O Zn CH CR hk SF_b8 (trivial)
set_option maxRecDepth 65536 in
set_option maxHeartbeats 40000000 in
theorem comes_1 {Post : Tables → Env → Array Value → State → Outcome → State → Prop} (hpost : ∀ tb e args s v u, (limb_1_1.after args s (.returned v) u = true ∧ limb_1_2.after args s (.returned v) u = true ∧ True) → ReturnedEndW s (.returned v) u (Jvm.fieldLocs frame_1_writes args s ++ Jvm.arrayLocs frame_1_arrays args s ++ Jvm.staticLocs frame_1_statics s) 16 1152 → Post tb e args s (.returned v) u) :
    ArmFor flags0 classFile x code maxLocals ret World_1 tables_1 room_1 Calls_1 rest_1 Pre_1 Post := by
  intro l hfl _ _ p e ha hc hk s m args below hf hA hF happ hP
  obtain ⟨hcalls, hrest, hpre⟩ := hP
  obtain ⟨-, -, -, hnamed, -, -, -, hat⟩ := (Spec.applies_iff hf).mp happ
  obtain ⟨hg, hn⟩ := and_e (Cond.before_iff.mp (show (Jvm.Cond.and given_1 narrow_1).before args s = true from hpre))
  obtain ⟨g1, g2⟩ := and_e hg
  obtain ⟨g3, g4⟩ := and_e g2
  obtain ⟨w0, w1, rfl⟩ : ∃ w0 w1 : Value, args = #[w0, w1] := by
    have hs : args.size = 2 := by simpa [Cond.value, given_1] using g1
    obtain ⟨L⟩ := args
    match L, hs with
    | [w0, w1], _ => exact ⟨w0, w1, rfl⟩
  have hw := fun d (hd : d ∈ tables_1) => atoms_spec (ws := Jvm.Cond.code x code maxLocals ret :: tables_1) hat d (List.mem_cons_of_mem _ hd)
  have hfit : Fit s := fun {y c} hc i hi => by
    obtain ⟨ha, rfl⟩ := Array.getElem?_eq_some_iff.mp hc
    have q := List.all_eq_true.mp ((Array.all_eq_true_iff_forall_mem.mp hF) _ (Array.getElem_mem ha)) i (List.mem_range.mpr hi)
    simpa [Array.getElem?_eq_getElem hi] using q
  obtain ⟨hsets, hown0⟩ := atoms_of _ (rest_1_c_eq ▸ (show rest_1_c.before _ s = true from hrest))
  have hr0 := Cond.before_iff.mp hown0
  obtain ⟨i0, ei0⟩ := is_v g3
  obtain rfl : w0 = (.int i0) := Option.some.inj ei0
  obtain ⟨i1, ei1⟩ := isL_v g4
  obtain rfl : w1 = (.long i1) := Option.some.inj ei1
  have hEL : EW s _ consts_1 := (EW.cons (hw _ (List.mem_of_getElem? (i := 20) rfl)) (by decide) EW.nil)
  have CH : CHv s consts_1 s.vm s.heap := CHv.start hEL (fun p hp => hcalls.1 p hp) (hsets _ (List.mem_of_getElem? (i := 2) rfl)) (hw _ (List.mem_of_getElem? (i := 21) rfl)) (hw _ (List.mem_of_getElem? (i := 8) rfl))
  obtain ⟨zc, evC⟩ := is_v (Cond.before_iff.mp (hsets _ (List.mem_of_getElem? (i := 1) rfl)))
  have SC := Sta.start evC (Or.inl (hsets _ (List.mem_of_getElem? (i := 0) rfl)))
  have hzc : ¬ zc = (0 : Int32) := gotF (Cond.eq_ints evC rfl) (not_v (Cond.before_iff.mp (hsets _ (List.mem_of_getElem? (i := 2) rfl))))
  have O := Old.start s
  obtain ⟨n, o, h1, h2, h3, _, L, rfl, ⟨rfl, N⟩, hCR, hq⟩ := rm0 l s _ hw tables_1 i0 i1 zc s.heap s.heap.size (Nat.le_refl _) hEL SC hzc O p e ha hc hk s m _ below hf ((Spec.applies_iff_loose hf).mp happ).1 ⟨rfl, State.Warmed39.refl s, rfl, CH⟩ trivial
  refine ⟨n, _, h1, h2, h3, hpost _ _ _ _ _ _ ⟨Cond.after_iff.mpr rfl, Cond.after_iff.mpr (eq_i res_at (Term.int_eval (1)) rfl), trivial⟩ ⟨hq.1, hq.2.1, hq.2.2.1, (hq.2.2.2.sift fun y hy => Or.inr (N y hy)).mono (by decide) (by decide)⟩⟩
theorem main_1_1 : Claimed_1_1 := comes_1 fun _ _ _ _ _ _ h hF => ⟨h.1, hF⟩
theorem main_1_2 : Claimed_1_2 := comes_1 fun _ _ _ _ _ _ h hF => ⟨h.2.1, hF⟩
end Jvm.Pilot.@@N@@
namespace Jvm.Pilot.@@N@@
open Jvm Jvm.ClassFile Sem Op Lib Jvm.Free Jvm.Stand Jvm.Pilot.@@N@@.Jvm.D
/-! MADE BY PROGRAM (witnessworld.py) out of the Statement's table words and the real class files: 21 classes; the members and pool entries that the words name. The judged class is class 1, her method 2. -/
namespace start1
open Jvm.ClassFile
def u (s : String) : CpInfo := .utf8 (stringToUtf16 s)
/-- a pool by its gaps: so many unusable entries, then the entry; so many at the end -/
def gap : Nat → List CpInfo → List CpInfo
  | 0, r => r
  | n + 1, r => .unusable :: gap n r
def poolList (es : List (Nat × CpInfo)) (last : Nat) : List CpInfo := es.foldr (fun e r => gap e.1 (e.2 :: r)) (gap last [])
def pool (es : List (Nat × CpInfo)) (last : Nat) : Array CpInfo := ⟨poolList es last⟩
def fileOf (pool : Array CpInfo) (this : Nat) (attrs : Array Attribute := #[]) (ms : Array MethodInfo := #[]) (fl : Nat := 33) (sup : Nat := 0) (ifs : Array Nat := #[]) (fds : Array FieldInfo := #[]) : ClassFile where
  minorVersion := 0
  majorVersion := 65
  constantPool := pool
  accessFlags := fl
  thisClass := this
  superClass := sup
  interfaces := ifs
  fields := fds
  methods := ms
  attributes := attrs
def plain (name : String) (sup : Option ClassId) : Class where
  name := name
  kind := .ordinary
  loader := none
  accessFlags := 33
  super := sup
  interfaces := #[]
  cf := none
  fields := #[]
  methods := #[]
  instanceTypes := #[]
  staticTypes := #[]
  resolved := #[]
  callSites := []
  init := .initialized
  statics := none
  mirror := none

def pool0 : Array CpInfo := pool [(5, u "<init>"), (0, u "()V"), (1, .class_ 10), (1, u "java/lang/Object")] 113

def k0c0 : Code := { maxStack := 0, maxLocals := 1, code := object_method_1_code, exceptionTable := #[], attributes := #[] }
def k0m0 : Method := { name := "<init>", desc := "()V", sig := { parameters := [], returnType := none }, accessFlags := 1, code := some k0c0 }
/-- java/lang/Object -/
def k0 : Class := { plain "java/lang/Object" none with
  accessFlags := 33
  interfaces := #[]
  cf := some (fileOf pool0 8 #[] #[{ accessFlags := 1, nameIndex := 5, descriptorIndex := 6, attributes := #[] }] 33 0 #[] #[])
  fields := #[]
  methods := #[k0m0]
  instanceTypes := #[]
  staticTypes := #[]
  resolved := Array.replicate 124 none
  statics := none }

def pool1 : Array CpInfo := pool [(2, .class_ 4), (1, u "java/lang/Object"), (0, u "<init>"), (0, u "()V"), (0, .long 511), (1, .integer 2147483647), (0, .methodref 11 12), (0, .class_ 13), (0, .nameAndType 14 15), (0, u "com/example/crossname/crossname/access/EmailsIsAddressPinLaw"), (0, u "draw"), (0, u "(JI)C"), (0, .class_ 17), (0, u "java/lang/String"), (0, .methodref 16 19), (0, .nameAndType 5 20), (0, u "([C)V"), (0, .methodref 22 23), (0, .class_ 24), (0, .nameAndType 25 26), (0, u "com/example/crossname/crossname/access/Emails"), (0, u "isAddress"), (0, u "(Ljava/lang/String;)Z"), (3, u "law"), (0, u "(IJ)Z")] 4

def k1m0 : Method := { name := "<init>", desc := "()V", sig := { parameters := [], returnType := none }, accessFlags := 2, code := none }
def k1c1 : Code := { maxStack := 4, maxLocals := 4, code := method_2_code, exceptionTable := #[], attributes := #[] }
def k1m1 : Method := { name := "draw", desc := "(JI)C", sig := { parameters := [.long, .int], returnType := some .char }, accessFlags := 10, code := some k1c1 }
def k1c2 : Code := { maxStack := 3, maxLocals := 16, code := code, exceptionTable := #[], attributes := #[] }
def k1m2 : Method := { name := "law", desc := "(IJ)Z", sig := { parameters := [.int, .long], returnType := some .boolean }, accessFlags := 9, code := some k1c2 }
/-- com/example/crossname/crossname/access/EmailsIsAddressPinLaw -/
def k1 : Class := { plain "com/example/crossname/crossname/access/EmailsIsAddressPinLaw" (some 0) with
  accessFlags := 49
  interfaces := #[]
  cf := some (fileOf pool1 11 #[] #[{ accessFlags := 2, nameIndex := 5, descriptorIndex := 6, attributes := #[] }, { accessFlags := 10, nameIndex := 14, descriptorIndex := 15, attributes := #[] }, { accessFlags := 9, nameIndex := 30, descriptorIndex := 31, attributes := #[] }] 49 2 #[] #[])
  fields := #[]
  methods := #[k1m0, k1m1, k1m2]
  instanceTypes := #[]
  staticTypes := #[]
  resolved := Array.replicate 36 none
  statics := none }

def pool2 : Array CpInfo := pool [(1, .class_ 2), (0, u "java/io/Serializable"), (0, .class_ 4), (0, u "java/lang/Object")] 2

/-- java/io/Serializable -/
def k2 : Class := { plain "java/io/Serializable" (some 0) with
  accessFlags := 1537
  interfaces := #[]
  cf := some (fileOf pool2 1 #[] #[] 1537 3 #[] #[])
  fields := #[]
  methods := #[]
  instanceTypes := #[]
  staticTypes := #[]
  resolved := Array.replicate 7 none
  statics := none }

def pool3 : Array CpInfo := pool [(1, .class_ 2), (0, u "java/lang/Comparable"), (0, .class_ 4), (0, u "java/lang/Object")] 7

/-- java/lang/Comparable -/
def k3 : Class := { plain "java/lang/Comparable" (some 0) with
  accessFlags := 1537
  interfaces := #[]
  cf := some (fileOf pool3 1 #[] #[] 1537 3 #[] #[])
  fields := #[]
  methods := #[]
  instanceTypes := #[]
  staticTypes := #[]
  resolved := Array.replicate 12 none
  statics := none }

def pool4 : Array CpInfo := pool [(2, .class_ 4), (1, u "java/lang/CharSequence"), (42, .class_ 48), (0, u "java/lang/CharSequence$1CodePointIterator"), (10, .class_ 60), (0, u "java/lang/CharSequence$1CharIterator"), (5, .class_ 67), (0, u "java/lang/Object")] 63

/-- java/lang/CharSequence -/
def k4 : Class := { plain "java/lang/CharSequence" (some 0) with
  accessFlags := 1537
  interfaces := #[]
  cf := some (fileOf pool4 2 #[.nestMembers #[47, 59]] #[] 1537 66 #[] #[])
  fields := #[]
  methods := #[]
  instanceTypes := #[]
  staticTypes := #[]
  resolved := Array.replicate 131 none
  statics := none }

def pool5 : Array CpInfo := pool [(1, .class_ 2), (0, u "java/lang/constant/Constable"), (0, .class_ 4), (0, u "java/lang/Object")] 6

/-- java/lang/constant/Constable -/
def k5 : Class := { plain "java/lang/constant/Constable" (some 0) with
  accessFlags := 1537
  interfaces := #[]
  cf := some (fileOf pool5 1 #[] #[] 1537 3 #[] #[])
  fields := #[]
  methods := #[]
  instanceTypes := #[]
  staticTypes := #[]
  resolved := Array.replicate 11 none
  statics := none }

def pool6 : Array CpInfo := pool [(1, .class_ 2), (0, u "java/lang/constant/ConstantDesc"), (0, .class_ 4), (0, u "java/lang/Object")] 32

/-- java/lang/constant/ConstantDesc -/
def k6 : Class := { plain "java/lang/constant/ConstantDesc" (some 0) with
  accessFlags := 1537
  interfaces := #[]
  cf := some (fileOf pool6 1 #[] #[] 1537 3 #[] #[])
  fields := #[]
  methods := #[]
  instanceTypes := #[]
  staticTypes := #[]
  resolved := Array.replicate 37 none
  statics := none }

def pool7 : Array CpInfo := pool [(1, .methodref 2 3), (0, .class_ 4), (0, .nameAndType 5 6), (0, u "java/lang/Object"), (0, u "<init>"), (0, u "()V"), (0, .string 8), (0, u ""), (0, .fieldref 10 11), (0, .class_ 12), (0, .nameAndType 13 14), (0, u "java/lang/String"), (0, u "value"), (0, u "[B"), (0, .fieldref 10 16), (0, .nameAndType 17 18), (0, u "coder"), (0, u "B"), (2, u "hash"), (0, u "I"), (2, u "hashIsZero"), (0, u "Z"), (0, .methodref 10 28), (0, .nameAndType 5 29), (0, u "([CIILjava/lang/Void;)V"), (8, .fieldref 10 39), (0, .nameAndType 40 26), (0, u "COMPACT_STRINGS"), (1, .class_ 44), (1, u "java/lang/StringUTF16"), (0, u "compress"), (1, .methodref 42 48), (0, .nameAndType 49 50), (0, u "coderFromArrayLen"), (0, u "([BI)B"), (46, u "([BII)I"), (9, .class_ 109), (1, u "java/lang/StringLatin1"), (32, u "()Z"), (34, .methodref 42 178), (0, .nameAndType 45 179), (0, u "([CII)[B"), (154, u "()I"), (0, .methodref 10 336), (0, .nameAndType 17 337), (0, u "()B"), (154, .methodref 10 493), (0, .nameAndType 494 142), (0, u "isLatin1"), (10, .methodref 10 506), (0, .nameAndType 507 334), (0, u "length"), (67, .class_ 576), (0, u "java/lang/CharSequence"), (22, u "CASE_INSENSITIVE_ORDER"), (0, u "Ljava/util/Comparator;"), (35, u "(II)I"), (4, .methodref 10 642), (0, .nameAndType 643 636), (0, u "lastIndexOf"), (0, .methodref 107 645), (0, .nameAndType 643 97), (119, u "(I)I"), (244, u "([C)V"), (90, u "serialPersistentFields"), (0, u "[Ljava/io/ObjectStreamField;"), (0, .class_ 1104), (0, u "java/lang/String$CaseInsensitiveComparator"), (1, .class_ 1107), (0, u "java/io/Serializable"), (0, .class_ 1109), (0, u "java/lang/Comparable"), (0, .class_ 1111), (0, u "java/lang/constant/Constable"), (0, .class_ 1113), (0, u "java/lang/constant/ConstantDesc"), (2, u "serialVersionUID"), (0, u "J"), (3, u "REPL"), (0, u "C"), (2, u "LATIN1"), (1, u "UTF16")] 323

def k7m0 : Method := { name := "<init>", desc := "()V", sig := { parameters := [], returnType := none }, accessFlags := 1, code := none }
def k7c1 : Code := { maxStack := 5, maxLocals := 2, code := jdk_42_method_3_code, exceptionTable := #[], attributes := #[] }
def k7m1 : Method := { name := "<init>", desc := "([C)V", sig := { parameters := [(.array .char)], returnType := none }, accessFlags := 1, code := some k7c1 }
def k7c2 : Code := { maxStack := 2, maxLocals := 1, code := jdk_42_method_54_code, exceptionTable := #[], attributes := #[] }
def k7m2 : Method := { name := "length", desc := "()I", sig := { parameters := [], returnType := some .int }, accessFlags := 1, code := some k7c2 }
def k7c3 : Code := { maxStack := 4, maxLocals := 2, code := jdk_42_method_82_code, exceptionTable := #[], attributes := #[] }
def k7m3 : Method := { name := "lastIndexOf", desc := "(I)I", sig := { parameters := [.int], returnType := some .int }, accessFlags := 1, code := some k7c3 }
def k7c4 : Code := { maxStack := 3, maxLocals := 3, code := jdk_42_method_83_code, exceptionTable := #[], attributes := #[] }
def k7m4 : Method := { name := "lastIndexOf", desc := "(II)I", sig := { parameters := [.int, .int], returnType := some .int }, accessFlags := 1, code := some k7c4 }
def k7c5 : Code := { maxStack := 4, maxLocals := 6, code := jdk_42_method_149_code, exceptionTable := #[], attributes := #[] }
def k7m5 : Method := { name := "<init>", desc := "([CIILjava/lang/Void;)V", sig := { parameters := [(.array .char), .int, .int, (.object "java/lang/Void")], returnType := none }, accessFlags := 2, code := some k7c5 }
def k7c6 : Code := { maxStack := 1, maxLocals := 1, code := jdk_42_method_152_code, exceptionTable := #[], attributes := #[] }
def k7m6 : Method := { name := "coder", desc := "()B", sig := { parameters := [], returnType := some .byte }, accessFlags := 0, code := some k7c6 }
def k7c7 : Code := { maxStack := 1, maxLocals := 1, code := jdk_42_method_154_code, exceptionTable := #[], attributes := #[] }
def k7m7 : Method := { name := "isLatin1", desc := "()Z", sig := { parameters := [], returnType := some .boolean }, accessFlags := 0, code := some k7c7 }
/-- java/lang/String -/
def k7 : Class := { plain "java/lang/String" (some 0) with
  accessFlags := 49
  interfaces := #[2, 3, 4, 5, 6]
  cf := some (fileOf pool7 10 #[.nestMembers #[1103]] #[{ accessFlags := 1, nameIndex := 5, descriptorIndex := 6, attributes := #[] }, { accessFlags := 1, nameIndex := 5, descriptorIndex := 1010, attributes := #[] }, { accessFlags := 1, nameIndex := 507, descriptorIndex := 334, attributes := #[] }, { accessFlags := 1, nameIndex := 643, descriptorIndex := 765, attributes := #[] }, { accessFlags := 1, nameIndex := 643, descriptorIndex := 636, attributes := #[] }, { accessFlags := 2, nameIndex := 5, descriptorIndex := 29, attributes := #[] }, { accessFlags := 0, nameIndex := 17, descriptorIndex := 337, attributes := #[] }, { accessFlags := 0, nameIndex := 494, descriptorIndex := 142, attributes := #[] }] 49 2 #[1106, 1108, 575, 1110, 1112] #[{ accessFlags := 18, nameIndex := 13, descriptorIndex := 14, attributes := #[] }, { accessFlags := 18, nameIndex := 17, descriptorIndex := 18, attributes := #[] }, { accessFlags := 2, nameIndex := 21, descriptorIndex := 22, attributes := #[] }, { accessFlags := 2, nameIndex := 25, descriptorIndex := 26, attributes := #[] }, { accessFlags := 26, nameIndex := 1116, descriptorIndex := 1117, attributes := #[] }, { accessFlags := 24, nameIndex := 40, descriptorIndex := 26, attributes := #[] }, { accessFlags := 26, nameIndex := 1101, descriptorIndex := 1102, attributes := #[] }, { accessFlags := 26, nameIndex := 1121, descriptorIndex := 1122, attributes := #[] }, { accessFlags := 25, nameIndex := 599, descriptorIndex := 600, attributes := #[] }, { accessFlags := 24, nameIndex := 1125, descriptorIndex := 18, attributes := #[] }, { accessFlags := 24, nameIndex := 1127, descriptorIndex := 18, attributes := #[] }])
  fields := #[{ name := "value", type := (.array .byte), accessFlags := 18, slot := 0, constantValue := 0 }, { name := "coder", type := .byte, accessFlags := 18, slot := 1, constantValue := 0 }, { name := "hash", type := .int, accessFlags := 2, slot := 2, constantValue := 0 }, { name := "hashIsZero", type := .boolean, accessFlags := 2, slot := 3, constantValue := 0 }, { name := "serialVersionUID", type := .long, accessFlags := 26, slot := 0, constantValue := 0 }, { name := "COMPACT_STRINGS", type := .boolean, accessFlags := 24, slot := 1, constantValue := 0 }, { name := "serialPersistentFields", type := (.array (.object "java/io/ObjectStreamField")), accessFlags := 26, slot := 2, constantValue := 0 }, { name := "REPL", type := .char, accessFlags := 26, slot := 3, constantValue := 0 }, { name := "CASE_INSENSITIVE_ORDER", type := (.object "java/util/Comparator"), accessFlags := 25, slot := 4, constantValue := 0 }, { name := "LATIN1", type := .byte, accessFlags := 24, slot := 5, constantValue := 0 }, { name := "UTF16", type := .byte, accessFlags := 24, slot := 6, constantValue := 0 }]
  methods := #[k7m0, k7m1, k7m2, k7m3, k7m4, k7m5, k7m6, k7m7]
  instanceTypes := #[(.array .byte), .byte, .int, .boolean]
  staticTypes := #[.long, .boolean, (.array (.object "java/io/ObjectStreamField")), .char, (.object "java/util/Comparator"), .byte, .byte]
  resolved := Array.replicate 1451 none
  statics := some 0 }

def pool8 : Array CpInfo := pool [(2, .class_ 4), (1, u "java/lang/Object"), (0, u "<init>"), (0, u "()V"), (0, .methodref 8 9), (0, .class_ 10), (0, .nameAndType 11 12), (0, u "java/lang/String"), (0, u "lastIndexOf"), (0, u "(I)I"), (0, .methodref 8 14), (0, .nameAndType 15 16), (0, u "length"), (0, u "()I"), (9, .class_ 28), (1, u "com/example/crossname/crossname/access/Emails"), (0, u "isAddress"), (0, u "(Ljava/lang/String;)Z")] 46

def k8m0 : Method := { name := "<init>", desc := "()V", sig := { parameters := [], returnType := none }, accessFlags := 2, code := none }
def k8c1 : Code := { maxStack := 3, maxLocals := 2, code := prog_9_method_2_code, exceptionTable := #[], attributes := #[] }
def k8m1 : Method := { name := "isAddress", desc := "(Ljava/lang/String;)Z", sig := { parameters := [(.object "java/lang/String")], returnType := some .boolean }, accessFlags := 9, code := some k8c1 }
/-- com/example/crossname/crossname/access/Emails -/
def k8 : Class := { plain "com/example/crossname/crossname/access/Emails" (some 0) with
  accessFlags := 33
  interfaces := #[]
  cf := some (fileOf pool8 26 #[] #[{ accessFlags := 2, nameIndex := 5, descriptorIndex := 6, attributes := #[] }, { accessFlags := 9, nameIndex := 29, descriptorIndex := 30, attributes := #[] }] 33 2 #[] #[])
  fields := #[]
  methods := #[k8m0, k8m1]
  instanceTypes := #[]
  staticTypes := #[]
  resolved := Array.replicate 77 none
  statics := none }

def pool9 : Array CpInfo := pool [(4, .class_ 6), (1, u "java/lang/Object"), (0, u "<init>"), (0, u "()V"), (5, .class_ 16), (1, u "java/lang/StringLatin1"), (21, .methodref 39 40), (0, .class_ 41), (0, .nameAndType 42 43), (0, u "java/lang/Math"), (0, u "min"), (0, u "(II)I"), (44, .methodref 14 89), (0, .nameAndType 90 91), (0, u "canEncode"), (0, u "(I)Z"), (29, u "$assertionsDisabled"), (0, u "Z"), (98, .class_ 223), (1, u "java/lang/StringLatin1$LinesSpliterator"), (37, u "([BII)I"), (47, u "lastIndexOf"), (80, .class_ 391), (0, u "java/lang/StringLatin1$CharsSpliterator")] 3

def k9m0 : Method := { name := "<init>", desc := "()V", sig := { parameters := [], returnType := none }, accessFlags := 0, code := none }
def k9c1 : Code := { maxStack := 2, maxLocals := 1, code := jdk_43_method_4_code, exceptionTable := #[], attributes := #[] }
def k9m1 : Method := { name := "canEncode", desc := "(I)Z", sig := { parameters := [.int], returnType := some .boolean }, accessFlags := 9, code := some k9c1 }
def k9c2 : Code := { maxStack := 3, maxLocals := 4, code := jdk_43_method_27_code, exceptionTable := #[], attributes := #[] }
def k9m2 : Method := { name := "lastIndexOf", desc := "([BII)I", sig := { parameters := [(.array .byte), .int, .int], returnType := some .int }, accessFlags := 9, code := some k9c2 }
/-- java/lang/StringLatin1 -/
def k9 : Class := { plain "java/lang/StringLatin1" (some 0) with
  accessFlags := 48
  interfaces := #[]
  cf := some (fileOf pool9 14 #[.nestMembers #[390, 221]] #[{ accessFlags := 0, nameIndex := 7, descriptorIndex := 8, attributes := #[] }, { accessFlags := 9, nameIndex := 90, descriptorIndex := 91, attributes := #[] }, { accessFlags := 9, nameIndex := 309, descriptorIndex := 261, attributes := #[] }] 48 4 #[] #[{ accessFlags := 4120, nameIndex := 121, descriptorIndex := 122, attributes := #[] }])
  fields := #[{ name := "$assertionsDisabled", type := .boolean, accessFlags := 4120, slot := 0, constantValue := 0 }]
  methods := #[k9m0, k9m1, k9m2]
  instanceTypes := #[]
  staticTypes := #[.boolean]
  resolved := Array.replicate 395 none
  statics := none }

def pool10 : Array CpInfo := pool [(1, .class_ 2), (0, u "java/lang/Math"), (1, .class_ 6), (1, u "java/lang/Object"), (0, u "<init>"), (0, u "()V"), (89, .class_ 100), (1, u "java/lang/Math$RandomNumberGeneratorHolder"), (71, u "negativeZeroFloatBits"), (0, u "J"), (2, u "negativeZeroDoubleBits"), (24, u "min"), (43, u "$assertionsDisabled"), (0, u "Z"), (88, u "(II)I"), (2, u "twoToTheDoubleScaleDown"), (0, u "D"), (4, u "twoToTheDoubleScaleUp"), (9, u "E"), (3, u "PI"), (2, u "TAU"), (2, u "DEGREES_TO_RADIANS"), (0, u "RADIANS_TO_DEGREES")] 94

def k10m0 : Method := { name := "<init>", desc := "()V", sig := { parameters := [], returnType := none }, accessFlags := 2, code := none }
def k10c1 : Code := { maxStack := 2, maxLocals := 2, code := jdk_29_method_69_code, exceptionTable := #[], attributes := #[] }
def k10m1 : Method := { name := "min", desc := "(II)I", sig := { parameters := [.int, .int], returnType := some .int }, accessFlags := 9, code := some k10c1 }
/-- java/lang/Math -/
def k10 : Class := { plain "java/lang/Math" (some 0) with
  accessFlags := 49
  interfaces := #[]
  cf := some (fileOf pool10 1 #[.nestMembers #[98]] #[{ accessFlags := 2, nameIndex := 7, descriptorIndex := 8, attributes := #[] }, { accessFlags := 9, nameIndex := 201, descriptorIndex := 335, attributes := #[] }] 49 4 #[] #[{ accessFlags := 25, nameIndex := 354, descriptorIndex := 339, attributes := #[] }, { accessFlags := 25, nameIndex := 358, descriptorIndex := 339, attributes := #[] }, { accessFlags := 25, nameIndex := 361, descriptorIndex := 339, attributes := #[] }, { accessFlags := 26, nameIndex := 364, descriptorIndex := 339, attributes := #[] }, { accessFlags := 26, nameIndex := 365, descriptorIndex := 339, attributes := #[] }, { accessFlags := 26, nameIndex := 172, descriptorIndex := 173, attributes := #[] }, { accessFlags := 26, nameIndex := 176, descriptorIndex := 173, attributes := #[] }, { accessFlags := 8, nameIndex := 344, descriptorIndex := 339, attributes := #[] }, { accessFlags := 8, nameIndex := 338, descriptorIndex := 339, attributes := #[] }, { accessFlags := 4120, nameIndex := 245, descriptorIndex := 246, attributes := #[] }])
  fields := #[{ name := "E", type := .double, accessFlags := 25, slot := 0, constantValue := 0 }, { name := "PI", type := .double, accessFlags := 25, slot := 1, constantValue := 0 }, { name := "TAU", type := .double, accessFlags := 25, slot := 2, constantValue := 0 }, { name := "DEGREES_TO_RADIANS", type := .double, accessFlags := 26, slot := 3, constantValue := 0 }, { name := "RADIANS_TO_DEGREES", type := .double, accessFlags := 26, slot := 4, constantValue := 0 }, { name := "negativeZeroFloatBits", type := .long, accessFlags := 26, slot := 5, constantValue := 0 }, { name := "negativeZeroDoubleBits", type := .long, accessFlags := 26, slot := 6, constantValue := 0 }, { name := "twoToTheDoubleScaleUp", type := .double, accessFlags := 8, slot := 7, constantValue := 0 }, { name := "twoToTheDoubleScaleDown", type := .double, accessFlags := 8, slot := 8, constantValue := 0 }, { name := "$assertionsDisabled", type := .boolean, accessFlags := 4120, slot := 9, constantValue := 0 }]
  methods := #[k10m0, k10m1]
  instanceTypes := #[]
  staticTypes := #[.double, .double, .double, .double, .double, .long, .long, .double, .double, .boolean]
  resolved := Array.replicate 460 none
  statics := none }

def pool11 : Array CpInfo := pool [(6, .class_ 8), (1, u "java/lang/Object"), (0, u "<init>"), (0, u "()V"), (1, .class_ 14), (1, u "java/lang/StringUTF16"), (31, u "$assertionsDisabled"), (0, u "Z"), (13, u "HI_BYTE_SHIFT"), (0, u "I"), (2, u "LO_BYTE_SHIFT"), (49, .methodref 12 116), (0, .nameAndType 117 118), (0, u "compress"), (0, u "([CI[BII)I"), (3, u "([CII)[B"), (138, u "coderFromArrayLen"), (0, u "([BI)B"), (106, .class_ 371), (1, u "java/lang/StringUTF16$LinesSpliterator"), (58, u "MAX_LENGTH"), (196, .class_ 628), (0, u "java/lang/StringUTF16$CodePointsSpliterator"), (0, .class_ 630), (0, u "java/lang/StringUTF16$CharsSpliterator")] 4

def k11m0 : Method := { name := "<init>", desc := "()V", sig := { parameters := [], returnType := none }, accessFlags := 0, code := none }
def k11c1 : Code := { maxStack := 2, maxLocals := 2, code := jdk_52_method_15_code, exceptionTable := #[], attributes := #[] }
def k11m1 : Method := { name := "coderFromArrayLen", desc := "([BI)B", sig := { parameters := [(.array .byte), .int], returnType := some .byte }, accessFlags := 8, code := some k11c1 }
def k11c2 : Code := { maxStack := 5, maxLocals := 6, code := jdk_52_method_16_code, exceptionTable := #[], attributes := #[] }
def k11m2 : Method := { name := "compress", desc := "([CII)[B", sig := { parameters := [(.array .char), .int, .int], returnType := some (.array .byte) }, accessFlags := 9, code := some k11c2 }
def k11c3 : Code := { maxStack := 3, maxLocals := 7, code := jdk_52_method_21_code, exceptionTable := #[], attributes := #[] }
def k11m3 : Method := { name := "compress", desc := "([CI[BII)I", sig := { parameters := [(.array .char), .int, (.array .byte), .int, .int], returnType := some .int }, accessFlags := 9, code := some k11c3 }
/-- java/lang/StringUTF16 -/
def k11 : Class := { plain "java/lang/StringUTF16" (some 0) with
  accessFlags := 48
  interfaces := #[]
  cf := some (fileOf pool11 12 #[.nestMembers #[627, 629, 369]] #[{ accessFlags := 0, nameIndex := 9, descriptorIndex := 10, attributes := #[] }, { accessFlags := 8, nameIndex := 261, descriptorIndex := 262, attributes := #[] }, { accessFlags := 9, nameIndex := 117, descriptorIndex := 122, attributes := #[] }, { accessFlags := 9, nameIndex := 117, descriptorIndex := 118, attributes := #[] }] 48 6 #[] #[{ accessFlags := 26, nameIndex := 61, descriptorIndex := 62, attributes := #[] }, { accessFlags := 26, nameIndex := 65, descriptorIndex := 62, attributes := #[] }, { accessFlags := 24, nameIndex := 430, descriptorIndex := 62, attributes := #[] }, { accessFlags := 4120, nameIndex := 46, descriptorIndex := 47, attributes := #[] }])
  fields := #[{ name := "HI_BYTE_SHIFT", type := .int, accessFlags := 26, slot := 0, constantValue := 0 }, { name := "LO_BYTE_SHIFT", type := .int, accessFlags := 26, slot := 1, constantValue := 0 }, { name := "MAX_LENGTH", type := .int, accessFlags := 24, slot := 2, constantValue := 0 }, { name := "$assertionsDisabled", type := .boolean, accessFlags := 4120, slot := 3, constantValue := 0 }]
  methods := #[k11m0, k11m1, k11m2, k11m3]
  instanceTypes := #[]
  staticTypes := #[.int, .int, .int, .boolean]
  resolved := Array.replicate 635 none
  statics := none }

def pool12 : Array CpInfo := pool [(2, .class_ 4), (1, u "java/lang/Object"), (0, u "<init>"), (0, u "()V"), (17, .class_ 26), (1, u "jdk/internal/util/Preconditions"), (28, .class_ 56), (0, u "jdk/internal/util/Preconditions$4"), (57, .class_ 115), (0, u "jdk/internal/util/Preconditions$1"), (7, u "SIOOBE_FORMATTER"), (0, u "Ljava/util/function/BiFunction;"), (0, .class_ 126), (0, u "jdk/internal/util/Preconditions$2"), (3, u "AIOOBE_FORMATTER"), (0, .class_ 132), (0, u "jdk/internal/util/Preconditions$3"), (3, u "IOOBE_FORMATTER")] 57

def k12m0 : Method := { name := "<init>", desc := "()V", sig := { parameters := [], returnType := none }, accessFlags := 1, code := none }
/-- jdk/internal/util/Preconditions -/
def k12 : Class := { plain "jdk/internal/util/Preconditions" (some 0) with
  accessFlags := 33
  interfaces := #[]
  cf := some (fileOf pool12 24 #[.nestMembers #[55, 131, 125, 114]] #[{ accessFlags := 1, nameIndex := 5, descriptorIndex := 6, attributes := #[] }] 33 2 #[] #[{ accessFlags := 25, nameIndex := 123, descriptorIndex := 124, attributes := #[] }, { accessFlags := 25, nameIndex := 130, descriptorIndex := 124, attributes := #[] }, { accessFlags := 25, nameIndex := 136, descriptorIndex := 124, attributes := #[] }])
  fields := #[{ name := "SIOOBE_FORMATTER", type := (.object "java/util/function/BiFunction"), accessFlags := 25, slot := 0, constantValue := 0 }, { name := "AIOOBE_FORMATTER", type := (.object "java/util/function/BiFunction"), accessFlags := 25, slot := 1, constantValue := 0 }, { name := "IOOBE_FORMATTER", type := (.object "java/util/function/BiFunction"), accessFlags := 25, slot := 2, constantValue := 0 }]
  methods := #[k12m0]
  instanceTypes := #[]
  staticTypes := #[(.object "java/util/function/BiFunction"), (.object "java/util/function/BiFunction"), (.object "java/util/function/BiFunction")]
  resolved := Array.replicate 194 none
  statics := some 1 }

def pool13 : Array CpInfo := pool [(9, u "<init>"), (6, .class_ 18), (1, u "java/lang/Object"), (0, u "()V"), (1, .class_ 23), (1, u "jdk/internal/util/ArraysSupport"), (0, u "LOG2_ARRAY_LONG_INDEX_SCALE"), (0, u "I"), (2, u "U"), (0, u "Ljdk/internal/misc/Unsafe;"), (8, u "BIG_ENDIAN"), (0, u "Z"), (8, u "LOG2_BYTE_BIT_SIZE"), (4, u "LOG2_ARRAY_INT_INDEX_SCALE"), (54, u "JLA"), (0, u "Ljdk/internal/access/JavaLangAccess;"), (11, u "LOG2_ARRAY_BOOLEAN_INDEX_SCALE"), (9, u "LOG2_ARRAY_BYTE_INDEX_SCALE"), (5, u "LOG2_ARRAY_CHAR_INDEX_SCALE"), (5, u "LOG2_ARRAY_SHORT_INDEX_SCALE"), (18, u "LOG2_ARRAY_FLOAT_INDEX_SCALE"), (24, u "LOG2_ARRAY_DOUBLE_INDEX_SCALE"), (89, u "T_BOOLEAN"), (2, u "T_CHAR"), (1, u "T_FLOAT"), (1, u "T_DOUBLE"), (1, u "T_BYTE"), (1, u "T_SHORT"), (1, u "T_INT"), (1, u "T_LONG"), (1, u "SOFT_MAX_ARRAY_LENGTH")] 83

def k13m0 : Method := { name := "<init>", desc := "()V", sig := { parameters := [], returnType := none }, accessFlags := 2, code := none }
/-- jdk/internal/util/ArraysSupport -/
def k13 : Class := { plain "jdk/internal/util/ArraysSupport" (some 0) with
  accessFlags := 33
  interfaces := #[]
  cf := some (fileOf pool13 21 #[] #[{ accessFlags := 2, nameIndex := 9, descriptorIndex := 19, attributes := #[] }] 33 16 #[] #[{ accessFlags := 24, nameIndex := 28, descriptorIndex := 29, attributes := #[] }, { accessFlags := 26, nameIndex := 38, descriptorIndex := 39, attributes := #[] }, { accessFlags := 25, nameIndex := 121, descriptorIndex := 25, attributes := #[] }, { accessFlags := 25, nameIndex := 131, descriptorIndex := 25, attributes := #[] }, { accessFlags := 25, nameIndex := 137, descriptorIndex := 25, attributes := #[] }, { accessFlags := 25, nameIndex := 143, descriptorIndex := 25, attributes := #[] }, { accessFlags := 25, nameIndex := 53, descriptorIndex := 25, attributes := #[] }, { accessFlags := 25, nameIndex := 24, descriptorIndex := 25, attributes := #[] }, { accessFlags := 25, nameIndex := 162, descriptorIndex := 25, attributes := #[] }, { accessFlags := 25, nameIndex := 187, descriptorIndex := 25, attributes := #[] }, { accessFlags := 26, nameIndex := 48, descriptorIndex := 25, attributes := #[] }, { accessFlags := 25, nameIndex := 277, descriptorIndex := 25, attributes := #[] }, { accessFlags := 25, nameIndex := 280, descriptorIndex := 25, attributes := #[] }, { accessFlags := 25, nameIndex := 282, descriptorIndex := 25, attributes := #[] }, { accessFlags := 25, nameIndex := 284, descriptorIndex := 25, attributes := #[] }, { accessFlags := 25, nameIndex := 286, descriptorIndex := 25, attributes := #[] }, { accessFlags := 25, nameIndex := 288, descriptorIndex := 25, attributes := #[] }, { accessFlags := 25, nameIndex := 290, descriptorIndex := 25, attributes := #[] }, { accessFlags := 25, nameIndex := 292, descriptorIndex := 25, attributes := #[] }, { accessFlags := 26, nameIndex := 108, descriptorIndex := 109, attributes := #[] }, { accessFlags := 25, nameIndex := 294, descriptorIndex := 25, attributes := #[] }])
  fields := #[{ name := "U", type := (.object "jdk/internal/misc/Unsafe"), accessFlags := 24, slot := 0, constantValue := 0 }, { name := "BIG_ENDIAN", type := .boolean, accessFlags := 26, slot := 1, constantValue := 0 }, { name := "LOG2_ARRAY_BOOLEAN_INDEX_SCALE", type := .int, accessFlags := 25, slot := 2, constantValue := 0 }, { name := "LOG2_ARRAY_BYTE_INDEX_SCALE", type := .int, accessFlags := 25, slot := 3, constantValue := 0 }, { name := "LOG2_ARRAY_CHAR_INDEX_SCALE", type := .int, accessFlags := 25, slot := 4, constantValue := 0 }, { name := "LOG2_ARRAY_SHORT_INDEX_SCALE", type := .int, accessFlags := 25, slot := 5, constantValue := 0 }, { name := "LOG2_ARRAY_INT_INDEX_SCALE", type := .int, accessFlags := 25, slot := 6, constantValue := 0 }, { name := "LOG2_ARRAY_LONG_INDEX_SCALE", type := .int, accessFlags := 25, slot := 7, constantValue := 0 }, { name := "LOG2_ARRAY_FLOAT_INDEX_SCALE", type := .int, accessFlags := 25, slot := 8, constantValue := 0 }, { name := "LOG2_ARRAY_DOUBLE_INDEX_SCALE", type := .int, accessFlags := 25, slot := 9, constantValue := 0 }, { name := "LOG2_BYTE_BIT_SIZE", type := .int, accessFlags := 26, slot := 10, constantValue := 0 }, { name := "T_BOOLEAN", type := .int, accessFlags := 25, slot := 11, constantValue := 0 }, { name := "T_CHAR", type := .int, accessFlags := 25, slot := 12, constantValue := 0 }, { name := "T_FLOAT", type := .int, accessFlags := 25, slot := 13, constantValue := 0 }, { name := "T_DOUBLE", type := .int, accessFlags := 25, slot := 14, constantValue := 0 }, { name := "T_BYTE", type := .int, accessFlags := 25, slot := 15, constantValue := 0 }, { name := "T_SHORT", type := .int, accessFlags := 25, slot := 16, constantValue := 0 }, { name := "T_INT", type := .int, accessFlags := 25, slot := 17, constantValue := 0 }, { name := "T_LONG", type := .int, accessFlags := 25, slot := 18, constantValue := 0 }, { name := "JLA", type := (.object "jdk/internal/access/JavaLangAccess"), accessFlags := 26, slot := 19, constantValue := 0 }, { name := "SOFT_MAX_ARRAY_LENGTH", type := .int, accessFlags := 25, slot := 20, constantValue := 0 }]
  methods := #[k13m0]
  instanceTypes := #[]
  staticTypes := #[(.object "jdk/internal/misc/Unsafe"), .boolean, .int, .int, .int, .int, .int, .int, .int, .int, .int, .int, .int, .int, .int, .int, .int, .int, .int, (.object "jdk/internal/access/JavaLangAccess"), .int]
  resolved := Array.replicate 378 none
  statics := none }

def pool14 : Array CpInfo := pool [(1, u "java/lang/Cloneable"), (0, .class_ 1), (0, u "java/lang/Object"), (0, .class_ 3)] 3

/-- java/lang/Cloneable -/
def k14 : Class := { plain "java/lang/Cloneable" (some 0) with
  accessFlags := 1537
  interfaces := #[]
  cf := some (fileOf pool14 2 #[] #[] 1537 4 #[] #[])
  fields := #[]
  methods := #[]
  instanceTypes := #[]
  staticTypes := #[]
  resolved := Array.replicate 8 none
  statics := none }

/-- the primitive byte -/
def k15 : Class := { plain "byte" none with kind := .primitive 'B', accessFlags := 0x411 }
/-- [B -/
def k16 : Class := { plain "[B" (some 0) with kind := .array 15 .byte, interfaces := #[14, 2], accessFlags := 1041 }

/-- the primitive char -/
def k17 : Class := { plain "char" none with kind := .primitive 'C', accessFlags := 0x411 }
/-- [C -/
def k18 : Class := { plain "[C" (some 0) with kind := .array 17 .char, interfaces := #[14, 2], accessFlags := 1041 }

/-- the primitive int -/
def k19 : Class := { plain "int" none with kind := .primitive 'I', accessFlags := 0x411 }
/-- [I -/
def k20 : Class := { plain "[I" (some 0) with kind := .array 19 .int, interfaces := #[14, 2], accessFlags := 1041 }

def heap : Heap := #[{ cls := 7, slots := #[.long 0, .int 1, .null, .int 0, .null, .int 0, .int 0], vm := .statics 7 },
  { cls := 12, slots := #[.null, .null, .null], vm := .statics 12 }]
def classes : Array Class := #[k0, k1, k2, k3, k4, k5, k6, k7, k8, k9, k10, k11, k12, k13, k14, k15, k16, k17, k18, k19, k20]
def interned : List (Array UInt16 × Addr) := []
def slotsUsed : Nat := 10
def theMethod : MethodId := ⟨1, 2⟩
def args0 : Array Value := #[.int 5, .long 6]
def aboutOver (below : List Frame) : State where
  vm := { classes := classes, interned := interned.toArray }
  heap := heap
  slotsUsed := slotsUsed
  threads := #[{ frames := .invoking theMethod args0 :: below }]
def below0 : List Frame := [.native { method := ⟨0, 0⟩, args := #[] }]
def about1 : State := aboutOver below0
def p0 : Program := .bare "" "" ""
def e0 : Env := launch0.env 0 0 0
theorem w_frames : about1.frames = Frame.invoking theMethod args0 :: below0 := rfl
set_option maxRecDepth 65536 in
theorem w_args : argsFit about1.vm theMethod args0 = true := by decide +kernel
set_option maxRecDepth 65536 in
theorem w_heap : heapFits about1 = true := by decide +kernel
set_option maxRecDepth 65536 in
theorem w_runnable : about1.curStatus? = some .runnable := by decide +kernel
set_option maxRecDepth 65536 in
theorem w_alone : about1.alone = true := by decide +kernel
set_option maxRecDepth 65536 in
theorem w_named : about1.methodNamed? x = some theMethod := by decide +kernel
set_option maxRecDepth 65536 in
theorem w_hears : about1.hears theMethod below0 = true := by decide +kernel
set_option maxRecDepth 65536 in
theorem w_ripe : about1.ripe theMethod args0 below0 = true := by decide +kernel
theorem w_running : about1.status = .running := rfl
set_option maxRecDepth 65536 in
theorem w_room : about1.hasRoom e0.platform room_1 = true :=
  launch0.hasRoom_least _ room_1 (by decide +kernel) (by decide +kernel) (by decide +kernel) (by decide +kernel) (by decide +kernel) (by decide +kernel)
theorem allAtoms_all (ts : List Jvm.Cond) (a : Array Jvm.Value) (st : Jvm.State) : (allAtoms ts).before a st = ts.all (fun c => c.before a st) := by
  induction ts with
  | nil => rfl
  | cons c t ih =>
    show (Jvm.Cond.and c (allAtoms t)).before a st = _
    rw [Jvm.Cond.before_and, ih, List.all_cons]
def words1 : List Jvm.Cond := Jvm.Cond.code x code maxLocals ret :: tables_1
/-- a 'code' word, met by the world's own term for the bytes: nothing is compared byte by byte -/
theorem code_word {y : MethodName} {bytes : ByteArray} {mx : Nat} {rt : Option FieldType} {a : Array Value} {s : State} {m : MethodId} {meth : Method} {c : Code} (h1 : s.methodNamed? y = some m) (h2 : s.vm.method? m = some meth) (h3 : meth.code = some c) (h4 : c.code = bytes)
    (h5 : (c.maxLocals == mx && c.exceptionTable.isEmpty && decide (c.maxStack ≤ mostOperands) && decide (meth.sig.returnType = rt) && !meth.locks && decide (parseMethodDescriptor y.desc = some meth.sig)) = true) : (Jvm.Cond.code y bytes mx rt).before a s = true := by
  simp only [Bool.and_eq_true, beq_iff_eq, Bool.not_eq_true', decide_eq_true_eq] at h5
  obtain ⟨⟨⟨⟨⟨g1, g2⟩, g3⟩, g4⟩, g5⟩, g6⟩ := h5
  simp [Cond.before, Cond.holds, Cond.value, h1, h2, h3, h4, g1, g2, g3, g4, g5, g6]
def isCode : Jvm.Cond → Bool
  | .code _ _ _ _ => true
  | _ => false
theorem all_split {L : List Jvm.Cond} {P : Jvm.Cond → Bool} (h1 : L.all (fun c => isCode c || P c) = true) (h2 : ∀ c ∈ L.filter isCode, P c = true) : L.all P = true := by
  refine List.all_eq_true.mpr fun c hc => ?_
  have h := List.all_eq_true.mp h1 c hc
  rcases Bool.eq_false_or_eq_true (isCode c) with hi | hi
  · exact h2 c (List.mem_filter.mpr ⟨hc, hi⟩)
  · simpa [hi] using h
set_option maxRecDepth 65536 in
theorem w_c0 : (Jvm.Cond.code x code maxLocals ret).before args0 about1 = true := code_word (m := ⟨1, 2⟩) (meth := k1m2) (c := k1c2) (by decide +kernel) rfl rfl rfl (by decide +kernel)
set_option maxRecDepth 65536 in
theorem w_c1 : (Jvm.Cond.code ({ cls := "com/example/crossname/crossname/access/EmailsIsAddressPinLaw", name := "draw", desc := "(JI)C" } : Jvm.MethodName) method_2_code (4 : Nat) (Option.some Jvm.ClassFile.FieldType.char)).before args0 about1 = true := code_word (m := ⟨1, 1⟩) (meth := k1m1) (c := k1c1) (by decide +kernel) rfl rfl rfl (by decide +kernel)
set_option maxRecDepth 65536 in
theorem w_c2 : (Jvm.Cond.code ({ cls := "java/lang/String", name := "<init>", desc := "([C)V" } : Jvm.MethodName) jdk_42_method_3_code (2 : Nat) (Option.none : Option Jvm.ClassFile.FieldType)).before args0 about1 = true := code_word (m := ⟨7, 1⟩) (meth := k7m1) (c := k7c1) (by decide +kernel) rfl rfl rfl (by decide +kernel)
set_option maxRecDepth 65536 in
theorem w_c3 : (Jvm.Cond.code ({ cls := "java/lang/String", name := "<init>", desc := "([CIILjava/lang/Void;)V" } : Jvm.MethodName) jdk_42_method_149_code (6 : Nat) (Option.none : Option Jvm.ClassFile.FieldType)).before args0 about1 = true := code_word (m := ⟨7, 5⟩) (meth := k7m5) (c := k7c5) (by decide +kernel) rfl rfl rfl (by decide +kernel)
set_option maxRecDepth 65536 in
theorem w_c4 : (Jvm.Cond.code ({ cls := "java/lang/Object", name := "<init>", desc := "()V" } : Jvm.MethodName) object_method_1_code (1 : Nat) (Option.none : Option Jvm.ClassFile.FieldType)).before args0 about1 = true := code_word (m := ⟨0, 0⟩) (meth := k0m0) (c := k0c0) (by decide +kernel) rfl rfl rfl (by decide +kernel)
set_option maxRecDepth 65536 in
theorem w_c5 : (Jvm.Cond.code ({ cls := "com/example/crossname/crossname/access/Emails", name := "isAddress", desc := "(Ljava/lang/String;)Z" } : Jvm.MethodName) prog_9_method_2_code (2 : Nat) (Option.some Jvm.ClassFile.FieldType.boolean)).before args0 about1 = true := code_word (m := ⟨8, 1⟩) (meth := k8m1) (c := k8c1) (by decide +kernel) rfl rfl rfl (by decide +kernel)
set_option maxRecDepth 65536 in
theorem w_c6 : (Jvm.Cond.code ({ cls := "java/lang/String", name := "lastIndexOf", desc := "(I)I" } : Jvm.MethodName) jdk_42_method_82_code (2 : Nat) (Option.some Jvm.ClassFile.FieldType.int)).before args0 about1 = true := code_word (m := ⟨7, 3⟩) (meth := k7m3) (c := k7c3) (by decide +kernel) rfl rfl rfl (by decide +kernel)
set_option maxRecDepth 65536 in
theorem w_c7 : (Jvm.Cond.code ({ cls := "java/lang/String", name := "length", desc := "()I" } : Jvm.MethodName) jdk_42_method_54_code (1 : Nat) (Option.some Jvm.ClassFile.FieldType.int)).before args0 about1 = true := code_word (m := ⟨7, 2⟩) (meth := k7m2) (c := k7c2) (by decide +kernel) rfl rfl rfl (by decide +kernel)
set_option maxRecDepth 65536 in
theorem w_c8 : (Jvm.Cond.code ({ cls := "java/lang/String", name := "coder", desc := "()B" } : Jvm.MethodName) jdk_42_method_152_code (1 : Nat) (Option.some Jvm.ClassFile.FieldType.byte)).before args0 about1 = true := code_word (m := ⟨7, 6⟩) (meth := k7m6) (c := k7c6) (by decide +kernel) rfl rfl rfl (by decide +kernel)
set_option maxRecDepth 65536 in
theorem w_c9 : (Jvm.Cond.code ({ cls := "java/lang/String", name := "lastIndexOf", desc := "(II)I" } : Jvm.MethodName) jdk_42_method_83_code (3 : Nat) (Option.some Jvm.ClassFile.FieldType.int)).before args0 about1 = true := code_word (m := ⟨7, 4⟩) (meth := k7m4) (c := k7c4) (by decide +kernel) rfl rfl rfl (by decide +kernel)
set_option maxRecDepth 65536 in
theorem w_c10 : (Jvm.Cond.code ({ cls := "java/lang/String", name := "isLatin1", desc := "()Z" } : Jvm.MethodName) jdk_42_method_154_code (1 : Nat) (Option.some Jvm.ClassFile.FieldType.boolean)).before args0 about1 = true := code_word (m := ⟨7, 7⟩) (meth := k7m7) (c := k7c7) (by decide +kernel) rfl rfl rfl (by decide +kernel)
set_option maxRecDepth 65536 in
theorem w_c11 : (Jvm.Cond.code ({ cls := "java/lang/StringLatin1", name := "lastIndexOf", desc := "([BII)I" } : Jvm.MethodName) jdk_43_method_27_code (4 : Nat) (Option.some Jvm.ClassFile.FieldType.int)).before args0 about1 = true := code_word (m := ⟨9, 2⟩) (meth := k9m2) (c := k9c2) (by decide +kernel) rfl rfl rfl (by decide +kernel)
set_option maxRecDepth 65536 in
theorem w_c12 : (Jvm.Cond.code ({ cls := "java/lang/StringLatin1", name := "canEncode", desc := "(I)Z" } : Jvm.MethodName) jdk_43_method_4_code (1 : Nat) (Option.some Jvm.ClassFile.FieldType.boolean)).before args0 about1 = true := code_word (m := ⟨9, 1⟩) (meth := k9m1) (c := k9c1) (by decide +kernel) rfl rfl rfl (by decide +kernel)
set_option maxRecDepth 65536 in
theorem w_c13 : (Jvm.Cond.code ({ cls := "java/lang/Math", name := "min", desc := "(II)I" } : Jvm.MethodName) jdk_29_method_69_code (2 : Nat) (Option.some Jvm.ClassFile.FieldType.int)).before args0 about1 = true := code_word (m := ⟨10, 1⟩) (meth := k10m1) (c := k10c1) (by decide +kernel) rfl rfl rfl (by decide +kernel)
set_option maxRecDepth 65536 in
theorem w_c14 : (Jvm.Cond.code ({ cls := "java/lang/StringUTF16", name := "compress", desc := "([CII)[B" } : Jvm.MethodName) jdk_52_method_16_code (6 : Nat) (Option.some (Jvm.ClassFile.FieldType.array Jvm.ClassFile.FieldType.byte))).before args0 about1 = true := code_word (m := ⟨11, 2⟩) (meth := k11m2) (c := k11c2) (by decide +kernel) rfl rfl rfl (by decide +kernel)
set_option maxRecDepth 65536 in
theorem w_c15 : (Jvm.Cond.code ({ cls := "java/lang/StringUTF16", name := "compress", desc := "([CI[BII)I" } : Jvm.MethodName) jdk_52_method_21_code (7 : Nat) (Option.some Jvm.ClassFile.FieldType.int)).before args0 about1 = true := code_word (m := ⟨11, 3⟩) (meth := k11m3) (c := k11c3) (by decide +kernel) rfl rfl rfl (by decide +kernel)
set_option maxRecDepth 65536 in
theorem w_c16 : (Jvm.Cond.code ({ cls := "java/lang/StringUTF16", name := "coderFromArrayLen", desc := "([BI)B" } : Jvm.MethodName) jdk_52_method_15_code (2 : Nat) (Option.some Jvm.ClassFile.FieldType.byte)).before args0 about1 = true := code_word (m := ⟨11, 1⟩) (meth := k11m1) (c := k11c1) (by decide +kernel) rfl rfl rfl (by decide +kernel)
def codes1 : List Jvm.Cond := [Jvm.Cond.code x code maxLocals ret, Jvm.Cond.code ({ cls := "com/example/crossname/crossname/access/EmailsIsAddressPinLaw", name := "draw", desc := "(JI)C" } : Jvm.MethodName) method_2_code (4 : Nat) (Option.some Jvm.ClassFile.FieldType.char), Jvm.Cond.code ({ cls := "java/lang/String", name := "<init>", desc := "([C)V" } : Jvm.MethodName) jdk_42_method_3_code (2 : Nat) (Option.none : Option Jvm.ClassFile.FieldType), Jvm.Cond.code ({ cls := "java/lang/String", name := "<init>", desc := "([CIILjava/lang/Void;)V" } : Jvm.MethodName) jdk_42_method_149_code (6 : Nat) (Option.none : Option Jvm.ClassFile.FieldType), Jvm.Cond.code ({ cls := "java/lang/Object", name := "<init>", desc := "()V" } : Jvm.MethodName) object_method_1_code (1 : Nat) (Option.none : Option Jvm.ClassFile.FieldType), Jvm.Cond.code ({ cls := "com/example/crossname/crossname/access/Emails", name := "isAddress", desc := "(Ljava/lang/String;)Z" } : Jvm.MethodName) prog_9_method_2_code (2 : Nat) (Option.some Jvm.ClassFile.FieldType.boolean), Jvm.Cond.code ({ cls := "java/lang/String", name := "lastIndexOf", desc := "(I)I" } : Jvm.MethodName) jdk_42_method_82_code (2 : Nat) (Option.some Jvm.ClassFile.FieldType.int), Jvm.Cond.code ({ cls := "java/lang/String", name := "length", desc := "()I" } : Jvm.MethodName) jdk_42_method_54_code (1 : Nat) (Option.some Jvm.ClassFile.FieldType.int), Jvm.Cond.code ({ cls := "java/lang/String", name := "coder", desc := "()B" } : Jvm.MethodName) jdk_42_method_152_code (1 : Nat) (Option.some Jvm.ClassFile.FieldType.byte), Jvm.Cond.code ({ cls := "java/lang/String", name := "lastIndexOf", desc := "(II)I" } : Jvm.MethodName) jdk_42_method_83_code (3 : Nat) (Option.some Jvm.ClassFile.FieldType.int), Jvm.Cond.code ({ cls := "java/lang/String", name := "isLatin1", desc := "()Z" } : Jvm.MethodName) jdk_42_method_154_code (1 : Nat) (Option.some Jvm.ClassFile.FieldType.boolean), Jvm.Cond.code ({ cls := "java/lang/StringLatin1", name := "lastIndexOf", desc := "([BII)I" } : Jvm.MethodName) jdk_43_method_27_code (4 : Nat) (Option.some Jvm.ClassFile.FieldType.int), Jvm.Cond.code ({ cls := "java/lang/StringLatin1", name := "canEncode", desc := "(I)Z" } : Jvm.MethodName) jdk_43_method_4_code (1 : Nat) (Option.some Jvm.ClassFile.FieldType.boolean), Jvm.Cond.code ({ cls := "java/lang/Math", name := "min", desc := "(II)I" } : Jvm.MethodName) jdk_29_method_69_code (2 : Nat) (Option.some Jvm.ClassFile.FieldType.int), Jvm.Cond.code ({ cls := "java/lang/StringUTF16", name := "compress", desc := "([CII)[B" } : Jvm.MethodName) jdk_52_method_16_code (6 : Nat) (Option.some (Jvm.ClassFile.FieldType.array Jvm.ClassFile.FieldType.byte)), Jvm.Cond.code ({ cls := "java/lang/StringUTF16", name := "compress", desc := "([CI[BII)I" } : Jvm.MethodName) jdk_52_method_21_code (7 : Nat) (Option.some Jvm.ClassFile.FieldType.int), Jvm.Cond.code ({ cls := "java/lang/StringUTF16", name := "coderFromArrayLen", desc := "([BI)B" } : Jvm.MethodName) jdk_52_method_15_code (2 : Nat) (Option.some Jvm.ClassFile.FieldType.byte)]
set_option maxRecDepth 65536 in
theorem codes_eq : words1.filter isCode = codes1 := rfl
theorem w_codes : ∀ c ∈ words1.filter isCode, c.before args0 about1 = true := by
  rw [codes_eq]
  intro c hc
  simp only [codes1, List.mem_cons, List.not_mem_nil, or_false] at hc
  rcases hc with rfl | rfl | rfl | rfl | rfl | rfl | rfl | rfl | rfl | rfl | rfl | rfl | rfl | rfl | rfl | rfl | rfl
  · exact w_c0
  · exact w_c1
  · exact w_c2
  · exact w_c3
  · exact w_c4
  · exact w_c5
  · exact w_c6
  · exact w_c7
  · exact w_c8
  · exact w_c9
  · exact w_c10
  · exact w_c11
  · exact w_c12
  · exact w_c13
  · exact w_c14
  · exact w_c15
  · exact w_c16
set_option maxRecDepth 65536 in
theorem w_t1 : (words1.take 24).all (fun c => isCode c || c.before args0 about1) = true := by decide +kernel
set_option maxRecDepth 65536 in
theorem w_t2 : ((words1.drop 24).take 24).all (fun c => isCode c || c.before args0 about1) = true := by decide +kernel
set_option maxRecDepth 65536 in
theorem w_t3 : (((words1.drop 24).drop 24).take 24).all (fun c => isCode c || c.before args0 about1) = true := by decide +kernel
set_option maxRecDepth 65536 in
theorem w_t4 : (((words1.drop 24).drop 24).drop 24).all (fun c => isCode c || c.before args0 about1) = true := by decide +kernel
theorem w_tables : (allAtoms (Jvm.Cond.code x code maxLocals ret :: tables_1)).before args0 about1 = true := by
  rw [allAtoms_all]
  show words1.all (fun c => c.before args0 about1) = true
  refine all_split ?_ w_codes
  rw [← List.take_append_drop 24 words1, List.all_append, w_t1, ← List.take_append_drop 24 (words1.drop 24), List.all_append, w_t2, ← List.take_append_drop 24 ((words1.drop 24).drop 24), List.all_append, w_t3, w_t4]
  rfl
set_option maxRecDepth 65536 in
theorem w_rest : rest_1_c.before args0 about1 = true := by decide +kernel
set_option maxRecDepth 65536 in
theorem w_case : (Jvm.Cond.and given_1 narrow_1).before args0 about1 = true := by decide +kernel
set_option maxRecDepth 65536 in
theorem w_consts : constsHeld consts_1 about1 := Jvm.Lit.constsHeldB_iff.mp (by decide +kernel)
theorem w_applies : (headSpec (Jvm.Cond.code x code maxLocals ret :: tables_1) room_1).applies x e0.platform about1 = true :=
  (Spec.applies_iff w_frames).mpr ⟨w_running, w_runnable, w_alone, w_named, w_hears, w_ripe, w_room, w_tables⟩
theorem atStart : AtStart classFile x code maxLocals ret World_1 tables_1 room_1 Calls_1 rest_1 Pre_1 launch0 p0 e0 about1 theMethod args0 below0 :=
  ⟨lists_1, trivial, launch0.admits_env _ _ _, launch0.least_env, fairChoices_fair.cas, fairChoices_fair.clock, w_frames, w_args, w_heap, w_applies, ⟨w_consts, trivial⟩, w_rest, w_case⟩
end start1
theorem witness_1 : WitnessClaimed_1 := ⟨start1.p0, start1.e0, start1.about1, start1.theMethod, start1.args0, start1.below0, start1.atStart⟩
end Jvm.Pilot.@@N@@
