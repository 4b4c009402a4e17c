import JvmDerived
import JvmDerived.Pilot.@@N@@Statement
import JvmDerived.Pilot.@@N@@Code
set_option linter.unusedVariables false
set_option linter.unusedSimpArgs false
namespace Jvm.OwnKit
open Sem ClassFile Op Lib Jvm.Stand Jvm.Free Jvm.LawKit Jvm.RoadKit
/-- from S the run comes to a state of which P holds -/
def Go (tb : Tables) (e : Env) (below : List Frame) (P : State → Prop) (S : State) : Prop := ∃ t, Steps tb e below S t ∧ P t
theorem Go.st {tb : Tables} {e : Env} {below : List Frame} {P : State → Prop} {S S' : State} (h : ∀ t, Steps tb e below S' t → Steps tb e below S t) (g : Go tb e below P S') : Go tb e below P S := by
  obtain ⟨t, h1, h2⟩ := g
  exact ⟨t, h t h1, h2⟩
theorem Go.cast {tb : Tables} {e : Env} {below : List Frame} {P : State → Prop} {T : State} {g g' : JFrame} (q : g = g') (k : Go tb e below P (T.setTop g')) : Go tb e below P (T.setTop g) := q ▸ k
/-- the invocation of s has returned, and Q says what -/
def Fine (s : State) (below : List Frame) (Q : Option Value → Heap → List Loc → Prop) (kc ks : Nat) (t : State) : Prop := ∃ o, t.status = .running ∧ Ended t below o ∧ ∃ v L, o = .returned v ∧ Q v t.heap L ∧ FrameEnd s o t L kc ks
/-- a method's contract, over the tables of the start Z: called with 'as' at the heap h0 it returns, and Q says what -/
def Con (l : Launch) (Z : State) (y : MethodName) (bytes : ByteArray) (maxL : Nat) (ret : Option FieldType) (ws : List Jvm.Cond) (rm : Room) (as : Array Value) (h0 : Heap) (Q : Option Value → Heap → List Loc → Prop) : Prop :=
  MetFree l y (head1 (Jvm.Cond.code y bytes maxL ret :: ws) rm) (fun a U => a = as ∧ Z.Warmed39 U.vm ∧ U.heap = h0) (fun _ _ _ _ _ => True) (fun _ U o U' => ∃ v L, o = .returned v ∧ Q v U'.heap L ∧ FrameEnd U o U' L rm.cells rm.slots)
theorem Con.of {l : Launch} {Z : State} {y : MethodName} {bytes : ByteArray} {maxL : Nat} {ret : Option FieldType} {ws : List Jvm.Cond} {rm : Room} {as : Array Value} {h0 : Heap} {Q : Option Value → Heap → List Loc → Prop} (hpl : plainFor y = true)
    (body : ∀ (p : Program) (e : Env) (s : State) (m : MethodId) (below : List Frame) (meth : Method) (c : Code) (s₁ : State), Z.Warmed39 s.vm → s₁.heap = h0 → Stand p l e rm s m as below meth c s₁ [] 0 0 → p.tables.exec = Jvm.exec → c.code = bytes → c.maxLocals = maxL → s.vm.findClass y.cls = some m.cls → meth.name = y.name → meth.sig.returnType = ret → meth.locks = false →
      Go p.tables e below (Fine s below Q rm.cells rm.slots) (s₁.setTop (entryFrame m as maxL))) : Con l Z y bytes maxL ret ws rm as h0 Q := by
  refine MetFree.of_bodySF hpl hisR ?_
  intro p e s m args below meth c s₁ Bd hml hP hK
  obtain ⟨rfl, hZ, hh⟩ := hP
  have e0 : s₁.heap = h0 := by rw [← hh, Bd.state]; rfl
  obtain ⟨t, h1, o, h2, h3, h4⟩ := body p e s m below meth c s₁ hZ e0 (Stand.of_body Bd) Bd.exec Bd.bytes hml (findClass_of_methodNamed Bd.named) (name_of_methodNamed Bd.named Bd.method).1 Bd.returns Bd.notSynchronized
  exact ⟨t, o, h1, h2, h3, h4⟩
def bi (P : Prop) [Decidable P] : Int32 := if P then 1 else 0
theorem bi_t {P : Prop} [Decidable P] (h : P) : bi P = 1 := if_pos h
theorem bi_f {P : Prop} [Decidable P] (h : ¬ P) : bi P = 0 := if_neg h
theorem eqL_v {args : Array Value} {first s : State} {o : Option Outcome} {idx : List Nat} {t : Term} {k : Int64} (h : (Cond.eq t (.long k)).value args first o s idx = some true) : t.eval args first o idx s = some (.long k) := by
  obtain ⟨x, y, ev, ey, -, hk⟩ := cmp_v (Or.inl h)
  obtain rfl : Value.long k = y := Option.some.inj ey
  obtain ⟨z, rfl⟩ := hk
  obtain rfl : z = k := gotT (eq_L ev ey) h
  exact ev
theorem eqI_v {args : Array Value} {first s : State} {o : Option Outcome} {idx : List Nat} {t : Term} {k : Int32} (h : (Cond.eq t (.int k)).value args first o s idx = some true) : t.eval args first o idx s = some (.int k) := by
  obtain ⟨x, y, ev, ey, -, hk⟩ := cmp_v (Or.inl h)
  obtain rfl : Value.int k = y := Option.some.inj ey
  obtain ⟨z, rfl⟩ := hk
  have q : (Cond.eq t (.int k)).value args first o s idx = some (decide (z = k)) := by simp [Cond.value, ev, ey]
  obtain rfl : z = k := gotT q h
  exact ev
section
variable {p : Program} {l : Launch} {e : Env} {R : Room} {s : State} {m : MethodId} {args : Array Value} {below : List Frame} {meth : Method} {c : Code} {T : State} {locs : List Loc} {cells slots : Nat} {Z : State} {a0 : Array Value} {h : Heap}
theorem fin {Q : Option Value → Heap → List Loc → Prop} {kc ks : Nat} {v : Option Value} {S : State} (X : Stand p l e R s m args below meth c T locs cells slots) (hv : meth.sig.returnType = none → v = none) (hlk : meth.locks = false) (hq : Q v T.heap locs) (hc : cells ≤ kc) (hs : slots ≤ ks)
    (st : ∀ fs, (∀ (f : JFrame) (acts : List Action), f.method = m → f.locked = none → f.entered = [] → (doReturn e (T.setTop f) acts v).1 = T.setFrames fs) → Steps p.tables e below S (T.setFrames fs)) : Go p.tables e below (Fine s below Q kc ks) S := by
  obtain ⟨fs, hr, hrun, hended, hW, hsame⟩ := X.leave (v := v) hv hlk
  exact ⟨_, st fs hr, _, hrun, hended, v, locs, rfl, hq, ⟨_, rfl⟩, hW, hsame.mono hc hs⟩
/-- return of an int, a long, a reference (no narrowing) -/
theorem endW {Q : Option Value → Heap → List Loc → Prop} {kc ks : Nat} (X : Stand p l e R s m args below meth c T locs cells slots) (hx : p.tables.exec = Jvm.exec) (hlk : meth.locks = false) {pc : Nat} {Ls : Array Slot} {w : Value} {t : FieldType} {i : Instr} {rest : List Value} (hret : meth.sig.returnType = some t) (hn : narrow t w = w)
    (hi : (i = .ireturn ∧ (t = .int ∨ t = .boolean ∨ t = .byte ∨ t = .char ∨ t = .short) ∧ ∃ z, w = .int z) ∨ (i = .lreturn ∧ t = .long ∧ ∃ z, w = .long z) ∨ (i = .dreturn ∧ t = .double ∧ ∃ z, w = .double z) ∨ (i = .freturn ∧ t = .float ∧ ∃ z, w = .float z) ∨ (i = .areturn ∧ t.isReference = true ∧ w.isRef = true))
    (hd : decode c.code pc = .ok (i, 1)) (hq : Q (some w) T.heap locs) (hc : cells ≤ kc) (hs : slots ≤ ks) : Go p.tables e below (Fine s below Q kc ks) (T.setTop (mkF m pc Ls (w :: rest))) :=
  fin X (fun h => by rw [hret] at h; cases h) hlk hq hc hs fun fs hr => retOut X hx hret hn hi hd hr
theorem endI {Q : Option Value → Heap → List Loc → Prop} {kc ks : Nat} (X : Stand p l e R s m args below meth c T locs cells slots) (hx : p.tables.exec = Jvm.exec) (hlk : meth.locks = false) {pc : Nat} {Ls : Array Slot} {z : Int32} {rest : List Value} (hret : meth.sig.returnType = some .int)
    (hd : decode c.code pc = .ok (.ireturn, 1)) (hq : Q (some (.int z)) T.heap locs) (hc : cells ≤ kc) (hs : slots ≤ ks) : Go p.tables e below (Fine s below Q kc ks) (T.setTop (mkF m pc Ls (.int z :: rest))) :=
  endW X hx hlk hret rfl (Or.inl ⟨rfl, Or.inl rfl, z, rfl⟩) hd hq hc hs
theorem endJ {Q : Option Value → Heap → List Loc → Prop} {kc ks : Nat} (X : Stand p l e R s m args below meth c T locs cells slots) (hx : p.tables.exec = Jvm.exec) (hlk : meth.locks = false) {pc : Nat} {Ls : Array Slot} {z : Int64} {rest : List Value} (hret : meth.sig.returnType = some .long)
    (hd : decode c.code pc = .ok (.lreturn, 1)) (hq : Q (some (.long z)) T.heap locs) (hc : cells ≤ kc) (hs : slots ≤ ks) : Go p.tables e below (Fine s below Q kc ks) (T.setTop (mkF m pc Ls (.long z :: rest))) :=
  endW X hx hlk hret rfl (Or.inr (Or.inl ⟨rfl, rfl, z, rfl⟩)) hd hq hc hs
theorem endD {Q : Option Value → Heap → List Loc → Prop} {kc ks : Nat} (X : Stand p l e R s m args below meth c T locs cells slots) (hx : p.tables.exec = Jvm.exec) (hlk : meth.locks = false) {pc : Nat} {Ls : Array Slot} {z : UInt64} {rest : List Value} (hret : meth.sig.returnType = some .double)
    (hd : decode c.code pc = .ok (.dreturn, 1)) (hq : Q (some (.double z)) T.heap locs) (hc : cells ≤ kc) (hs : slots ≤ ks) : Go p.tables e below (Fine s below Q kc ks) (T.setTop (mkF m pc Ls (.double z :: rest))) :=
  endW X hx hlk hret rfl (Or.inr (Or.inr (Or.inl ⟨rfl, rfl, z, rfl⟩))) hd hq hc hs
theorem endR {Q : Option Value → Heap → List Loc → Prop} {kc ks : Nat} (X : Stand p l e R s m args below meth c T locs cells slots) (hx : p.tables.exec = Jvm.exec) (hlk : meth.locks = false) {pc : Nat} {Ls : Array Slot} {w : Value} {t : FieldType} {rest : List Value} (hret : meth.sig.returnType = some t) (ht : t.isReference = true) (hw : w.isRef = true)
    (hd : decode c.code pc = .ok (.areturn, 1)) (hq : Q (some w) T.heap locs) (hc : cells ≤ kc) (hs : slots ≤ ks) : Go p.tables e below (Fine s below Q kc ks) (T.setTop (mkF m pc Ls (w :: rest))) :=
  endW X hx hlk hret (by cases w <;> first | rfl | (cases t <;> first | rfl | cases ht) | cases hw) (Or.inr (Or.inr (Or.inr (Or.inr ⟨rfl, ht, hw⟩)))) hd hq hc hs
/-- return of a boolean, byte, char or short: narrowed -/
theorem endN {Q : Option Value → Heap → List Loc → Prop} {kc ks : Nat} (X : Stand p l e R s m args below meth c T locs cells slots) (hx : p.tables.exec = Jvm.exec) (hlk : meth.locks = false) {pc : Nat} {Ls : Array Slot} {z w : Int32} {t : FieldType} {rest : List Value} (hret : meth.sig.returnType = some t) (ht : t = .boolean ∨ t = .byte ∨ t = .char ∨ t = .short)
    (hd : decode c.code pc = .ok (.ireturn, 1)) (hz : nar t z = w) (hq : Q (some (.int w)) T.heap locs) (hc : cells ≤ kc) (hs : slots ≤ ks) : Go p.tables e below (Fine s below Q kc ks) (T.setTop (mkF m pc Ls (.int z :: rest))) := by
  subst hz
  exact fin X (fun h => by rw [hret] at h; cases h) hlk hq hc hs fun fs hr => retN X hx hret ht hd hr
theorem endV {Q : Option Value → Heap → List Loc → Prop} {kc ks : Nat} (X : Stand p l e R s m args below meth c T locs cells slots) (hx : p.tables.exec = Jvm.exec) (hlk : meth.locks = false) {pc : Nat} {Ls : Array Slot} (hret : meth.sig.returnType = none)
    (hd : decode c.code pc = .ok (.return_, 1)) (hq : Q none T.heap locs) (hc : cells ≤ kc) (hs : slots ≤ ks) : Go p.tables e below (Fine s below Q kc ks) (T.setTop (mkF m pc Ls [])) :=
  fin X (fun _ => rfl) hlk hq hc hs fun fs hr => X.returnOut hx hret hd hr
theorem lremM {g : JFrame} {target : State} (X : Stand p l e R s m args below meth c T locs cells slots) (hx : p.tables.exec = Jvm.exec) (hg : g.method = m) {x y : Int64} {rest : List Value} (hd : decode c.code g.pc = .ok (.lrem, 1)) (hs : g.stack = .long y :: .long x :: rest) (hy : y ≠ 0)
    (hr : Steps p.tables e below (T.setTop { g with pc := g.pc + 1, stack := .long (x % y) :: rest }) target) : Steps p.tables e below (T.setTop g) target := by
  have q : x - x / y * y = x % y := lrem_mod x y
  exact XS.lrem X.here hx hg hd hs hy (by rw [q]; exact hr)
/-- a static call by its contract -/
theorem callSt (X : Stand p l e R s m args below meth c T locs cells slots) (hx : p.tables.exec = Jvm.exec) (hZ : Z.Warmed39 s.vm) {own : String} {index : Nat} {y : MethodName} {bytes : ByteArray} {maxL : Nat} {ret : Option FieldType} {rm : Room} {Q : Option Value → Heap → List Loc → Prop} {argsL rest : List Value}
    (hown : s.vm.findClass own = some m.cls) (w1 : (Cond.methodLink own index y).before a0 Z = true) (w2 : (Cond.static y).before a0 Z = true) (w3 : (Cond.initialized y.cls).before a0 Z = true) (w4 : (Cond.code y bytes maxL ret).before a0 Z = true) (hy : y.cls ≠ "java/lang/invoke/MethodHandle" ∧ y.cls ≠ "java/lang/invoke/VarHandle")
    (hM : Con l Z y bytes maxL ret [] rm argsL.toArray h Q) (eT : T.heap = h) (W : Nat) (hf : rm.frames + 1 ≤ R.frames) (hl : W + (maxL + 11) + rm.locals ≤ R.locals) (hcc : cells + rm.cells ≤ R.cells) (hss : slots + rm.slots ≤ R.slots)
    {g : JFrame} (hg : g.method = m) (hsize : g.locals.size = c.maxLocals) (hlen : ∀ sig, parseMethodDescriptor y.desc = some sig → argsL.length = sig.parameters.length)
    (hstack : g.stack = argsL.reverse ++ rest) (hW : 2 * g.monitorRoom + (rest.map fun v => v.category).sum ≤ W) (hd : decode c.code g.pc = .ok (.invokestatic index, 3)) :
    ∃ v T' L, Stand p l e R s m args below meth c T' (locs ++ L) (cells + rm.cells) (slots + rm.slots) ∧ Q v T'.heap L ∧ ∀ target, Steps p.tables e below (T'.setTop { g with pc := g.pc + 3, stack := v.toList ++ rest }) target → Steps p.tables e below (T.setTop g) target := by
  obtain ⟨v, vm1, ⟨T', L', k', n'⟩, -, X', ⟨L, hQ, l1, l2, l3⟩, st⟩ := Jvm.LawKit.callS X hx hown (mvT hZ w1) (mvT hZ w2) (mvT hZ w3) (mvT hZ w4) hy (backOf (Q := Q) (W := W) hM hZ w4 w3 hf hl) hg hsize hlen hstack hW hd (fun _ _ => ⟨rfl, eT, hcc, hss⟩)
  (try dsimp only at X' l1 l2 l3 st hQ)
  subst l1 l2 l3
  exact ⟨v, T', L, X', hQ, st⟩
/-- a constructor by its contract -/
theorem callIn (X : Stand p l e R s m args below meth c T locs cells slots) (hx : p.tables.exec = Jvm.exec) (hZ : Z.Warmed39 s.vm) {own : String} {index : Nat} {y : MethodName} {bytes : ByteArray} {maxL : Nat} {rm : Room} {Q : Option Value → Heap → List Loc → Prop} {a : Addr} {argsL rest : List Value} (hy1 : y.name = "<init>")
    (hown : s.vm.findClass own = some m.cls) (w1 : (Cond.methodLink own index y).before a0 Z = true) (w2 : (Cond.instanceMethod y).before a0 Z = true) (w3 : (Cond.initialized y.cls).before a0 Z = true) (w4 : (Cond.code y bytes maxL none).before a0 Z = true) (hy : y.cls ≠ "java/lang/invoke/MethodHandle" ∧ y.cls ≠ "java/lang/invoke/VarHandle")
    (hM : Con l Z y bytes maxL none [] rm (.ref a :: argsL).toArray h Q) (eT : T.heap = h) (W : Nat) (hf : rm.frames + 1 ≤ R.frames) (hl : W + (maxL + 11) + rm.locals ≤ R.locals) (hcc : cells + rm.cells ≤ R.cells) (hss : slots + rm.slots ≤ R.slots)
    {g : JFrame} (hg : g.method = m) (hsize : g.locals.size = c.maxLocals) (hlen : ∀ sig, parseMethodDescriptor y.desc = some sig → argsL.length = sig.parameters.length)
    (hstack : g.stack = argsL.reverse ++ .ref a :: rest) (hW : 2 * g.monitorRoom + (rest.map fun v => v.category).sum ≤ W) (hd : decode c.code g.pc = .ok (.invokespecial index, 3)) :
    ∃ v T' L, Stand p l e R s m args below meth c T' (locs ++ L) (cells + rm.cells) (slots + rm.slots) ∧ Q v T'.heap L ∧ ∀ target, Steps p.tables e below (T'.setTop { g with pc := g.pc + 3, stack := v.toList ++ rest }) target → Steps p.tables e below (T.setTop g) target := by
  obtain ⟨v, vm1, ⟨T', L', k', n'⟩, -, X', ⟨L, hQ, l1, l2, l3⟩, st⟩ := X.specialBack hx hy1 hown (mvT hZ w1) (mvT hZ w2) (mvT hZ w4) hy (backOf (Q := Q) (W := W) hM hZ w4 w3 hf hl) hg hsize (Steps.refl _) hlen hstack hW hd (fun _ _ => ⟨rfl, eT, hcc, hss⟩)
  (try dsimp only at X' l1 l2 l3 st hQ)
  subst l1 l2 l3
  exact ⟨v, T', L, X', hQ, fun target k => st.trans k⟩
/-- an instance method by the contract of the body that the receiver's class selects -/
theorem callVi (X : Stand p l e R s m args below meth c T locs cells slots) (hx : p.tables.exec = Jvm.exec) (hZ : Z.Warmed39 s.vm) {own C : String} {index : Nat} {y z : MethodName} {bytes : ByteArray} {maxL : Nat} {ret : Option FieldType} {rm : Room} {Q : Option Value → Heap → List Loc → Prop} {a : Addr} {argsL rest : List Value}
    (hown : s.vm.findClass own = some m.cls) (w1 : (Cond.methodLink own index y).before a0 Z = true) (w2 : (Cond.declares y).before a0 Z = true) (nf : NotFace s y) (w3 : (Cond.selects C y z).before a0 Z = true) (w4 : (Cond.instanceMethod z).before a0 Z = true) (w5 : (Cond.initialized z.cls).before a0 Z = true) (w6 : (Cond.code z bytes maxL ret).before a0 Z = true) (hy : y.cls ≠ "java/lang/invoke/MethodHandle" ∧ y.cls ≠ "java/lang/invoke/VarHandle")
    (hyz : z.desc = y.desc) (E : Exa Z h a C) (hM : Con l Z z bytes maxL ret [] rm (.ref a :: argsL).toArray h Q) (eT : T.heap = h) (W : Nat) (hf : rm.frames + 1 ≤ R.frames) (hl : W + (maxL + 11) + rm.locals ≤ R.locals) (hcc : cells + rm.cells ≤ R.cells) (hss : slots + rm.slots ≤ R.slots)
    {g : JFrame} (hg : g.method = m) (hsize : g.locals.size = c.maxLocals) (hlen : ∀ sig, parseMethodDescriptor y.desc = some sig → argsL.length = sig.parameters.length)
    (hstack : g.stack = argsL.reverse ++ .ref a :: rest) (hW : 2 * g.monitorRoom + (rest.map fun v => v.category).sum ≤ W) (hd : decode c.code g.pc = .ok (.invokevirtual index, 3)) :
    ∃ v T' L, Stand p l e R s m args below meth c T' (locs ++ L) (cells + rm.cells) (slots + rm.slots) ∧ Q v T'.heap L ∧ ∀ target, Steps p.tables e below (T'.setTop { g with pc := g.pc + 3, stack := v.toList ++ rest }) target → Steps p.tables e below (T.setTop g) target := by
  obtain ⟨cq, kq, qa, qb, qc⟩ := isOf hZ eT E
  obtain ⟨v, vm1, ⟨T', L', k', n'⟩, -, X', ⟨L, hQ, l1, l2, l3⟩, st⟩ := X.virtualBack hx (y := y) (z := z) hown (mvT hZ w1) (mvT hZ w2) nf (mvT hZ w3) (mvT hZ w4) hy (backOf (Q := Q) (W := W) hM hZ w6 w5 hf hl) qa qc hg hsize (Steps.refl _) hlen hstack hW hd (fun _ _ => ⟨rfl, eT, hcc, hss⟩)
  (try dsimp only at X' l1 l2 l3 st hQ)
  subst l1 l2 l3
  exact ⟨v, T', L, X', hQ, fun target k => st.trans k⟩
/-- an array whose k-th element is f k -/
def Afn (Z : State) (h : Heap) (a : Addr) (ty : FieldType) (n : Int32) (f : Nat → Value) : Prop := ∃ c : Cell, Arr Z h a c ty ∧ c.slots.size = n.toNatClampNeg ∧ ¬ n < 0 ∧ ∀ k, k < n.toNatClampNeg → c.slots[k]? = some (f k) ∧ fits ty (f k) = true
theorem Afn.lt {h : Heap} {a : Addr} {ty : FieldType} {n : Int32} {f : Nat → Value} (F : Afn Z h a ty n f) : a < h.size := by obtain ⟨c, A, -⟩ := F; exact A.lt
theorem Afn.nn {h : Heap} {a : Addr} {ty : FieldType} {n : Int32} {f : Nat → Value} (F : Afn Z h a ty n f) : ¬ n < 0 := by obtain ⟨c, -, -, q, -⟩ := F; exact q
theorem Afn.ext {h h' : Heap} {a : Addr} {ty : FieldType} {n : Int32} {f : Nat → Value} (F : Afn Z h a ty n f) (E : Ext h h') : Afn Z h' a ty n f := by obtain ⟨c, A, r⟩ := F; exact ⟨c, A.ext E, r⟩
theorem Afn.other {h h' : Heap} {a b : Addr} {ty : FieldType} {n : Int32} {f : Nat → Value} {sl : Nat} {v : Value} (F : Afn Z h b ty n f) (W : Wr h h' a sl v) (q : b ≠ a) : Afn Z h' b ty n f := by obtain ⟨c, A, r⟩ := F; exact ⟨c, A.other W q, r⟩
theorem Afn.keep {h h' : Heap} {a : Addr} {ty : FieldType} {n : Int32} {f : Nat → Value} {ws : List Addr} (F : Afn Z h a ty n f) (K : Keep h h' ws) (q : a ∉ ws) : Afn Z h' a ty n f := by obtain ⟨c, A, r⟩ := F; exact ⟨c, ⟨K.2.1 a c A.1 q, A.2⟩, r⟩
theorem Afn.congr {h : Heap} {a : Addr} {ty : FieldType} {n : Int32} {f g : Nat → Value} (F : Afn Z h a ty n f) (q : ∀ k, k < n.toNatClampNeg → f k = g k) : Afn Z h a ty n g := by
  obtain ⟨c, A, s, m, r⟩ := F
  exact ⟨c, A, s, m, fun k hk => by rw [← q k hk]; exact r k hk⟩
theorem Afn.new {h : Heap} {a : Addr} {ty : FieldType} {n : Int32} {k : ClassId} (A : Arr Z h a (newA k ty n) ty) (q : ¬ n < 0) : Afn Z h a ty n (fun _ => defaultValue ty) := by
  obtain ⟨c, B, -, s, m, H, G⟩ := Arv.new A q
  exact ⟨c, B, s, m, fun j hj => ⟨by simpa using H j (by rw [s]; exact hj), by simpa using G j (by rw [s]; exact hj)⟩⟩
theorem Afn.set {h h' : Heap} {a : Addr} {ty : FieldType} {n : Int32} {f : Nat → Value} {c : Cell} {j : Int32} {v : Value} (A : Arr Z h a c ty) (s : c.slots.size = n.toNatClampNeg) (m : ¬ n < 0) (r : ∀ k, k < n.toNatClampNeg → c.slots[k]? = some (f k) ∧ fits ty (f k) = true) (hv : fits ty v = true) (W : Wr h h' a j.toNatClampNeg v) :
    Afn Z h' a ty n (fun k => if k = j.toNatClampNeg then v else f k) := by
  refine ⟨c.setSlot j.toNatClampNeg v, A.same W, by rw [sz_set]; exact s, m, fun k hk => ?_⟩
  dsimp only
  by_cases q : k = j.toNatClampNeg
  · rw [if_pos q]
    refine ⟨?_, hv⟩
    subst q
    simp [Cell.setSlot, s, hk]
  · rw [if_neg q]
    refine ⟨?_, (r k hk).2⟩
    show (c.slots.setIfInBounds _ _)[k]? = _
    rw [Array.getElem?_setIfInBounds_ne (Ne.symm q)]
    exact (r k hk).1
theorem inbN {n j : Int32} (q : ¬ j < 0 ∧ j < n) : j.toNatClampNeg < n.toNatClampNeg := by
  obtain ⟨h1, h2⟩ := q
  rw [Int32.lt_iff_toInt_lt] at h1 h2
  have e : (0 : Int32).toInt = 0 := rfl
  simp only [Int32.toNatClampNeg]
  omega
theorem Afn.of_arv {h : Heap} {a : Addr} {k : ClassId} {ty : FieldType} {n : Int32} {vs : List Value} {d : Value} (F : Arv Z h a k ty n vs d) : Afn Z h a ty n (fun i => vs.getD i d) := by
  obtain ⟨c, A, -, s, m, H, G⟩ := F
  exact ⟨c, A, s, m, fun i hi => ⟨H i (by rw [s]; exact hi), G i (by rw [s]; exact hi)⟩⟩
theorem ns_root {O K : String} {n : Nat} (w : (Cond.noSuperclass O).before a0 Z = true) (wk : (Cond.instantiable K n).before a0 Z = true) (hn : O ≠ K) : NS Z O K := by
  obtain ⟨c, k, h1, h2, h3, -, -⟩ := Cond.noSuperclass_spec w
  obtain ⟨t, kt, g1, -⟩ := Cond.instantiable_spec wk
  have ne := ids_ne h1 g1 hn
  refine ⟨c, t, h1, g1, fun fuel => ?_⟩
  cases fuel with
  | zero => rfl
  | succ f => simp [Vm.isSubclassAux, ne, h2, h3]
theorem ns_no {C S K : String} {n : Nat} (w : (Cond.superclass C S).before a0 Z = true) (wk : (Cond.instantiable K n).before a0 Z = true) (q : NS Z C K) (hn : C ≠ K) : ∃ c t, Z.vm.findClass C = some c ∧ Z.vm.findClass K = some t ∧ Z.vm.assignable c t = false := by
  obtain ⟨c, t, h0, g0, n3⟩ := q
  obtain ⟨p, k, kp, h1, h2, h3, h4, h5, -, h7⟩ := Cond.superclass_spec h0 w
  obtain ⟨t', kt, g1, g2, g3, g4, -⟩ := Cond.instantiable_spec wk
  cases g0.symm.trans g1
  have g5 : kt.isInterface = false := (Bool.or_eq_false_iff.mp g4).1
  have ne := ids_ne h0 g0 hn
  refine ⟨c, t, h0, g0, ?_⟩
  show Z.vm.assignableAux (255 + 1) c t = false
  simp [Vm.assignableAux, ne, h2, g2, h5, g3, g5, Vm.isSubclass, n3]
end
end Jvm.OwnKit
namespace Jvm.Pilot.@@N@@
open Jvm Jvm.ClassFile Sem Op Lib Jvm.Free Jvm.Stand Jvm.LawKit Jvm.RoadKit Jvm.OwnKit Bundle Jvm.Pilot.@@N@@.Jvm.D
def KS (Z : State) (h : Heap) (K : Nat → Addr) : Prop := (Sta Z h "com/example/llave/llave/model/CqlType$Kind" "TEXT" "Lcom/example/llave/llave/model/CqlType$Kind;" (.ref (K 0)) ∧ Exa Z h (K 0) "com/example/llave/llave/model/CqlType$Kind$1" ∧ Fld Z h (K 0) "com/example/llave/llave/model/CqlType$Kind" "quotedLiteral" "Z" (.int (1 : Int32))) ∧ (Sta Z h "com/example/llave/llave/model/CqlType$Kind" "ASCII" "Lcom/example/llave/llave/model/CqlType$Kind;" (.ref (K 1)) ∧ Exa Z h (K 1) "com/example/llave/llave/model/CqlType$Kind$2" ∧ Fld Z h (K 1) "com/example/llave/llave/model/CqlType$Kind" "quotedLiteral" "Z" (.int (1 : Int32))) ∧ (Sta Z h "com/example/llave/llave/model/CqlType$Kind" "TINYINT" "Lcom/example/llave/llave/model/CqlType$Kind;" (.ref (K 2)) ∧ Exa Z h (K 2) "com/example/llave/llave/model/CqlType$Kind$3" ∧ Fld Z h (K 2) "com/example/llave/llave/model/CqlType$Kind" "quotedLiteral" "Z" (.int (0 : Int32))) ∧ (Sta Z h "com/example/llave/llave/model/CqlType$Kind" "SMALLINT" "Lcom/example/llave/llave/model/CqlType$Kind;" (.ref (K 3)) ∧ Exa Z h (K 3) "com/example/llave/llave/model/CqlType$Kind$4" ∧ Fld Z h (K 3) "com/example/llave/llave/model/CqlType$Kind" "quotedLiteral" "Z" (.int (0 : Int32))) ∧ (Sta Z h "com/example/llave/llave/model/CqlType$Kind" "INT" "Lcom/example/llave/llave/model/CqlType$Kind;" (.ref (K 4)) ∧ Exa Z h (K 4) "com/example/llave/llave/model/CqlType$Kind$5" ∧ Fld Z h (K 4) "com/example/llave/llave/model/CqlType$Kind" "quotedLiteral" "Z" (.int (0 : Int32))) ∧ (Sta Z h "com/example/llave/llave/model/CqlType$Kind" "BIGINT" "Lcom/example/llave/llave/model/CqlType$Kind;" (.ref (K 5)) ∧ Exa Z h (K 5) "com/example/llave/llave/model/CqlType$Kind$6" ∧ Fld Z h (K 5) "com/example/llave/llave/model/CqlType$Kind" "quotedLiteral" "Z" (.int (0 : Int32))) ∧ (Sta Z h "com/example/llave/llave/model/CqlType$Kind" "VARINT" "Lcom/example/llave/llave/model/CqlType$Kind;" (.ref (K 6)) ∧ Exa Z h (K 6) "com/example/llave/llave/model/CqlType$Kind$7" ∧ Fld Z h (K 6) "com/example/llave/llave/model/CqlType$Kind" "quotedLiteral" "Z" (.int (0 : Int32))) ∧ (Sta Z h "com/example/llave/llave/model/CqlType$Kind" "DECIMAL" "Lcom/example/llave/llave/model/CqlType$Kind;" (.ref (K 7)) ∧ Exa Z h (K 7) "com/example/llave/llave/model/CqlType$Kind$8" ∧ Fld Z h (K 7) "com/example/llave/llave/model/CqlType$Kind" "quotedLiteral" "Z" (.int (0 : Int32))) ∧ (Sta Z h "com/example/llave/llave/model/CqlType$Kind" "FLOAT" "Lcom/example/llave/llave/model/CqlType$Kind;" (.ref (K 8)) ∧ Exa Z h (K 8) "com/example/llave/llave/model/CqlType$Kind$9" ∧ Fld Z h (K 8) "com/example/llave/llave/model/CqlType$Kind" "quotedLiteral" "Z" (.int (0 : Int32))) ∧ (Sta Z h "com/example/llave/llave/model/CqlType$Kind" "DOUBLE" "Lcom/example/llave/llave/model/CqlType$Kind;" (.ref (K 9)) ∧ Exa Z h (K 9) "com/example/llave/llave/model/CqlType$Kind$10" ∧ Fld Z h (K 9) "com/example/llave/llave/model/CqlType$Kind" "quotedLiteral" "Z" (.int (0 : Int32))) ∧ (Sta Z h "com/example/llave/llave/model/CqlType$Kind" "BOOLEAN" "Lcom/example/llave/llave/model/CqlType$Kind;" (.ref (K 10)) ∧ Exa Z h (K 10) "com/example/llave/llave/model/CqlType$Kind$11" ∧ Fld Z h (K 10) "com/example/llave/llave/model/CqlType$Kind" "quotedLiteral" "Z" (.int (0 : Int32))) ∧ (Sta Z h "com/example/llave/llave/model/CqlType$Kind" "UUID" "Lcom/example/llave/llave/model/CqlType$Kind;" (.ref (K 11)) ∧ Exa Z h (K 11) "com/example/llave/llave/model/CqlType$Kind$12" ∧ Fld Z h (K 11) "com/example/llave/llave/model/CqlType$Kind" "quotedLiteral" "Z" (.int (0 : Int32))) ∧ (Sta Z h "com/example/llave/llave/model/CqlType$Kind" "TIMEUUID" "Lcom/example/llave/llave/model/CqlType$Kind;" (.ref (K 12)) ∧ Exa Z h (K 12) "com/example/llave/llave/model/CqlType$Kind$13" ∧ Fld Z h (K 12) "com/example/llave/llave/model/CqlType$Kind" "quotedLiteral" "Z" (.int (0 : Int32))) ∧ (Sta Z h "com/example/llave/llave/model/CqlType$Kind" "INET" "Lcom/example/llave/llave/model/CqlType$Kind;" (.ref (K 13)) ∧ Exa Z h (K 13) "com/example/llave/llave/model/CqlType$Kind$14" ∧ Fld Z h (K 13) "com/example/llave/llave/model/CqlType$Kind" "quotedLiteral" "Z" (.int (1 : Int32))) ∧ (Sta Z h "com/example/llave/llave/model/CqlType$Kind" "BLOB" "Lcom/example/llave/llave/model/CqlType$Kind;" (.ref (K 14)) ∧ Exa Z h (K 14) "com/example/llave/llave/model/CqlType$Kind$15" ∧ Fld Z h (K 14) "com/example/llave/llave/model/CqlType$Kind" "quotedLiteral" "Z" (.int (0 : Int32))) ∧ (Sta Z h "com/example/llave/llave/model/CqlType$Kind" "TIMESTAMP" "Lcom/example/llave/llave/model/CqlType$Kind;" (.ref (K 15)) ∧ Exa Z h (K 15) "com/example/llave/llave/model/CqlType$Kind$16" ∧ Fld Z h (K 15) "com/example/llave/llave/model/CqlType$Kind" "quotedLiteral" "Z" (.int (1 : Int32))) ∧ (Sta Z h "com/example/llave/llave/model/CqlType$Kind" "DATE" "Lcom/example/llave/llave/model/CqlType$Kind;" (.ref (K 16)) ∧ Exa Z h (K 16) "com/example/llave/llave/model/CqlType$Kind$17" ∧ Fld Z h (K 16) "com/example/llave/llave/model/CqlType$Kind" "quotedLiteral" "Z" (.int (1 : Int32))) ∧ (Sta Z h "com/example/llave/llave/model/CqlType$Kind" "TIME" "Lcom/example/llave/llave/model/CqlType$Kind;" (.ref (K 17)) ∧ Exa Z h (K 17) "com/example/llave/llave/model/CqlType$Kind$18" ∧ Fld Z h (K 17) "com/example/llave/llave/model/CqlType$Kind" "quotedLiteral" "Z" (.int (1 : Int32))) ∧ (Sta Z h "com/example/llave/llave/model/CqlType$Kind" "LIST" "Lcom/example/llave/llave/model/CqlType$Kind;" (.ref (K 18)) ∧ Exa Z h (K 18) "com/example/llave/llave/model/CqlType$Kind$19" ∧ Fld Z h (K 18) "com/example/llave/llave/model/CqlType$Kind" "quotedLiteral" "Z" (.int (0 : Int32))) ∧ (Sta Z h "com/example/llave/llave/model/CqlType$Kind" "SET" "Lcom/example/llave/llave/model/CqlType$Kind;" (.ref (K 19)) ∧ Exa Z h (K 19) "com/example/llave/llave/model/CqlType$Kind$20" ∧ Fld Z h (K 19) "com/example/llave/llave/model/CqlType$Kind" "quotedLiteral" "Z" (.int (0 : Int32))) ∧ (Sta Z h "com/example/llave/llave/model/CqlType$Kind" "MAP" "Lcom/example/llave/llave/model/CqlType$Kind;" (.ref (K 20)) ∧ Exa Z h (K 20) "com/example/llave/llave/model/CqlType$Kind$21" ∧ Fld Z h (K 20) "com/example/llave/llave/model/CqlType$Kind" "quotedLiteral" "Z" (.int (0 : Int32))) ∧ (Sta Z h "com/example/llave/llave/model/CqlType$Kind" "USER" "Lcom/example/llave/llave/model/CqlType$Kind;" (.ref (K 21)) ∧ Exa Z h (K 21) "com/example/llave/llave/model/CqlType$Kind$22" ∧ Fld Z h (K 21) "com/example/llave/llave/model/CqlType$Kind" "quotedLiteral" "Z" (.int (0 : Int32)))
theorem ks_0 {Z : State} {h : Heap} {K : Nat → Addr} (q : KS Z h K) : Sta Z h "com/example/llave/llave/model/CqlType$Kind" "TEXT" "Lcom/example/llave/llave/model/CqlType$Kind;" (.ref (K 0)) ∧ Exa Z h (K 0) "com/example/llave/llave/model/CqlType$Kind$1" ∧ Fld Z h (K 0) "com/example/llave/llave/model/CqlType$Kind" "quotedLiteral" "Z" (.int (1 : Int32)) := q.1
theorem ks_1 {Z : State} {h : Heap} {K : Nat → Addr} (q : KS Z h K) : Sta Z h "com/example/llave/llave/model/CqlType$Kind" "ASCII" "Lcom/example/llave/llave/model/CqlType$Kind;" (.ref (K 1)) ∧ Exa Z h (K 1) "com/example/llave/llave/model/CqlType$Kind$2" ∧ Fld Z h (K 1) "com/example/llave/llave/model/CqlType$Kind" "quotedLiteral" "Z" (.int (1 : Int32)) := q.2.1
theorem ks_2 {Z : State} {h : Heap} {K : Nat → Addr} (q : KS Z h K) : Sta Z h "com/example/llave/llave/model/CqlType$Kind" "TINYINT" "Lcom/example/llave/llave/model/CqlType$Kind;" (.ref (K 2)) ∧ Exa Z h (K 2) "com/example/llave/llave/model/CqlType$Kind$3" ∧ Fld Z h (K 2) "com/example/llave/llave/model/CqlType$Kind" "quotedLiteral" "Z" (.int (0 : Int32)) := q.2.2.1
theorem ks_3 {Z : State} {h : Heap} {K : Nat → Addr} (q : KS Z h K) : Sta Z h "com/example/llave/llave/model/CqlType$Kind" "SMALLINT" "Lcom/example/llave/llave/model/CqlType$Kind;" (.ref (K 3)) ∧ Exa Z h (K 3) "com/example/llave/llave/model/CqlType$Kind$4" ∧ Fld Z h (K 3) "com/example/llave/llave/model/CqlType$Kind" "quotedLiteral" "Z" (.int (0 : Int32)) := q.2.2.2.1
theorem ks_4 {Z : State} {h : Heap} {K : Nat → Addr} (q : KS Z h K) : Sta Z h "com/example/llave/llave/model/CqlType$Kind" "INT" "Lcom/example/llave/llave/model/CqlType$Kind;" (.ref (K 4)) ∧ Exa Z h (K 4) "com/example/llave/llave/model/CqlType$Kind$5" ∧ Fld Z h (K 4) "com/example/llave/llave/model/CqlType$Kind" "quotedLiteral" "Z" (.int (0 : Int32)) := q.2.2.2.2.1
theorem ks_5 {Z : State} {h : Heap} {K : Nat → Addr} (q : KS Z h K) : Sta Z h "com/example/llave/llave/model/CqlType$Kind" "BIGINT" "Lcom/example/llave/llave/model/CqlType$Kind;" (.ref (K 5)) ∧ Exa Z h (K 5) "com/example/llave/llave/model/CqlType$Kind$6" ∧ Fld Z h (K 5) "com/example/llave/llave/model/CqlType$Kind" "quotedLiteral" "Z" (.int (0 : Int32)) := q.2.2.2.2.2.1
theorem ks_6 {Z : State} {h : Heap} {K : Nat → Addr} (q : KS Z h K) : Sta Z h "com/example/llave/llave/model/CqlType$Kind" "VARINT" "Lcom/example/llave/llave/model/CqlType$Kind;" (.ref (K 6)) ∧ Exa Z h (K 6) "com/example/llave/llave/model/CqlType$Kind$7" ∧ Fld Z h (K 6) "com/example/llave/llave/model/CqlType$Kind" "quotedLiteral" "Z" (.int (0 : Int32)) := q.2.2.2.2.2.2.1
theorem ks_7 {Z : State} {h : Heap} {K : Nat → Addr} (q : KS Z h K) : Sta Z h "com/example/llave/llave/model/CqlType$Kind" "DECIMAL" "Lcom/example/llave/llave/model/CqlType$Kind;" (.ref (K 7)) ∧ Exa Z h (K 7) "com/example/llave/llave/model/CqlType$Kind$8" ∧ Fld Z h (K 7) "com/example/llave/llave/model/CqlType$Kind" "quotedLiteral" "Z" (.int (0 : Int32)) := q.2.2.2.2.2.2.2.1
theorem ks_8 {Z : State} {h : Heap} {K : Nat → Addr} (q : KS Z h K) : Sta Z h "com/example/llave/llave/model/CqlType$Kind" "FLOAT" "Lcom/example/llave/llave/model/CqlType$Kind;" (.ref (K 8)) ∧ Exa Z h (K 8) "com/example/llave/llave/model/CqlType$Kind$9" ∧ Fld Z h (K 8) "com/example/llave/llave/model/CqlType$Kind" "quotedLiteral" "Z" (.int (0 : Int32)) := q.2.2.2.2.2.2.2.2.1
theorem ks_9 {Z : State} {h : Heap} {K : Nat → Addr} (q : KS Z h K) : Sta Z h "com/example/llave/llave/model/CqlType$Kind" "DOUBLE" "Lcom/example/llave/llave/model/CqlType$Kind;" (.ref (K 9)) ∧ Exa Z h (K 9) "com/example/llave/llave/model/CqlType$Kind$10" ∧ Fld Z h (K 9) "com/example/llave/llave/model/CqlType$Kind" "quotedLiteral" "Z" (.int (0 : Int32)) := q.2.2.2.2.2.2.2.2.2.1
theorem ks_10 {Z : State} {h : Heap} {K : Nat → Addr} (q : KS Z h K) : Sta Z h "com/example/llave/llave/model/CqlType$Kind" "BOOLEAN" "Lcom/example/llave/llave/model/CqlType$Kind;" (.ref (K 10)) ∧ Exa Z h (K 10) "com/example/llave/llave/model/CqlType$Kind$11" ∧ Fld Z h (K 10) "com/example/llave/llave/model/CqlType$Kind" "quotedLiteral" "Z" (.int (0 : Int32)) := q.2.2.2.2.2.2.2.2.2.2.1
theorem ks_11 {Z : State} {h : Heap} {K : Nat → Addr} (q : KS Z h K) : Sta Z h "com/example/llave/llave/model/CqlType$Kind" "UUID" "Lcom/example/llave/llave/model/CqlType$Kind;" (.ref (K 11)) ∧ Exa Z h (K 11) "com/example/llave/llave/model/CqlType$Kind$12" ∧ Fld Z h (K 11) "com/example/llave/llave/model/CqlType$Kind" "quotedLiteral" "Z" (.int (0 : Int32)) := q.2.2.2.2.2.2.2.2.2.2.2.1
theorem ks_12 {Z : State} {h : Heap} {K : Nat → Addr} (q : KS Z h K) : Sta Z h "com/example/llave/llave/model/CqlType$Kind" "TIMEUUID" "Lcom/example/llave/llave/model/CqlType$Kind;" (.ref (K 12)) ∧ Exa Z h (K 12) "com/example/llave/llave/model/CqlType$Kind$13" ∧ Fld Z h (K 12) "com/example/llave/llave/model/CqlType$Kind" "quotedLiteral" "Z" (.int (0 : Int32)) := q.2.2.2.2.2.2.2.2.2.2.2.2.1
theorem ks_13 {Z : State} {h : Heap} {K : Nat → Addr} (q : KS Z h K) : Sta Z h "com/example/llave/llave/model/CqlType$Kind" "INET" "Lcom/example/llave/llave/model/CqlType$Kind;" (.ref (K 13)) ∧ Exa Z h (K 13) "com/example/llave/llave/model/CqlType$Kind$14" ∧ Fld Z h (K 13) "com/example/llave/llave/model/CqlType$Kind" "quotedLiteral" "Z" (.int (1 : Int32)) := q.2.2.2.2.2.2.2.2.2.2.2.2.2.1
theorem ks_14 {Z : State} {h : Heap} {K : Nat → Addr} (q : KS Z h K) : Sta Z h "com/example/llave/llave/model/CqlType$Kind" "BLOB" "Lcom/example/llave/llave/model/CqlType$Kind;" (.ref (K 14)) ∧ Exa Z h (K 14) "com/example/llave/llave/model/CqlType$Kind$15" ∧ Fld Z h (K 14) "com/example/llave/llave/model/CqlType$Kind" "quotedLiteral" "Z" (.int (0 : Int32)) := q.2.2.2.2.2.2.2.2.2.2.2.2.2.2.1
theorem ks_15 {Z : State} {h : Heap} {K : Nat → Addr} (q : KS Z h K) : Sta Z h "com/example/llave/llave/model/CqlType$Kind" "TIMESTAMP" "Lcom/example/llave/llave/model/CqlType$Kind;" (.ref (K 15)) ∧ Exa Z h (K 15) "com/example/llave/llave/model/CqlType$Kind$16" ∧ Fld Z h (K 15) "com/example/llave/llave/model/CqlType$Kind" "quotedLiteral" "Z" (.int (1 : Int32)) := q.2.2.2.2.2.2.2.2.2.2.2.2.2.2.2.1
theorem ks_16 {Z : State} {h : Heap} {K : Nat → Addr} (q : KS Z h K) : Sta Z h "com/example/llave/llave/model/CqlType$Kind" "DATE" "Lcom/example/llave/llave/model/CqlType$Kind;" (.ref (K 16)) ∧ Exa Z h (K 16) "com/example/llave/llave/model/CqlType$Kind$17" ∧ Fld Z h (K 16) "com/example/llave/llave/model/CqlType$Kind" "quotedLiteral" "Z" (.int (1 : Int32)) := q.2.2.2.2.2.2.2.2.2.2.2.2.2.2.2.2.1
theorem ks_17 {Z : State} {h : Heap} {K : Nat → Addr} (q : KS Z h K) : Sta Z h "com/example/llave/llave/model/CqlType$Kind" "TIME" "Lcom/example/llave/llave/model/CqlType$Kind;" (.ref (K 17)) ∧ Exa Z h (K 17) "com/example/llave/llave/model/CqlType$Kind$18" ∧ Fld Z h (K 17) "com/example/llave/llave/model/CqlType$Kind" "quotedLiteral" "Z" (.int (1 : Int32)) := q.2.2.2.2.2.2.2.2.2.2.2.2.2.2.2.2.2.1
theorem ks_18 {Z : State} {h : Heap} {K : Nat → Addr} (q : KS Z h K) : Sta Z h "com/example/llave/llave/model/CqlType$Kind" "LIST" "Lcom/example/llave/llave/model/CqlType$Kind;" (.ref (K 18)) ∧ Exa Z h (K 18) "com/example/llave/llave/model/CqlType$Kind$19" ∧ Fld Z h (K 18) "com/example/llave/llave/model/CqlType$Kind" "quotedLiteral" "Z" (.int (0 : Int32)) := q.2.2.2.2.2.2.2.2.2.2.2.2.2.2.2.2.2.2.1
theorem ks_19 {Z : State} {h : Heap} {K : Nat → Addr} (q : KS Z h K) : Sta Z h "com/example/llave/llave/model/CqlType$Kind" "SET" "Lcom/example/llave/llave/model/CqlType$Kind;" (.ref (K 19)) ∧ Exa Z h (K 19) "com/example/llave/llave/model/CqlType$Kind$20" ∧ Fld Z h (K 19) "com/example/llave/llave/model/CqlType$Kind" "quotedLiteral" "Z" (.int (0 : Int32)) := q.2.2.2.2.2.2.2.2.2.2.2.2.2.2.2.2.2.2.2.1
theorem ks_20 {Z : State} {h : Heap} {K : Nat → Addr} (q : KS Z h K) : Sta Z h "com/example/llave/llave/model/CqlType$Kind" "MAP" "Lcom/example/llave/llave/model/CqlType$Kind;" (.ref (K 20)) ∧ Exa Z h (K 20) "com/example/llave/llave/model/CqlType$Kind$21" ∧ Fld Z h (K 20) "com/example/llave/llave/model/CqlType$Kind" "quotedLiteral" "Z" (.int (0 : Int32)) := q.2.2.2.2.2.2.2.2.2.2.2.2.2.2.2.2.2.2.2.2.1
theorem ks_21 {Z : State} {h : Heap} {K : Nat → Addr} (q : KS Z h K) : Sta Z h "com/example/llave/llave/model/CqlType$Kind" "USER" "Lcom/example/llave/llave/model/CqlType$Kind;" (.ref (K 21)) ∧ Exa Z h (K 21) "com/example/llave/llave/model/CqlType$Kind$22" ∧ Fld Z h (K 21) "com/example/llave/llave/model/CqlType$Kind" "quotedLiteral" "Z" (.int (0 : Int32)) := q.2.2.2.2.2.2.2.2.2.2.2.2.2.2.2.2.2.2.2.2.2
theorem d1_0 : decode method_2_code 0 = .ok (.iload_n 0, 1) := by decide +kernel
theorem d1_1 : decode method_2_code 1 = .ok (.ifCond .ne 7, 3) := by decide +kernel
theorem d1_4 : decode method_2_code 4 = .ok (.getstatic 7, 3) := by decide +kernel
theorem d1_7 : decode method_2_code 7 = .ok (.areturn, 1) := by decide +kernel
theorem d1_8 : decode method_2_code 8 = .ok (.iload_n 0, 1) := by decide +kernel
theorem d1_9 : decode method_2_code 9 = .ok (.iconst 1, 1) := by decide +kernel
theorem d1_10 : decode method_2_code 10 = .ok (.if_icmp .ne 7, 3) := by decide +kernel
theorem d1_13 : decode method_2_code 13 = .ok (.getstatic 13, 3) := by decide +kernel
theorem d1_16 : decode method_2_code 16 = .ok (.areturn, 1) := by decide +kernel
theorem d1_17 : decode method_2_code 17 = .ok (.iload_n 0, 1) := by decide +kernel
theorem d1_18 : decode method_2_code 18 = .ok (.iconst 2, 1) := by decide +kernel
theorem d1_19 : decode method_2_code 19 = .ok (.if_icmp .ne 7, 3) := by decide +kernel
theorem d1_22 : decode method_2_code 22 = .ok (.getstatic 16, 3) := by decide +kernel
theorem d1_25 : decode method_2_code 25 = .ok (.areturn, 1) := by decide +kernel
theorem d1_26 : decode method_2_code 26 = .ok (.iload_n 0, 1) := by decide +kernel
theorem d1_27 : decode method_2_code 27 = .ok (.iconst 3, 1) := by decide +kernel
theorem d1_28 : decode method_2_code 28 = .ok (.if_icmp .ne 7, 3) := by decide +kernel
theorem d1_31 : decode method_2_code 31 = .ok (.getstatic 19, 3) := by decide +kernel
theorem d1_34 : decode method_2_code 34 = .ok (.areturn, 1) := by decide +kernel
theorem d1_35 : decode method_2_code 35 = .ok (.iload_n 0, 1) := by decide +kernel
theorem d1_36 : decode method_2_code 36 = .ok (.iconst 4, 1) := by decide +kernel
theorem d1_37 : decode method_2_code 37 = .ok (.if_icmp .ne 7, 3) := by decide +kernel
theorem d1_40 : decode method_2_code 40 = .ok (.getstatic 22, 3) := by decide +kernel
theorem d1_43 : decode method_2_code 43 = .ok (.areturn, 1) := by decide +kernel
theorem d1_44 : decode method_2_code 44 = .ok (.iload_n 0, 1) := by decide +kernel
theorem d1_45 : decode method_2_code 45 = .ok (.iconst 5, 1) := by decide +kernel
theorem d1_46 : decode method_2_code 46 = .ok (.if_icmp .ne 7, 3) := by decide +kernel
theorem d1_49 : decode method_2_code 49 = .ok (.getstatic 25, 3) := by decide +kernel
theorem d1_52 : decode method_2_code 52 = .ok (.areturn, 1) := by decide +kernel
theorem d1_53 : decode method_2_code 53 = .ok (.iload_n 0, 1) := by decide +kernel
theorem d1_54 : decode method_2_code 54 = .ok (.bipush 6, 2) := by decide +kernel
theorem d1_56 : decode method_2_code 56 = .ok (.if_icmp .ne 7, 3) := by decide +kernel
theorem d1_59 : decode method_2_code 59 = .ok (.getstatic 28, 3) := by decide +kernel
theorem d1_62 : decode method_2_code 62 = .ok (.areturn, 1) := by decide +kernel
theorem d1_63 : decode method_2_code 63 = .ok (.iload_n 0, 1) := by decide +kernel
theorem d1_64 : decode method_2_code 64 = .ok (.bipush 7, 2) := by decide +kernel
theorem d1_66 : decode method_2_code 66 = .ok (.if_icmp .ne 7, 3) := by decide +kernel
theorem d1_69 : decode method_2_code 69 = .ok (.getstatic 31, 3) := by decide +kernel
theorem d1_72 : decode method_2_code 72 = .ok (.areturn, 1) := by decide +kernel
theorem d1_73 : decode method_2_code 73 = .ok (.iload_n 0, 1) := by decide +kernel
theorem d1_74 : decode method_2_code 74 = .ok (.bipush 8, 2) := by decide +kernel
theorem d1_76 : decode method_2_code 76 = .ok (.if_icmp .ne 7, 3) := by decide +kernel
theorem d1_79 : decode method_2_code 79 = .ok (.getstatic 34, 3) := by decide +kernel
theorem d1_82 : decode method_2_code 82 = .ok (.areturn, 1) := by decide +kernel
theorem d1_83 : decode method_2_code 83 = .ok (.iload_n 0, 1) := by decide +kernel
theorem d1_84 : decode method_2_code 84 = .ok (.bipush 9, 2) := by decide +kernel
theorem d1_86 : decode method_2_code 86 = .ok (.if_icmp .ne 7, 3) := by decide +kernel
theorem d1_89 : decode method_2_code 89 = .ok (.getstatic 37, 3) := by decide +kernel
theorem d1_92 : decode method_2_code 92 = .ok (.areturn, 1) := by decide +kernel
theorem d1_93 : decode method_2_code 93 = .ok (.iload_n 0, 1) := by decide +kernel
theorem d1_94 : decode method_2_code 94 = .ok (.bipush 10, 2) := by decide +kernel
theorem d1_96 : decode method_2_code 96 = .ok (.if_icmp .ne 7, 3) := by decide +kernel
theorem d1_99 : decode method_2_code 99 = .ok (.getstatic 40, 3) := by decide +kernel
theorem d1_102 : decode method_2_code 102 = .ok (.areturn, 1) := by decide +kernel
theorem d1_103 : decode method_2_code 103 = .ok (.iload_n 0, 1) := by decide +kernel
theorem d1_104 : decode method_2_code 104 = .ok (.bipush 11, 2) := by decide +kernel
theorem d1_106 : decode method_2_code 106 = .ok (.if_icmp .ne 7, 3) := by decide +kernel
theorem d1_109 : decode method_2_code 109 = .ok (.getstatic 43, 3) := by decide +kernel
theorem d1_112 : decode method_2_code 112 = .ok (.areturn, 1) := by decide +kernel
theorem d1_113 : decode method_2_code 113 = .ok (.iload_n 0, 1) := by decide +kernel
theorem d1_114 : decode method_2_code 114 = .ok (.bipush 12, 2) := by decide +kernel
theorem d1_116 : decode method_2_code 116 = .ok (.if_icmp .ne 7, 3) := by decide +kernel
theorem d1_119 : decode method_2_code 119 = .ok (.getstatic 46, 3) := by decide +kernel
theorem d1_122 : decode method_2_code 122 = .ok (.areturn, 1) := by decide +kernel
theorem d1_123 : decode method_2_code 123 = .ok (.iload_n 0, 1) := by decide +kernel
theorem d1_124 : decode method_2_code 124 = .ok (.bipush 13, 2) := by decide +kernel
theorem d1_126 : decode method_2_code 126 = .ok (.if_icmp .ne 7, 3) := by decide +kernel
theorem d1_129 : decode method_2_code 129 = .ok (.getstatic 49, 3) := by decide +kernel
theorem d1_132 : decode method_2_code 132 = .ok (.areturn, 1) := by decide +kernel
theorem d1_133 : decode method_2_code 133 = .ok (.iload_n 0, 1) := by decide +kernel
theorem d1_134 : decode method_2_code 134 = .ok (.bipush 14, 2) := by decide +kernel
theorem d1_136 : decode method_2_code 136 = .ok (.if_icmp .ne 7, 3) := by decide +kernel
theorem d1_139 : decode method_2_code 139 = .ok (.getstatic 52, 3) := by decide +kernel
theorem d1_142 : decode method_2_code 142 = .ok (.areturn, 1) := by decide +kernel
theorem d1_143 : decode method_2_code 143 = .ok (.iload_n 0, 1) := by decide +kernel
theorem d1_144 : decode method_2_code 144 = .ok (.bipush 15, 2) := by decide +kernel
theorem d1_146 : decode method_2_code 146 = .ok (.if_icmp .ne 7, 3) := by decide +kernel
theorem d1_149 : decode method_2_code 149 = .ok (.getstatic 55, 3) := by decide +kernel
theorem d1_152 : decode method_2_code 152 = .ok (.areturn, 1) := by decide +kernel
theorem d1_153 : decode method_2_code 153 = .ok (.iload_n 0, 1) := by decide +kernel
theorem d1_154 : decode method_2_code 154 = .ok (.bipush 16, 2) := by decide +kernel
theorem d1_156 : decode method_2_code 156 = .ok (.if_icmp .ne 7, 3) := by decide +kernel
theorem d1_159 : decode method_2_code 159 = .ok (.getstatic 58, 3) := by decide +kernel
theorem d1_162 : decode method_2_code 162 = .ok (.areturn, 1) := by decide +kernel
theorem d1_163 : decode method_2_code 163 = .ok (.iload_n 0, 1) := by decide +kernel
theorem d1_164 : decode method_2_code 164 = .ok (.bipush 17, 2) := by decide +kernel
theorem d1_166 : decode method_2_code 166 = .ok (.if_icmp .ne 7, 3) := by decide +kernel
theorem d1_169 : decode method_2_code 169 = .ok (.getstatic 61, 3) := by decide +kernel
theorem d1_172 : decode method_2_code 172 = .ok (.areturn, 1) := by decide +kernel
theorem d1_173 : decode method_2_code 173 = .ok (.iload_n 0, 1) := by decide +kernel
theorem d1_174 : decode method_2_code 174 = .ok (.bipush 18, 2) := by decide +kernel
theorem d1_176 : decode method_2_code 176 = .ok (.if_icmp .ne 7, 3) := by decide +kernel
theorem d1_179 : decode method_2_code 179 = .ok (.getstatic 64, 3) := by decide +kernel
theorem d1_182 : decode method_2_code 182 = .ok (.areturn, 1) := by decide +kernel
theorem d1_183 : decode method_2_code 183 = .ok (.iload_n 0, 1) := by decide +kernel
theorem d1_184 : decode method_2_code 184 = .ok (.bipush 19, 2) := by decide +kernel
theorem d1_186 : decode method_2_code 186 = .ok (.if_icmp .ne 7, 3) := by decide +kernel
theorem d1_189 : decode method_2_code 189 = .ok (.getstatic 67, 3) := by decide +kernel
theorem d1_192 : decode method_2_code 192 = .ok (.areturn, 1) := by decide +kernel
theorem d1_193 : decode method_2_code 193 = .ok (.iload_n 0, 1) := by decide +kernel
theorem d1_194 : decode method_2_code 194 = .ok (.bipush 20, 2) := by decide +kernel
theorem d1_196 : decode method_2_code 196 = .ok (.if_icmp .ne 7, 3) := by decide +kernel
theorem d1_199 : decode method_2_code 199 = .ok (.getstatic 70, 3) := by decide +kernel
theorem d1_202 : decode method_2_code 202 = .ok (.areturn, 1) := by decide +kernel
theorem d1_203 : decode method_2_code 203 = .ok (.getstatic 73, 3) := by decide +kernel
theorem d1_206 : decode method_2_code 206 = .ok (.areturn, 1) := by decide +kernel
theorem pn_rm1 : plainName "com/example/llave/llave/model/CqlTypeTakesLiteralPinLaw" = true := by first | (simp [plainName, overriddenIn]; done) | decide +kernel
theorem ef_rm1 (m : MethodId) (p1 : Int32) : entryFrame m #[(.int p1)] 1 = mkF m 0 #[.val (.int p1)] [] := by first | (simp [entryFrame, mkF, argsToLocals, Value.category]; done) | rfl
def Q1 (Z : State) (p1 : Int32) (K : Nat → Addr) (h0 : Heap) (n0 : Nat) (v : Option Value) (h : Heap) (L : List Loc) : Prop := v = some (.ref (K p1.toNatClampNeg)) ∧ L = [] ∧ h = h0
set_option maxRecDepth 65536 in
set_option maxHeartbeats 40000000 in
theorem rm1 (l : Launch) (Z : State) (a0 : Array Value) (hw : ∀ d ∈ tables_1, d.before a0 Z = true) (ws : List Jvm.Cond) (p1 : Int32) (K : Nat → Addr) (h0 : Heap) (n0 : Nat) (Z0 : n0 ≤ h0.size) (hK : KS Z h0 K) (hp : p1 = (0 : Int32) ∨ p1 = (1 : Int32) ∨ p1 = (2 : Int32) ∨ p1 = (3 : Int32) ∨ p1 = (4 : Int32) ∨ p1 = (5 : Int32) ∨ p1 = (6 : Int32) ∨ p1 = (7 : Int32) ∨ p1 = (8 : Int32) ∨ p1 = (9 : Int32) ∨ p1 = (10 : Int32) ∨ p1 = (11 : Int32) ∨ p1 = (12 : Int32) ∨ p1 = (13 : Int32) ∨ p1 = (14 : Int32) ∨ p1 = (15 : Int32) ∨ p1 = (16 : Int32) ∨ p1 = (17 : Int32) ∨ p1 = (18 : Int32) ∨ p1 = (19 : Int32) ∨ p1 = (20 : Int32) ∨ p1 = (21 : Int32)) :
    Con l Z (⟨"com/example/llave/llave/model/CqlTypeTakesLiteralPinLaw", "kindAt", "(I)Lcom/example/llave/llave/model/CqlType$Kind;"⟩ : MethodName) method_2_code 1 (some (.object "com/example/llave/llave/model/CqlType$Kind")) ws ({ frames := 0, cells := 0, slots := 0, locals := 0 } : Room) #[(.int p1)] h0 (Q1 Z p1 K h0 n0) := by
  refine Con.of (plainFor_of_name pn_rm1) ?_
  intro p e s m below meth c s₁ hZ e0 X0 hx hby hml hown hnm hret hlk
  replace hml : c.maxLocals = 1 := hml
  have hown : s.vm.findClass "com/example/llave/llave/model/CqlTypeTakesLiteralPinLaw" = some m.cls := hown
  have N0 : Fr n0 [] := Fr.nil n0
  obtain ⟨PP, hPP⟩ : ∃ P, P = Fine s below (Q1 Z p1 K h0 n0) ({ frames := 0, cells := 0, slots := 0, locals := 0 } : Room).cells ({ frames := 0, cells := 0, slots := 0, locals := 0 } : Room).slots := ⟨_, rfl⟩
  rw [← hPP]
  refine Go.cast (ef_rm1 m p1) ?_
  have Zn : n0 ≤ h0.size := Z0
  show Go p.tables e below PP (s₁.setTop (mkF m 0 #[.val (.int p1)] []))
  refine Go.st (fun t k => XS.iloadN X0.here hx rfl (hb hby d1_0) rfl k) ?_
  show Go p.tables e below PP (s₁.setTop (mkF m 1 #[.val (.int p1)] [(.int p1)]))
  by_cases hc1 : p1 = (0 : Int32)
  · --
    refine Go.st (fun t k => XS.ifNo X0.here hx rfl (hb hby d1_1) rfl (XT.i0_ne_f hc1) k) ?_
    show Go p.tables e below PP (s₁.setTop (mkF m 4 #[.val (.int p1)] []))
    obtain ⟨T1, X1, e1, st1⟩ := getS2 X0 hx hZ hown (host := "") (Or.inl (hw _ (List.mem_of_getElem? (i := 5) rfl))) Via.refl e0 (ks_0 hK).1 (g := (mkF m 4 #[.val (.int p1)] [])) rfl (hb hby d1_4)
    refine Go.st st1 ?_
    show Go p.tables e below PP (T1.setTop (mkF m 7 #[.val (.int p1)] [(.ref (K 0))]))
    rw [hPP]
    refine endR X1 hx hlk hret rfl rfl (hb hby d1_7) ?_ (by decide) (by decide)
    show Q1 Z p1 K h0 n0 (some (.ref (K 0))) T1.heap _
    rw [e1]
    exact ⟨by subst hc1; rfl, rfl, rfl⟩
  · --
    refine Go.st (fun t k => XS.ifYes X0.here hx rfl (pc0 := 1) (pc' := 8) rfl (hb hby d1_1) rfl (XT.i0_ne_t hc1) (by decide) (by decide) k) ?_
    show Go p.tables e below PP (s₁.setTop (mkF m 8 #[.val (.int p1)] []))
    refine Go.st (fun t k => XS.iloadN X0.here hx rfl (hb hby d1_8) rfl k) ?_
    show Go p.tables e below PP (s₁.setTop (mkF m 9 #[.val (.int p1)] [(.int p1)]))
    refine Go.st (fun t k => XS.iconst X0.here hx rfl (hb hby d1_9) k) ?_
    show Go p.tables e below PP (s₁.setTop (mkF m 10 #[.val (.int p1)] [(.int (1 : Int32)), (.int p1)]))
    by_cases hc10 : p1 = (1 : Int32)
    · --
      refine Go.st (fun t k => XS.icmpNo X0.here hx rfl (hb hby d1_10) rfl (XT.ii_ne_f hc10) k) ?_
      show Go p.tables e below PP (s₁.setTop (mkF m 13 #[.val (.int p1)] []))
      obtain ⟨T2, X2, e2, st2⟩ := getS2 X0 hx hZ hown (host := "") (Or.inl (hw _ (List.mem_of_getElem? (i := 19) rfl))) Via.refl e0 (ks_1 hK).1 (g := (mkF m 13 #[.val (.int p1)] [])) rfl (hb hby d1_13)
      refine Go.st st2 ?_
      show Go p.tables e below PP (T2.setTop (mkF m 16 #[.val (.int p1)] [(.ref (K 1))]))
      rw [hPP]
      refine endR X2 hx hlk hret rfl rfl (hb hby d1_16) ?_ (by decide) (by decide)
      show Q1 Z p1 K h0 n0 (some (.ref (K 1))) T2.heap _
      rw [e2]
      exact ⟨by subst hc10; rfl, rfl, rfl⟩
    · --
      refine Go.st (fun t k => XS.icmpYes X0.here hx rfl (pc0 := 10) (pc' := 17) rfl (hb hby d1_10) rfl (XT.ii_ne_t hc10) (by decide) (by decide) k) ?_
      show Go p.tables e below PP (s₁.setTop (mkF m 17 #[.val (.int p1)] []))
      refine Go.st (fun t k => XS.iloadN X0.here hx rfl (hb hby d1_17) rfl k) ?_
      show Go p.tables e below PP (s₁.setTop (mkF m 18 #[.val (.int p1)] [(.int p1)]))
      refine Go.st (fun t k => XS.iconst X0.here hx rfl (hb hby d1_18) k) ?_
      show Go p.tables e below PP (s₁.setTop (mkF m 19 #[.val (.int p1)] [(.int (2 : Int32)), (.int p1)]))
      by_cases hc19 : p1 = (2 : Int32)
      · --
        refine Go.st (fun t k => XS.icmpNo X0.here hx rfl (hb hby d1_19) rfl (XT.ii_ne_f hc19) k) ?_
        show Go p.tables e below PP (s₁.setTop (mkF m 22 #[.val (.int p1)] []))
        obtain ⟨T3, X3, e3, st3⟩ := getS2 X0 hx hZ hown (host := "") (Or.inl (hw _ (List.mem_of_getElem? (i := 65) rfl))) Via.refl e0 (ks_2 hK).1 (g := (mkF m 22 #[.val (.int p1)] [])) rfl (hb hby d1_22)
        refine Go.st st3 ?_
        show Go p.tables e below PP (T3.setTop (mkF m 25 #[.val (.int p1)] [(.ref (K 2))]))
        rw [hPP]
        refine endR X3 hx hlk hret rfl rfl (hb hby d1_25) ?_ (by decide) (by decide)
        show Q1 Z p1 K h0 n0 (some (.ref (K 2))) T3.heap _
        rw [e3]
        exact ⟨by subst hc19; rfl, rfl, rfl⟩
      · --
        refine Go.st (fun t k => XS.icmpYes X0.here hx rfl (pc0 := 19) (pc' := 26) rfl (hb hby d1_19) rfl (XT.ii_ne_t hc19) (by decide) (by decide) k) ?_
        show Go p.tables e below PP (s₁.setTop (mkF m 26 #[.val (.int p1)] []))
        refine Go.st (fun t k => XS.iloadN X0.here hx rfl (hb hby d1_26) rfl k) ?_
        show Go p.tables e below PP (s₁.setTop (mkF m 27 #[.val (.int p1)] [(.int p1)]))
        refine Go.st (fun t k => XS.iconst X0.here hx rfl (hb hby d1_27) k) ?_
        show Go p.tables e below PP (s₁.setTop (mkF m 28 #[.val (.int p1)] [(.int (3 : Int32)), (.int p1)]))
        by_cases hc28 : p1 = (3 : Int32)
        · --
          refine Go.st (fun t k => XS.icmpNo X0.here hx rfl (hb hby d1_28) rfl (XT.ii_ne_f hc28) k) ?_
          show Go p.tables e below PP (s₁.setTop (mkF m 31 #[.val (.int p1)] []))
          obtain ⟨T4, X4, e4, st4⟩ := getS2 X0 hx hZ hown (host := "") (Or.inl (hw _ (List.mem_of_getElem? (i := 53) rfl))) Via.refl e0 (ks_3 hK).1 (g := (mkF m 31 #[.val (.int p1)] [])) rfl (hb hby d1_31)
          refine Go.st st4 ?_
          show Go p.tables e below PP (T4.setTop (mkF m 34 #[.val (.int p1)] [(.ref (K 3))]))
          rw [hPP]
          refine endR X4 hx hlk hret rfl rfl (hb hby d1_34) ?_ (by decide) (by decide)
          show Q1 Z p1 K h0 n0 (some (.ref (K 3))) T4.heap _
          rw [e4]
          exact ⟨by subst hc28; rfl, rfl, rfl⟩
        · --
          refine Go.st (fun t k => XS.icmpYes X0.here hx rfl (pc0 := 28) (pc' := 35) rfl (hb hby d1_28) rfl (XT.ii_ne_t hc28) (by decide) (by decide) k) ?_
          show Go p.tables e below PP (s₁.setTop (mkF m 35 #[.val (.int p1)] []))
          refine Go.st (fun t k => XS.iloadN X0.here hx rfl (hb hby d1_35) rfl k) ?_
          show Go p.tables e below PP (s₁.setTop (mkF m 36 #[.val (.int p1)] [(.int p1)]))
          refine Go.st (fun t k => XS.iconst X0.here hx rfl (hb hby d1_36) k) ?_
          show Go p.tables e below PP (s₁.setTop (mkF m 37 #[.val (.int p1)] [(.int (4 : Int32)), (.int p1)]))
          by_cases hc37 : p1 = (4 : Int32)
          · --
            refine Go.st (fun t k => XS.icmpNo X0.here hx rfl (hb hby d1_37) rfl (XT.ii_ne_f hc37) k) ?_
            show Go p.tables e below PP (s₁.setTop (mkF m 40 #[.val (.int p1)] []))
            obtain ⟨T5, X5, e5, st5⟩ := getS2 X0 hx hZ hown (host := "") (Or.inl (hw _ (List.mem_of_getElem? (i := 87) rfl))) Via.refl e0 (ks_4 hK).1 (g := (mkF m 40 #[.val (.int p1)] [])) rfl (hb hby d1_40)
            refine Go.st st5 ?_
            show Go p.tables e below PP (T5.setTop (mkF m 43 #[.val (.int p1)] [(.ref (K 4))]))
            rw [hPP]
            refine endR X5 hx hlk hret rfl rfl (hb hby d1_43) ?_ (by decide) (by decide)
            show Q1 Z p1 K h0 n0 (some (.ref (K 4))) T5.heap _
            rw [e5]
            exact ⟨by subst hc37; rfl, rfl, rfl⟩
          · --
            refine Go.st (fun t k => XS.icmpYes X0.here hx rfl (pc0 := 37) (pc' := 44) rfl (hb hby d1_37) rfl (XT.ii_ne_t hc37) (by decide) (by decide) k) ?_
            show Go p.tables e below PP (s₁.setTop (mkF m 44 #[.val (.int p1)] []))
            refine Go.st (fun t k => XS.iloadN X0.here hx rfl (hb hby d1_44) rfl k) ?_
            show Go p.tables e below PP (s₁.setTop (mkF m 45 #[.val (.int p1)] [(.int p1)]))
            refine Go.st (fun t k => XS.iconst X0.here hx rfl (hb hby d1_45) k) ?_
            show Go p.tables e below PP (s₁.setTop (mkF m 46 #[.val (.int p1)] [(.int (5 : Int32)), (.int p1)]))
            by_cases hc46 : p1 = (5 : Int32)
            · --
              refine Go.st (fun t k => XS.icmpNo X0.here hx rfl (hb hby d1_46) rfl (XT.ii_ne_f hc46) k) ?_
              show Go p.tables e below PP (s₁.setTop (mkF m 49 #[.val (.int p1)] []))
              obtain ⟨T6, X6, e6, st6⟩ := getS2 X0 hx hZ hown (host := "") (Or.inl (hw _ (List.mem_of_getElem? (i := 33) rfl))) Via.refl e0 (ks_5 hK).1 (g := (mkF m 49 #[.val (.int p1)] [])) rfl (hb hby d1_49)
              refine Go.st st6 ?_
              show Go p.tables e below PP (T6.setTop (mkF m 52 #[.val (.int p1)] [(.ref (K 5))]))
              rw [hPP]
              refine endR X6 hx hlk hret rfl rfl (hb hby d1_52) ?_ (by decide) (by decide)
              show Q1 Z p1 K h0 n0 (some (.ref (K 5))) T6.heap _
              rw [e6]
              exact ⟨by subst hc46; rfl, rfl, rfl⟩
            · --
              refine Go.st (fun t k => XS.icmpYes X0.here hx rfl (pc0 := 46) (pc' := 53) rfl (hb hby d1_46) rfl (XT.ii_ne_t hc46) (by decide) (by decide) k) ?_
              show Go p.tables e below PP (s₁.setTop (mkF m 53 #[.val (.int p1)] []))
              refine Go.st (fun t k => XS.iloadN X0.here hx rfl (hb hby d1_53) rfl k) ?_
              show Go p.tables e below PP (s₁.setTop (mkF m 54 #[.val (.int p1)] [(.int p1)]))
              refine Go.st (fun t k => XS.bipush X0.here hx rfl (hb hby d1_54) k) ?_
              show Go p.tables e below PP (s₁.setTop (mkF m 56 #[.val (.int p1)] [(.int (6 : Int32)), (.int p1)]))
              by_cases hc56 : p1 = (6 : Int32)
              · --
                refine Go.st (fun t k => XS.icmpNo X0.here hx rfl (hb hby d1_56) rfl (XT.ii_ne_f hc56) k) ?_
                show Go p.tables e below PP (s₁.setTop (mkF m 59 #[.val (.int p1)] []))
                obtain ⟨T7, X7, e7, st7⟩ := getS2 X0 hx hZ hown (host := "") (Or.inl (hw _ (List.mem_of_getElem? (i := 37) rfl))) Via.refl e0 (ks_6 hK).1 (g := (mkF m 59 #[.val (.int p1)] [])) rfl (hb hby d1_59)
                refine Go.st st7 ?_
                show Go p.tables e below PP (T7.setTop (mkF m 62 #[.val (.int p1)] [(.ref (K 6))]))
                rw [hPP]
                refine endR X7 hx hlk hret rfl rfl (hb hby d1_62) ?_ (by decide) (by decide)
                show Q1 Z p1 K h0 n0 (some (.ref (K 6))) T7.heap _
                rw [e7]
                exact ⟨by subst hc56; rfl, rfl, rfl⟩
              · --
                refine Go.st (fun t k => XS.icmpYes X0.here hx rfl (pc0 := 56) (pc' := 63) rfl (hb hby d1_56) rfl (XT.ii_ne_t hc56) (by decide) (by decide) k) ?_
                show Go p.tables e below PP (s₁.setTop (mkF m 63 #[.val (.int p1)] []))
                refine Go.st (fun t k => XS.iloadN X0.here hx rfl (hb hby d1_63) rfl k) ?_
                show Go p.tables e below PP (s₁.setTop (mkF m 64 #[.val (.int p1)] [(.int p1)]))
                refine Go.st (fun t k => XS.bipush X0.here hx rfl (hb hby d1_64) k) ?_
                show Go p.tables e below PP (s₁.setTop (mkF m 66 #[.val (.int p1)] [(.int (7 : Int32)), (.int p1)]))
                by_cases hc66 : p1 = (7 : Int32)
                · --
                  refine Go.st (fun t k => XS.icmpNo X0.here hx rfl (hb hby d1_66) rfl (XT.ii_ne_f hc66) k) ?_
                  show Go p.tables e below PP (s₁.setTop (mkF m 69 #[.val (.int p1)] []))
                  obtain ⟨T8, X8, e8, st8⟩ := getS2 X0 hx hZ hown (host := "") (Or.inl (hw _ (List.mem_of_getElem? (i := 83) rfl))) Via.refl e0 (ks_7 hK).1 (g := (mkF m 69 #[.val (.int p1)] [])) rfl (hb hby d1_69)
                  refine Go.st st8 ?_
                  show Go p.tables e below PP (T8.setTop (mkF m 72 #[.val (.int p1)] [(.ref (K 7))]))
                  rw [hPP]
                  refine endR X8 hx hlk hret rfl rfl (hb hby d1_72) ?_ (by decide) (by decide)
                  show Q1 Z p1 K h0 n0 (some (.ref (K 7))) T8.heap _
                  rw [e8]
                  exact ⟨by subst hc66; rfl, rfl, rfl⟩
                · --
                  refine Go.st (fun t k => XS.icmpYes X0.here hx rfl (pc0 := 66) (pc' := 73) rfl (hb hby d1_66) rfl (XT.ii_ne_t hc66) (by decide) (by decide) k) ?_
                  show Go p.tables e below PP (s₁.setTop (mkF m 73 #[.val (.int p1)] []))
                  refine Go.st (fun t k => XS.iloadN X0.here hx rfl (hb hby d1_73) rfl k) ?_
                  show Go p.tables e below PP (s₁.setTop (mkF m 74 #[.val (.int p1)] [(.int p1)]))
                  refine Go.st (fun t k => XS.bipush X0.here hx rfl (hb hby d1_74) k) ?_
                  show Go p.tables e below PP (s₁.setTop (mkF m 76 #[.val (.int p1)] [(.int (8 : Int32)), (.int p1)]))
                  by_cases hc76 : p1 = (8 : Int32)
                  · --
                    refine Go.st (fun t k => XS.icmpNo X0.here hx rfl (hb hby d1_76) rfl (XT.ii_ne_f hc76) k) ?_
                    show Go p.tables e below PP (s₁.setTop (mkF m 79 #[.val (.int p1)] []))
                    obtain ⟨T9, X9, e9, st9⟩ := getS2 X0 hx hZ hown (host := "") (Or.inl (hw _ (List.mem_of_getElem? (i := 41) rfl))) Via.refl e0 (ks_8 hK).1 (g := (mkF m 79 #[.val (.int p1)] [])) rfl (hb hby d1_79)
                    refine Go.st st9 ?_
                    show Go p.tables e below PP (T9.setTop (mkF m 82 #[.val (.int p1)] [(.ref (K 8))]))
                    rw [hPP]
                    refine endR X9 hx hlk hret rfl rfl (hb hby d1_82) ?_ (by decide) (by decide)
                    show Q1 Z p1 K h0 n0 (some (.ref (K 8))) T9.heap _
                    rw [e9]
                    exact ⟨by subst hc76; rfl, rfl, rfl⟩
                  · --
                    refine Go.st (fun t k => XS.icmpYes X0.here hx rfl (pc0 := 76) (pc' := 83) rfl (hb hby d1_76) rfl (XT.ii_ne_t hc76) (by decide) (by decide) k) ?_
                    show Go p.tables e below PP (s₁.setTop (mkF m 83 #[.val (.int p1)] []))
                    refine Go.st (fun t k => XS.iloadN X0.here hx rfl (hb hby d1_83) rfl k) ?_
                    show Go p.tables e below PP (s₁.setTop (mkF m 84 #[.val (.int p1)] [(.int p1)]))
                    refine Go.st (fun t k => XS.bipush X0.here hx rfl (hb hby d1_84) k) ?_
                    show Go p.tables e below PP (s₁.setTop (mkF m 86 #[.val (.int p1)] [(.int (9 : Int32)), (.int p1)]))
                    by_cases hc86 : p1 = (9 : Int32)
                    · --
                      refine Go.st (fun t k => XS.icmpNo X0.here hx rfl (hb hby d1_86) rfl (XT.ii_ne_f hc86) k) ?_
                      show Go p.tables e below PP (s₁.setTop (mkF m 89 #[.val (.int p1)] []))
                      obtain ⟨T10, X10, e10, st10⟩ := getS2 X0 hx hZ hown (host := "") (Or.inl (hw _ (List.mem_of_getElem? (i := 49) rfl))) Via.refl e0 (ks_9 hK).1 (g := (mkF m 89 #[.val (.int p1)] [])) rfl (hb hby d1_89)
                      refine Go.st st10 ?_
                      show Go p.tables e below PP (T10.setTop (mkF m 92 #[.val (.int p1)] [(.ref (K 9))]))
                      rw [hPP]
                      refine endR X10 hx hlk hret rfl rfl (hb hby d1_92) ?_ (by decide) (by decide)
                      show Q1 Z p1 K h0 n0 (some (.ref (K 9))) T10.heap _
                      rw [e10]
                      exact ⟨by subst hc86; rfl, rfl, rfl⟩
                    · --
                      refine Go.st (fun t k => XS.icmpYes X0.here hx rfl (pc0 := 86) (pc' := 93) rfl (hb hby d1_86) rfl (XT.ii_ne_t hc86) (by decide) (by decide) k) ?_
                      show Go p.tables e below PP (s₁.setTop (mkF m 93 #[.val (.int p1)] []))
                      refine Go.st (fun t k => XS.iloadN X0.here hx rfl (hb hby d1_93) rfl k) ?_
                      show Go p.tables e below PP (s₁.setTop (mkF m 94 #[.val (.int p1)] [(.int p1)]))
                      refine Go.st (fun t k => XS.bipush X0.here hx rfl (hb hby d1_94) k) ?_
                      show Go p.tables e below PP (s₁.setTop (mkF m 96 #[.val (.int p1)] [(.int (10 : Int32)), (.int p1)]))
                      by_cases hc96 : p1 = (10 : Int32)
                      · --
                        refine Go.st (fun t k => XS.icmpNo X0.here hx rfl (hb hby d1_96) rfl (XT.ii_ne_f hc96) k) ?_
                        show Go p.tables e below PP (s₁.setTop (mkF m 99 #[.val (.int p1)] []))
                        obtain ⟨T11, X11, e11, st11⟩ := getS2 X0 hx hZ hown (host := "") (Or.inl (hw _ (List.mem_of_getElem? (i := 71) rfl))) Via.refl e0 (ks_10 hK).1 (g := (mkF m 99 #[.val (.int p1)] [])) rfl (hb hby d1_99)
                        refine Go.st st11 ?_
                        show Go p.tables e below PP (T11.setTop (mkF m 102 #[.val (.int p1)] [(.ref (K 10))]))
                        rw [hPP]
                        refine endR X11 hx hlk hret rfl rfl (hb hby d1_102) ?_ (by decide) (by decide)
                        show Q1 Z p1 K h0 n0 (some (.ref (K 10))) T11.heap _
                        rw [e11]
                        exact ⟨by subst hc96; rfl, rfl, rfl⟩
                      · --
                        refine Go.st (fun t k => XS.icmpYes X0.here hx rfl (pc0 := 96) (pc' := 103) rfl (hb hby d1_96) rfl (XT.ii_ne_t hc96) (by decide) (by decide) k) ?_
                        show Go p.tables e below PP (s₁.setTop (mkF m 103 #[.val (.int p1)] []))
                        refine Go.st (fun t k => XS.iloadN X0.here hx rfl (hb hby d1_103) rfl k) ?_
                        show Go p.tables e below PP (s₁.setTop (mkF m 104 #[.val (.int p1)] [(.int p1)]))
                        refine Go.st (fun t k => XS.bipush X0.here hx rfl (hb hby d1_104) k) ?_
                        show Go p.tables e below PP (s₁.setTop (mkF m 106 #[.val (.int p1)] [(.int (11 : Int32)), (.int p1)]))
                        by_cases hc106 : p1 = (11 : Int32)
                        · --
                          refine Go.st (fun t k => XS.icmpNo X0.here hx rfl (hb hby d1_106) rfl (XT.ii_ne_f hc106) k) ?_
                          show Go p.tables e below PP (s₁.setTop (mkF m 109 #[.val (.int p1)] []))
                          obtain ⟨T12, X12, e12, st12⟩ := getS2 X0 hx hZ hown (host := "") (Or.inl (hw _ (List.mem_of_getElem? (i := 59) rfl))) Via.refl e0 (ks_11 hK).1 (g := (mkF m 109 #[.val (.int p1)] [])) rfl (hb hby d1_109)
                          refine Go.st st12 ?_
                          show Go p.tables e below PP (T12.setTop (mkF m 112 #[.val (.int p1)] [(.ref (K 11))]))
                          rw [hPP]
                          refine endR X12 hx hlk hret rfl rfl (hb hby d1_112) ?_ (by decide) (by decide)
                          show Q1 Z p1 K h0 n0 (some (.ref (K 11))) T12.heap _
                          rw [e12]
                          exact ⟨by subst hc106; rfl, rfl, rfl⟩
                        · --
                          refine Go.st (fun t k => XS.icmpYes X0.here hx rfl (pc0 := 106) (pc' := 113) rfl (hb hby d1_106) rfl (XT.ii_ne_t hc106) (by decide) (by decide) k) ?_
                          show Go p.tables e below PP (s₁.setTop (mkF m 113 #[.val (.int p1)] []))
                          refine Go.st (fun t k => XS.iloadN X0.here hx rfl (hb hby d1_113) rfl k) ?_
                          show Go p.tables e below PP (s₁.setTop (mkF m 114 #[.val (.int p1)] [(.int p1)]))
                          refine Go.st (fun t k => XS.bipush X0.here hx rfl (hb hby d1_114) k) ?_
                          show Go p.tables e below PP (s₁.setTop (mkF m 116 #[.val (.int p1)] [(.int (12 : Int32)), (.int p1)]))
                          by_cases hc116 : p1 = (12 : Int32)
                          · --
                            refine Go.st (fun t k => XS.icmpNo X0.here hx rfl (hb hby d1_116) rfl (XT.ii_ne_f hc116) k) ?_
                            show Go p.tables e below PP (s₁.setTop (mkF m 119 #[.val (.int p1)] []))
                            obtain ⟨T13, X13, e13, st13⟩ := getS2 X0 hx hZ hown (host := "") (Or.inl (hw _ (List.mem_of_getElem? (i := 45) rfl))) Via.refl e0 (ks_12 hK).1 (g := (mkF m 119 #[.val (.int p1)] [])) rfl (hb hby d1_119)
                            refine Go.st st13 ?_
                            show Go p.tables e below PP (T13.setTop (mkF m 122 #[.val (.int p1)] [(.ref (K 12))]))
                            rw [hPP]
                            refine endR X13 hx hlk hret rfl rfl (hb hby d1_122) ?_ (by decide) (by decide)
                            show Q1 Z p1 K h0 n0 (some (.ref (K 12))) T13.heap _
                            rw [e13]
                            exact ⟨by subst hc116; rfl, rfl, rfl⟩
                          · --
                            refine Go.st (fun t k => XS.icmpYes X0.here hx rfl (pc0 := 116) (pc' := 123) rfl (hb hby d1_116) rfl (XT.ii_ne_t hc116) (by decide) (by decide) k) ?_
                            show Go p.tables e below PP (s₁.setTop (mkF m 123 #[.val (.int p1)] []))
                            refine Go.st (fun t k => XS.iloadN X0.here hx rfl (hb hby d1_123) rfl k) ?_
                            show Go p.tables e below PP (s₁.setTop (mkF m 124 #[.val (.int p1)] [(.int p1)]))
                            refine Go.st (fun t k => XS.bipush X0.here hx rfl (hb hby d1_124) k) ?_
                            show Go p.tables e below PP (s₁.setTop (mkF m 126 #[.val (.int p1)] [(.int (13 : Int32)), (.int p1)]))
                            by_cases hc126 : p1 = (13 : Int32)
                            · --
                              refine Go.st (fun t k => XS.icmpNo X0.here hx rfl (hb hby d1_126) rfl (XT.ii_ne_f hc126) k) ?_
                              show Go p.tables e below PP (s₁.setTop (mkF m 129 #[.val (.int p1)] []))
                              obtain ⟨T14, X14, e14, st14⟩ := getS2 X0 hx hZ hown (host := "") (Or.inl (hw _ (List.mem_of_getElem? (i := 21) rfl))) Via.refl e0 (ks_13 hK).1 (g := (mkF m 129 #[.val (.int p1)] [])) rfl (hb hby d1_129)
                              refine Go.st st14 ?_
                              show Go p.tables e below PP (T14.setTop (mkF m 132 #[.val (.int p1)] [(.ref (K 13))]))
                              rw [hPP]
                              refine endR X14 hx hlk hret rfl rfl (hb hby d1_132) ?_ (by decide) (by decide)
                              show Q1 Z p1 K h0 n0 (some (.ref (K 13))) T14.heap _
                              rw [e14]
                              exact ⟨by subst hc126; rfl, rfl, rfl⟩
                            · --
                              refine Go.st (fun t k => XS.icmpYes X0.here hx rfl (pc0 := 126) (pc' := 133) rfl (hb hby d1_126) rfl (XT.ii_ne_t hc126) (by decide) (by decide) k) ?_
                              show Go p.tables e below PP (s₁.setTop (mkF m 133 #[.val (.int p1)] []))
                              refine Go.st (fun t k => XS.iloadN X0.here hx rfl (hb hby d1_133) rfl k) ?_
                              show Go p.tables e below PP (s₁.setTop (mkF m 134 #[.val (.int p1)] [(.int p1)]))
                              refine Go.st (fun t k => XS.bipush X0.here hx rfl (hb hby d1_134) k) ?_
                              show Go p.tables e below PP (s₁.setTop (mkF m 136 #[.val (.int p1)] [(.int (14 : Int32)), (.int p1)]))
                              by_cases hc136 : p1 = (14 : Int32)
                              · --
                                refine Go.st (fun t k => XS.icmpNo X0.here hx rfl (hb hby d1_136) rfl (XT.ii_ne_f hc136) k) ?_
                                show Go p.tables e below PP (s₁.setTop (mkF m 139 #[.val (.int p1)] []))
                                obtain ⟨T15, X15, e15, st15⟩ := getS2 X0 hx hZ hown (host := "") (Or.inl (hw _ (List.mem_of_getElem? (i := 17) rfl))) Via.refl e0 (ks_14 hK).1 (g := (mkF m 139 #[.val (.int p1)] [])) rfl (hb hby d1_139)
                                refine Go.st st15 ?_
                                show Go p.tables e below PP (T15.setTop (mkF m 142 #[.val (.int p1)] [(.ref (K 14))]))
                                rw [hPP]
                                refine endR X15 hx hlk hret rfl rfl (hb hby d1_142) ?_ (by decide) (by decide)
                                show Q1 Z p1 K h0 n0 (some (.ref (K 14))) T15.heap _
                                rw [e15]
                                exact ⟨by subst hc136; rfl, rfl, rfl⟩
                              · --
                                refine Go.st (fun t k => XS.icmpYes X0.here hx rfl (pc0 := 136) (pc' := 143) rfl (hb hby d1_136) rfl (XT.ii_ne_t hc136) (by decide) (by decide) k) ?_
                                show Go p.tables e below PP (s₁.setTop (mkF m 143 #[.val (.int p1)] []))
                                refine Go.st (fun t k => XS.iloadN X0.here hx rfl (hb hby d1_143) rfl k) ?_
                                show Go p.tables e below PP (s₁.setTop (mkF m 144 #[.val (.int p1)] [(.int p1)]))
                                refine Go.st (fun t k => XS.bipush X0.here hx rfl (hb hby d1_144) k) ?_
                                show Go p.tables e below PP (s₁.setTop (mkF m 146 #[.val (.int p1)] [(.int (15 : Int32)), (.int p1)]))
                                by_cases hc146 : p1 = (15 : Int32)
                                · --
                                  refine Go.st (fun t k => XS.icmpNo X0.here hx rfl (hb hby d1_146) rfl (XT.ii_ne_f hc146) k) ?_
                                  show Go p.tables e below PP (s₁.setTop (mkF m 149 #[.val (.int p1)] []))
                                  obtain ⟨T16, X16, e16, st16⟩ := getS2 X0 hx hZ hown (host := "") (Or.inl (hw _ (List.mem_of_getElem? (i := 8) rfl))) Via.refl e0 (ks_15 hK).1 (g := (mkF m 149 #[.val (.int p1)] [])) rfl (hb hby d1_149)
                                  refine Go.st st16 ?_
                                  show Go p.tables e below PP (T16.setTop (mkF m 152 #[.val (.int p1)] [(.ref (K 15))]))
                                  rw [hPP]
                                  refine endR X16 hx hlk hret rfl rfl (hb hby d1_152) ?_ (by decide) (by decide)
                                  show Q1 Z p1 K h0 n0 (some (.ref (K 15))) T16.heap _
                                  rw [e16]
                                  exact ⟨by subst hc146; rfl, rfl, rfl⟩
                                · --
                                  refine Go.st (fun t k => XS.icmpYes X0.here hx rfl (pc0 := 146) (pc' := 153) rfl (hb hby d1_146) rfl (XT.ii_ne_t hc146) (by decide) (by decide) k) ?_
                                  show Go p.tables e below PP (s₁.setTop (mkF m 153 #[.val (.int p1)] []))
                                  refine Go.st (fun t k => XS.iloadN X0.here hx rfl (hb hby d1_153) rfl k) ?_
                                  show Go p.tables e below PP (s₁.setTop (mkF m 154 #[.val (.int p1)] [(.int p1)]))
                                  refine Go.st (fun t k => XS.bipush X0.here hx rfl (hb hby d1_154) k) ?_
                                  show Go p.tables e below PP (s₁.setTop (mkF m 156 #[.val (.int p1)] [(.int (16 : Int32)), (.int p1)]))
                                  by_cases hc156 : p1 = (16 : Int32)
                                  · --
                                    refine Go.st (fun t k => XS.icmpNo X0.here hx rfl (hb hby d1_156) rfl (XT.ii_ne_f hc156) k) ?_
                                    show Go p.tables e below PP (s₁.setTop (mkF m 159 #[.val (.int p1)] []))
                                    obtain ⟨T17, X17, e17, st17⟩ := getS2 X0 hx hZ hown (host := "") (Or.inl (hw _ (List.mem_of_getElem? (i := 23) rfl))) Via.refl e0 (ks_16 hK).1 (g := (mkF m 159 #[.val (.int p1)] [])) rfl (hb hby d1_159)
                                    refine Go.st st17 ?_
                                    show Go p.tables e below PP (T17.setTop (mkF m 162 #[.val (.int p1)] [(.ref (K 16))]))
                                    rw [hPP]
                                    refine endR X17 hx hlk hret rfl rfl (hb hby d1_162) ?_ (by decide) (by decide)
                                    show Q1 Z p1 K h0 n0 (some (.ref (K 16))) T17.heap _
                                    rw [e17]
                                    exact ⟨by subst hc156; rfl, rfl, rfl⟩
                                  · --
                                    refine Go.st (fun t k => XS.icmpYes X0.here hx rfl (pc0 := 156) (pc' := 163) rfl (hb hby d1_156) rfl (XT.ii_ne_t hc156) (by decide) (by decide) k) ?_
                                    show Go p.tables e below PP (s₁.setTop (mkF m 163 #[.val (.int p1)] []))
                                    refine Go.st (fun t k => XS.iloadN X0.here hx rfl (hb hby d1_163) rfl k) ?_
                                    show Go p.tables e below PP (s₁.setTop (mkF m 164 #[.val (.int p1)] [(.int p1)]))
                                    refine Go.st (fun t k => XS.bipush X0.here hx rfl (hb hby d1_164) k) ?_
                                    show Go p.tables e below PP (s₁.setTop (mkF m 166 #[.val (.int p1)] [(.int (17 : Int32)), (.int p1)]))
                                    by_cases hc166 : p1 = (17 : Int32)
                                    · --
                                      refine Go.st (fun t k => XS.icmpNo X0.here hx rfl (hb hby d1_166) rfl (XT.ii_ne_f hc166) k) ?_
                                      show Go p.tables e below PP (s₁.setTop (mkF m 169 #[.val (.int p1)] []))
                                      obtain ⟨T18, X18, e18, st18⟩ := getS2 X0 hx hZ hown (host := "") (Or.inl (hw _ (List.mem_of_getElem? (i := 25) rfl))) Via.refl e0 (ks_17 hK).1 (g := (mkF m 169 #[.val (.int p1)] [])) rfl (hb hby d1_169)
                                      refine Go.st st18 ?_
                                      show Go p.tables e below PP (T18.setTop (mkF m 172 #[.val (.int p1)] [(.ref (K 17))]))
                                      rw [hPP]
                                      refine endR X18 hx hlk hret rfl rfl (hb hby d1_172) ?_ (by decide) (by decide)
                                      show Q1 Z p1 K h0 n0 (some (.ref (K 17))) T18.heap _
                                      rw [e18]
                                      exact ⟨by subst hc166; rfl, rfl, rfl⟩
                                    · --
                                      refine Go.st (fun t k => XS.icmpYes X0.here hx rfl (pc0 := 166) (pc' := 173) rfl (hb hby d1_166) rfl (XT.ii_ne_t hc166) (by decide) (by decide) k) ?_
                                      show Go p.tables e below PP (s₁.setTop (mkF m 173 #[.val (.int p1)] []))
                                      refine Go.st (fun t k => XS.iloadN X0.here hx rfl (hb hby d1_173) rfl k) ?_
                                      show Go p.tables e below PP (s₁.setTop (mkF m 174 #[.val (.int p1)] [(.int p1)]))
                                      refine Go.st (fun t k => XS.bipush X0.here hx rfl (hb hby d1_174) k) ?_
                                      show Go p.tables e below PP (s₁.setTop (mkF m 176 #[.val (.int p1)] [(.int (18 : Int32)), (.int p1)]))
                                      by_cases hc176 : p1 = (18 : Int32)
                                      · --
                                        refine Go.st (fun t k => XS.icmpNo X0.here hx rfl (hb hby d1_176) rfl (XT.ii_ne_f hc176) k) ?_
                                        show Go p.tables e below PP (s₁.setTop (mkF m 179 #[.val (.int p1)] []))
                                        obtain ⟨T19, X19, e19, st19⟩ := getS2 X0 hx hZ hown (host := "") (Or.inl (hw _ (List.mem_of_getElem? (i := 79) rfl))) Via.refl e0 (ks_18 hK).1 (g := (mkF m 179 #[.val (.int p1)] [])) rfl (hb hby d1_179)
                                        refine Go.st st19 ?_
                                        show Go p.tables e below PP (T19.setTop (mkF m 182 #[.val (.int p1)] [(.ref (K 18))]))
                                        rw [hPP]
                                        refine endR X19 hx hlk hret rfl rfl (hb hby d1_182) ?_ (by decide) (by decide)
                                        show Q1 Z p1 K h0 n0 (some (.ref (K 18))) T19.heap _
                                        rw [e19]
                                        exact ⟨by subst hc176; rfl, rfl, rfl⟩
                                      · --
                                        refine Go.st (fun t k => XS.icmpYes X0.here hx rfl (pc0 := 176) (pc' := 183) rfl (hb hby d1_176) rfl (XT.ii_ne_t hc176) (by decide) (by decide) k) ?_
                                        show Go p.tables e below PP (s₁.setTop (mkF m 183 #[.val (.int p1)] []))
                                        refine Go.st (fun t k => XS.iloadN X0.here hx rfl (hb hby d1_183) rfl k) ?_
                                        show Go p.tables e below PP (s₁.setTop (mkF m 184 #[.val (.int p1)] [(.int p1)]))
                                        refine Go.st (fun t k => XS.bipush X0.here hx rfl (hb hby d1_184) k) ?_
                                        show Go p.tables e below PP (s₁.setTop (mkF m 186 #[.val (.int p1)] [(.int (19 : Int32)), (.int p1)]))
                                        by_cases hc186 : p1 = (19 : Int32)
                                        · --
                                          refine Go.st (fun t k => XS.icmpNo X0.here hx rfl (hb hby d1_186) rfl (XT.ii_ne_f hc186) k) ?_
                                          show Go p.tables e below PP (s₁.setTop (mkF m 189 #[.val (.int p1)] []))
                                          obtain ⟨T20, X20, e20, st20⟩ := getS2 X0 hx hZ hown (host := "") (Or.inl (hw _ (List.mem_of_getElem? (i := 91) rfl))) Via.refl e0 (ks_19 hK).1 (g := (mkF m 189 #[.val (.int p1)] [])) rfl (hb hby d1_189)
                                          refine Go.st st20 ?_
                                          show Go p.tables e below PP (T20.setTop (mkF m 192 #[.val (.int p1)] [(.ref (K 19))]))
                                          rw [hPP]
                                          refine endR X20 hx hlk hret rfl rfl (hb hby d1_192) ?_ (by decide) (by decide)
                                          show Q1 Z p1 K h0 n0 (some (.ref (K 19))) T20.heap _
                                          rw [e20]
                                          exact ⟨by subst hc186; rfl, rfl, rfl⟩
                                        · --
                                          refine Go.st (fun t k => XS.icmpYes X0.here hx rfl (pc0 := 186) (pc' := 193) rfl (hb hby d1_186) rfl (XT.ii_ne_t hc186) (by decide) (by decide) k) ?_
                                          show Go p.tables e below PP (s₁.setTop (mkF m 193 #[.val (.int p1)] []))
                                          refine Go.st (fun t k => XS.iloadN X0.here hx rfl (hb hby d1_193) rfl k) ?_
                                          show Go p.tables e below PP (s₁.setTop (mkF m 194 #[.val (.int p1)] [(.int p1)]))
                                          refine Go.st (fun t k => XS.bipush X0.here hx rfl (hb hby d1_194) k) ?_
                                          show Go p.tables e below PP (s₁.setTop (mkF m 196 #[.val (.int p1)] [(.int (20 : Int32)), (.int p1)]))
                                          by_cases hc196 : p1 = (20 : Int32)
                                          · --
                                            refine Go.st (fun t k => XS.icmpNo X0.here hx rfl (hb hby d1_196) rfl (XT.ii_ne_f hc196) k) ?_
                                            show Go p.tables e below PP (s₁.setTop (mkF m 199 #[.val (.int p1)] []))
                                            obtain ⟨T21, X21, e21, st21⟩ := getS2 X0 hx hZ hown (host := "") (Or.inl (hw _ (List.mem_of_getElem? (i := 29) rfl))) Via.refl e0 (ks_20 hK).1 (g := (mkF m 199 #[.val (.int p1)] [])) rfl (hb hby d1_199)
                                            refine Go.st st21 ?_
                                            show Go p.tables e below PP (T21.setTop (mkF m 202 #[.val (.int p1)] [(.ref (K 20))]))
                                            rw [hPP]
                                            refine endR X21 hx hlk hret rfl rfl (hb hby d1_202) ?_ (by decide) (by decide)
                                            show Q1 Z p1 K h0 n0 (some (.ref (K 20))) T21.heap _
                                            rw [e21]
                                            exact ⟨by subst hc196; rfl, rfl, rfl⟩
                                          · --
                                            refine Go.st (fun t k => XS.icmpYes X0.here hx rfl (pc0 := 196) (pc' := 203) rfl (hb hby d1_196) rfl (XT.ii_ne_t hc196) (by decide) (by decide) k) ?_
                                            show Go p.tables e below PP (s₁.setTop (mkF m 203 #[.val (.int p1)] []))
                                            obtain ⟨T22, X22, e22, st22⟩ := getS2 X0 hx hZ hown (host := "") (Or.inl (hw _ (List.mem_of_getElem? (i := 75) rfl))) Via.refl e0 (ks_21 hK).1 (g := (mkF m 203 #[.val (.int p1)] [])) rfl (hb hby d1_203)
                                            refine Go.st st22 ?_
                                            show Go p.tables e below PP (T22.setTop (mkF m 206 #[.val (.int p1)] [(.ref (K 21))]))
                                            rw [hPP]
                                            refine endR X22 hx hlk hret rfl rfl (hb hby d1_206) ?_ (by decide) (by decide)
                                            show Q1 Z p1 K h0 n0 (some (.ref (K 21))) T22.heap _
                                            rw [e22]
                                            exact ⟨by rcases hp with hp | hp | hp | hp | hp | hp | hp | hp | hp | hp | hp | hp | hp | hp | hp | hp | hp | hp | hp | hp | hp | hp <;> first | exact absurd hp hc1 | exact absurd hp hc10 | exact absurd hp hc19 | exact absurd hp hc28 | exact absurd hp hc37 | exact absurd hp hc46 | exact absurd hp hc56 | exact absurd hp hc66 | exact absurd hp hc76 | exact absurd hp hc86 | exact absurd hp hc96 | exact absurd hp hc106 | exact absurd hp hc116 | exact absurd hp hc126 | exact absurd hp hc136 | exact absurd hp hc146 | exact absurd hp hc156 | exact absurd hp hc166 | exact absurd hp hc176 | exact absurd hp hc186 | exact absurd hp hc196 | (subst hp; rfl), rfl, rfl⟩
theorem d2_0 : decode prog_79_method_6_code 0 = .ok (.iload_n 1, 1) := by decide +kernel
theorem d2_1 : decode prog_79_method_6_code 1 = .ok (.aload_n 0, 1) := by decide +kernel
theorem d2_2 : decode prog_79_method_6_code 2 = .ok (.getfield 96, 3) := by decide +kernel
theorem d2_5 : decode prog_79_method_6_code 5 = .ok (.if_icmp .ne 7, 3) := by decide +kernel
theorem d2_8 : decode prog_79_method_6_code 8 = .ok (.iconst 1, 1) := by decide +kernel
theorem d2_9 : decode prog_79_method_6_code 9 = .ok (.goto 4, 3) := by decide +kernel
theorem d2_12 : decode prog_79_method_6_code 12 = .ok (.iconst 0, 1) := by decide +kernel
theorem d2_13 : decode prog_79_method_6_code 13 = .ok (.ireturn, 1) := by decide +kernel
theorem pn_rm2 : plainName "com/example/llave/llave/model/CqlType$Kind" = true := by first | (simp [plainName, overriddenIn]; done) | decide +kernel
theorem ef_rm2 (m : MethodId) (a1 : Addr) (p2 : Int32) : entryFrame m #[(.ref a1), (.int p2)] 2 = mkF m 0 #[.val (.ref a1), .val (.int p2)] [] := by first | (simp [entryFrame, mkF, argsToLocals, Value.category]; done) | rfl
def Q2 (Z : State) (a1 : Addr) (p2 : Int32) (f1 : Int32) (h0 : Heap) (n0 : Nat) (v : Option Value) (h : Heap) (L : List Loc) : Prop := v = some (.int (bi (p2 = f1))) ∧ L = [] ∧ h = h0
set_option maxRecDepth 65536 in
set_option maxHeartbeats 40000000 in
theorem rm2 (l : Launch) (Z : State) (a0 : Array Value) (hw : ∀ d ∈ tables_1, d.before a0 Z = true) (ws : List Jvm.Cond) (a1 : Addr) (p2 : Int32) (f1 : Int32) (h0 : Heap) (n0 : Nat) (Z0 : n0 ≤ h0.size) (F1 : Fld Z h0 a1 "com/example/llave/llave/model/CqlType$Kind" "quotedLiteral" "Z" (.int f1)) :
    Con l Z (⟨"com/example/llave/llave/model/CqlType$Kind", "takesLiteral", "(Z)Z"⟩ : MethodName) prog_79_method_6_code 2 (some .boolean) ws ({ frames := 0, cells := 0, slots := 0, locals := 0 } : Room) #[(.ref a1), (.int p2)] h0 (Q2 Z a1 p2 f1 h0 n0) := by
  refine Con.of (plainFor_of_name pn_rm2) ?_
  intro p e s m below meth c s₁ hZ e0 X0 hx hby hml hown hnm hret hlk
  replace hml : c.maxLocals = 2 := hml
  have hown : s.vm.findClass "com/example/llave/llave/model/CqlType$Kind" = some m.cls := hown
  have N0 : Fr n0 [] := Fr.nil n0
  obtain ⟨PP, hPP⟩ : ∃ P, P = Fine s below (Q2 Z a1 p2 f1 h0 n0) ({ frames := 0, cells := 0, slots := 0, locals := 0 } : Room).cells ({ frames := 0, cells := 0, slots := 0, locals := 0 } : Room).slots := ⟨_, rfl⟩
  rw [← hPP]
  refine Go.cast (ef_rm2 m a1 p2) ?_
  have Zn : n0 ≤ h0.size := Z0
  show Go p.tables e below PP (s₁.setTop (mkF m 0 #[.val (.ref a1), .val (.int p2)] []))
  refine Go.st (fun t k => XS.iloadN X0.here hx rfl (hb hby d2_0) rfl k) ?_
  show Go p.tables e below PP (s₁.setTop (mkF m 1 #[.val (.ref a1), .val (.int p2)] [(.int p2)]))
  refine Go.st (fun t k => XS.aloadN X0.here hx rfl (hb hby d2_1) rfl rfl k) ?_
  show Go p.tables e below PP (s₁.setTop (mkF m 2 #[.val (.ref a1), .val (.int p2)] [(.ref a1), (.int p2)]))
  obtain ⟨T1, X1, e1, st1⟩ := getF X0 hx hZ hown (host := "") (Or.inl (hw _ (List.mem_of_getElem? (i := 15) rfl))) Via.refl e0 F1 (g := (mkF m 2 #[.val (.ref a1), .val (.int p2)] [(.ref a1), (.int p2)])) rfl rfl (hb hby d2_2)
  refine Go.st st1 ?_
  show Go p.tables e below PP (T1.setTop (mkF m 5 #[.val (.ref a1), .val (.int p2)] [(.int f1), (.int p2)]))
  by_cases hc5 : p2 = f1
  · --
    refine Go.st (fun t k => XS.icmpNo X1.here hx rfl (hb hby d2_5) rfl (XT.ii_ne_f hc5) k) ?_
    show Go p.tables e below PP (T1.setTop (mkF m 8 #[.val (.ref a1), .val (.int p2)] []))
    refine Go.st (fun t k => XS.iconst X1.here hx rfl (hb hby d2_8) k) ?_
    show Go p.tables e below PP (T1.setTop (mkF m 9 #[.val (.ref a1), .val (.int p2)] [(.int (1 : Int32))]))
    refine Go.st (fun t k => XS.goto X1.here hx rfl (pc0 := 9) (pc' := 13) rfl (hb hby d2_9) (by decide) (by decide) k) ?_
    show Go p.tables e below PP (T1.setTop (mkF m 13 #[.val (.ref a1), .val (.int p2)] [(.int (1 : Int32))]))
    rw [hPP]
    refine endN X1 hx hlk (t := .boolean) hret (by simp) (hb hby d2_13) (w := (1 : Int32)) (rfl) ?_ (by decide) (by decide)
    show Q2 Z a1 p2 f1 h0 n0 (some (.int (1 : Int32))) T1.heap _
    rw [e1]
    exact ⟨by simp [bi, hc5], rfl, rfl⟩
  · --
    refine Go.st (fun t k => XS.icmpYes X1.here hx rfl (pc0 := 5) (pc' := 12) rfl (hb hby d2_5) rfl (XT.ii_ne_t hc5) (by decide) (by decide) k) ?_
    show Go p.tables e below PP (T1.setTop (mkF m 12 #[.val (.ref a1), .val (.int p2)] []))
    refine Go.st (fun t k => XS.iconst X1.here hx rfl (hb hby d2_12) k) ?_
    show Go p.tables e below PP (T1.setTop (mkF m 13 #[.val (.ref a1), .val (.int p2)] [(.int (0 : Int32))]))
    rw [hPP]
    refine endN X1 hx hlk (t := .boolean) hret (by simp) (hb hby d2_13) (w := (0 : Int32)) (rfl) ?_ (by decide) (by decide)
    show Q2 Z a1 p2 f1 h0 n0 (some (.int (0 : Int32))) T1.heap _
    rw [e1]
    exact ⟨by simp [bi, hc5], rfl, rfl⟩
theorem d3_0 : decode prog_87_method_2_code 0 = .ok (.iconst 1, 1) := by decide +kernel
theorem d3_1 : decode prog_87_method_2_code 1 = .ok (.ireturn, 1) := by decide +kernel
theorem pn_rm3 : plainName "com/example/llave/llave/model/CqlType$Kind$16" = true := by first | (simp [plainName, overriddenIn]; done) | decide +kernel
theorem ef_rm3 (m : MethodId) (a1 : Addr) (p2 : Int32) : entryFrame m #[(.ref a1), (.int p2)] 2 = mkF m 0 #[.val (.ref a1), .val (.int p2)] [] := by first | (simp [entryFrame, mkF, argsToLocals, Value.category]; done) | rfl
def Q3 (Z : State) (a1 : Addr) (p2 : Int32) (h0 : Heap) (n0 : Nat) (v : Option Value) (h : Heap) (L : List Loc) : Prop := v = some (.int (1 : Int32)) ∧ L = [] ∧ h = h0
set_option maxRecDepth 65536 in
set_option maxHeartbeats 40000000 in
theorem rm3 (l : Launch) (Z : State) (a0 : Array Value) (hw : ∀ d ∈ tables_1, d.before a0 Z = true) (ws : List Jvm.Cond) (a1 : Addr) (p2 : Int32) (h0 : Heap) (n0 : Nat) (Z0 : n0 ≤ h0.size) :
    Con l Z (⟨"com/example/llave/llave/model/CqlType$Kind$16", "takesLiteral", "(Z)Z"⟩ : MethodName) prog_87_method_2_code 2 (some .boolean) ws ({ frames := 0, cells := 0, slots := 0, locals := 0 } : Room) #[(.ref a1), (.int p2)] h0 (Q3 Z a1 p2 h0 n0) := by
  refine Con.of (plainFor_of_name pn_rm3) ?_
  intro p e s m below meth c s₁ hZ e0 X0 hx hby hml hown hnm hret hlk
  replace hml : c.maxLocals = 2 := hml
  have hown : s.vm.findClass "com/example/llave/llave/model/CqlType$Kind$16" = some m.cls := hown
  have N0 : Fr n0 [] := Fr.nil n0
  obtain ⟨PP, hPP⟩ : ∃ P, P = Fine s below (Q3 Z a1 p2 h0 n0) ({ frames := 0, cells := 0, slots := 0, locals := 0 } : Room).cells ({ frames := 0, cells := 0, slots := 0, locals := 0 } : Room).slots := ⟨_, rfl⟩
  rw [← hPP]
  refine Go.cast (ef_rm3 m a1 p2) ?_
  have Zn : n0 ≤ h0.size := Z0
  show Go p.tables e below PP (s₁.setTop (mkF m 0 #[.val (.ref a1), .val (.int p2)] []))
  refine Go.st (fun t k => XS.iconst X0.here hx rfl (hb hby d3_0) k) ?_
  show Go p.tables e below PP (s₁.setTop (mkF m 1 #[.val (.ref a1), .val (.int p2)] [(.int (1 : Int32))]))
  rw [hPP]
  refine endN X0 hx hlk (t := .boolean) hret (by simp) (hb hby d3_1) (w := (1 : Int32)) (rfl) ?_ (by decide) (by decide)
  show Q3 Z a1 p2 h0 n0 (some (.int (1 : Int32))) s₁.heap _
  rw [e0]
  exact ⟨rfl, rfl, rfl⟩
theorem own_22 (x i : Int32) (hi : ((x &&& (2147483647 : Int32)) % (22 : Int32)) = i) : i = (0 : Int32) ∨ i = (1 : Int32) ∨ i = (2 : Int32) ∨ i = (3 : Int32) ∨ i = (4 : Int32) ∨ i = (5 : Int32) ∨ i = (6 : Int32) ∨ i = (7 : Int32) ∨ i = (8 : Int32) ∨ i = (9 : Int32) ∨ i = (10 : Int32) ∨ i = (11 : Int32) ∨ i = (12 : Int32) ∨ i = (13 : Int32) ∨ i = (14 : Int32) ∨ i = (15 : Int32) ∨ i = (16 : Int32) ∨ i = (17 : Int32) ∨ i = (18 : Int32) ∨ i = (19 : Int32) ∨ i = (20 : Int32) ∨ i = (21 : Int32) := by
  subst hi
  have q := c_mask x 2147483647 31 (by decide) (by decide)
  have r := (c_irem (x &&& (2147483647 : Int32)) 22 22 (by decide)).1 (by omega)
  have s : ((x &&& (2147483647 : Int32)) % (22 : Int32)) = Int32.ofNat (((x &&& (2147483647 : Int32)) % (22 : Int32)).toInt.toNat) := by
    apply Int32.toInt_inj.mp
    rw [Int32.toInt_ofNat_of_lt (by omega)]
    omega
  have t : ((x &&& (2147483647 : Int32)) % (22 : Int32)).toInt.toNat < 22 := by omega
  revert s t
  generalize ((x &&& (2147483647 : Int32)) % (22 : Int32)).toInt.toNat = k
  intro s t
  rw [s]
  have key : ∀ k : Fin 22, Int32.ofNat k.val = (0 : Int32) ∨ Int32.ofNat k.val = (1 : Int32) ∨ Int32.ofNat k.val = (2 : Int32) ∨ Int32.ofNat k.val = (3 : Int32) ∨ Int32.ofNat k.val = (4 : Int32) ∨ Int32.ofNat k.val = (5 : Int32) ∨ Int32.ofNat k.val = (6 : Int32) ∨ Int32.ofNat k.val = (7 : Int32) ∨ Int32.ofNat k.val = (8 : Int32) ∨ Int32.ofNat k.val = (9 : Int32) ∨ Int32.ofNat k.val = (10 : Int32) ∨ Int32.ofNat k.val = (11 : Int32) ∨ Int32.ofNat k.val = (12 : Int32) ∨ Int32.ofNat k.val = (13 : Int32) ∨ Int32.ofNat k.val = (14 : Int32) ∨ Int32.ofNat k.val = (15 : Int32) ∨ Int32.ofNat k.val = (16 : Int32) ∨ Int32.ofNat k.val = (17 : Int32) ∨ Int32.ofNat k.val = (18 : Int32) ∨ Int32.ofNat k.val = (19 : Int32) ∨ Int32.ofNat k.val = (20 : Int32) ∨ Int32.ofNat k.val = (21 : Int32) := by decide
  exact key ⟨k, t⟩
theorem pn_rm0 : plainName "com/example/llave/llave/model/CqlTypeTakesLiteralPinLaw" = true := by first | (simp [plainName, overriddenIn]; done) | decide +kernel
theorem ef_rm0 (m : MethodId) (p1 : Int32) (p2 : Int32) : entryFrame m #[(.int p1), (.int p2)] maxLocals = mkF m 0 #[.val (.int p1), .val (.int p2), .unset, .unset, .unset, .unset] [] := by first | (simp [entryFrame, mkF, argsToLocals, Value.category, maxLocals]; done) | rfl
def Q0 (Z : State) (p1 : Int32) (p2 : Int32) (K : Nat → Addr) (h0 : Heap) (n0 : Nat) (v : Option Value) (h : Heap) (L : List Loc) : Prop := v = some (.int 1) ∧ Fr n0 L
theorem pd_0 : parseMethodDescriptor "(I)Lcom/example/llave/llave/model/CqlType$Kind;" = some ⟨[.int], some (.object "com/example/llave/llave/model/CqlType$Kind")⟩ := by decide +kernel
theorem pd_1 : parseMethodDescriptor "(Z)Z" = some ⟨[.boolean], some .boolean⟩ := by decide +kernel
set_option maxRecDepth 65536 in
set_option maxHeartbeats 40000000 in
theorem rm0 (l : Launch) (Z : State) (a0 : Array Value) (hw : ∀ d ∈ tables_1, d.before a0 Z = true) (ws : List Jvm.Cond) (p1 : Int32) (p2 : Int32) (K : Nat → Addr) (h0 : Heap) (n0 : Nat) (Z0 : n0 ≤ h0.size) (hK : KS Z h0 K) :
    Con l Z x code maxLocals ret ws room_1 #[(.int p1), (.int p2)] h0 (Q0 Z p1 p2 K h0 n0) := by
  refine Con.of (plainFor_of_name pn_rm0) ?_
  intro p e s m below meth c s₁ hZ e0 X0 hx hby hml hown hnm hret hlk
  replace hml : c.maxLocals = 6 := hml
  have hown : s.vm.findClass "com/example/llave/llave/model/CqlTypeTakesLiteralPinLaw" = some m.cls := hown
  have N0 : Fr n0 [] := Fr.nil n0
  obtain ⟨PP, hPP⟩ : ∃ P, P = Fine s below (Q0 Z p1 p2 K h0 n0) room_1.cells room_1.slots := ⟨_, rfl⟩
  rw [← hPP]
  refine Go.cast (ef_rm0 m p1 p2) ?_
  have Zn : n0 ≤ h0.size := Z0
  show Go p.tables e below PP (s₁.setTop (mkF m 0 #[.val (.int p1), .val (.int p2), .unset, .unset, .unset, .unset] []))
  refine Go.st (fun t k => XS.iloadN X0.here hx rfl (hb hby at_0) rfl k) ?_
  show Go p.tables e below PP (s₁.setTop (mkF m 1 #[.val (.int p1), .val (.int p2), .unset, .unset, .unset, .unset] [(.int p1)]))
  refine Go.st (fun t k => X0.ldcI hx hown (mvT hZ (hw _ (List.mem_of_getElem? (i := 0) rfl))) (g := (mkF m 1 #[.val (.int p1), .val (.int p2), .unset, .unset, .unset, .unset] [(.int p1)])) rfl (hb hby at_1) k) ?_
  show Go p.tables e below PP (s₁.setTop (mkF m 3 #[.val (.int p1), .val (.int p2), .unset, .unset, .unset, .unset] [(.int (2147483647 : Int32)), (.int p1)]))
  refine Go.st (fun t k => XS.iand X0.here hx rfl (hb hby at_3) rfl k) ?_
  show Go p.tables e below PP (s₁.setTop (mkF m 4 #[.val (.int p1), .val (.int p2), .unset, .unset, .unset, .unset] [(.int (p1 &&& (2147483647 : Int32)))]))
  refine Go.st (fun t k => XS.bipush X0.here hx rfl (hb hby at_4) k) ?_
  show Go p.tables e below PP (s₁.setTop (mkF m 6 #[.val (.int p1), .val (.int p2), .unset, .unset, .unset, .unset] [(.int (22 : Int32)), (.int (p1 &&& (2147483647 : Int32)))]))
  refine Go.st (fun t k => iremM X0 hx rfl (hb hby at_6) rfl (by decide) k) ?_
  generalize hi : ((p1 &&& (2147483647 : Int32)) % (22 : Int32)) = i
  show Go p.tables e below PP (s₁.setTop (mkF m 7 #[.val (.int p1), .val (.int p2), .unset, .unset, .unset, .unset] [(.int i)]))
  refine Go.st (fun t k => XS.istoreN X0.here hx rfl (hb hby at_7) rfl (l' := #[.val (.int p1), .val (.int p2), .val (.int i), .unset, .unset, .unset]) rfl k) ?_
  show Go p.tables e below PP (s₁.setTop (mkF m 8 #[.val (.int p1), .val (.int p2), .val (.int i), .unset, .unset, .unset] []))
  refine Go.st (fun t k => XS.iloadN X0.here hx rfl (hb hby at_8) rfl k) ?_
  show Go p.tables e below PP (s₁.setTop (mkF m 9 #[.val (.int p1), .val (.int p2), .val (.int i), .unset, .unset, .unset] [(.int p2)]))
  refine Go.st (fun t k => XS.iconst X0.here hx rfl (hb hby at_9) k) ?_
  show Go p.tables e below PP (s₁.setTop (mkF m 10 #[.val (.int p1), .val (.int p2), .val (.int i), .unset, .unset, .unset] [(.int (1 : Int32)), (.int p2)]))
  refine Go.st (fun t k => XS.iand X0.here hx rfl (hb hby at_10) rfl k) ?_
  show Go p.tables e below PP (s₁.setTop (mkF m 11 #[.val (.int p1), .val (.int p2), .val (.int i), .unset, .unset, .unset] [(.int (p2 &&& (1 : Int32)))]))
  by_cases hc11 : (p2 &&& (1 : Int32)) = (0 : Int32)
  · --
    refine Go.st (fun t k => XS.ifYes X0.here hx rfl (pc0 := 11) (pc' := 18) rfl (hb hby at_11) rfl (XT.i0_eq_t hc11) (by decide) (by decide) k) ?_
    show Go p.tables e below PP (s₁.setTop (mkF m 18 #[.val (.int p1), .val (.int p2), .val (.int i), .unset, .unset, .unset] []))
    refine Go.st (fun t k => XS.iconst X0.here hx rfl (hb hby at_18) k) ?_
    show Go p.tables e below PP (s₁.setTop (mkF m 19 #[.val (.int p1), .val (.int p2), .val (.int i), .unset, .unset, .unset] [(.int (0 : Int32))]))
    refine Go.st (fun t k => XS.istoreN X0.here hx rfl (hb hby at_19) rfl (l' := #[.val (.int p1), .val (.int p2), .val (.int i), .val (.int (0 : Int32)), .unset, .unset]) rfl k) ?_
    show Go p.tables e below PP (s₁.setTop (mkF m 20 #[.val (.int p1), .val (.int p2), .val (.int i), .val (.int (0 : Int32)), .unset, .unset] []))
    refine Go.st (fun t k => XS.iloadN X0.here hx rfl (hb hby at_20) rfl k) ?_
    show Go p.tables e below PP (s₁.setTop (mkF m 21 #[.val (.int p1), .val (.int p2), .val (.int i), .val (.int (0 : Int32)), .unset, .unset] [(.int i)]))
    obtain ⟨v1, T1, L1, X1, hQ1, st1⟩ := callSt X0 hx hZ (y := (⟨"com/example/llave/llave/model/CqlTypeTakesLiteralPinLaw", "kindAt", "(I)Lcom/example/llave/llave/model/CqlType$Kind;"⟩ : MethodName)) (argsL := [(.int i)]) (rest := []) hown (hw _ (List.mem_of_getElem? (i := 1) rfl)) (hw _ (List.mem_of_getElem? (i := 2) rfl)) (hw _ (List.mem_of_getElem? (i := 3) rfl)) (hw _ (List.mem_of_getElem? (i := 4) rfl)) (by decide) (rm1 l Z a0 hw [] i K h0 n0 Zn hK (own_22 _ _ hi)) e0 0 (by decide) (by decide) (by decide) (by decide) (g := (mkF m 21 #[.val (.int p1), .val (.int p2), .val (.int i), .val (.int (0 : Int32)), .unset, .unset] [(.int i)])) rfl (by rw [hml]; rfl) (lenOf pd_0 rfl) rfl (by show 2 * 0 + _ ≤ _; exact Nat.le_of_eq rfl) (hb hby at_21)
    obtain ⟨rfl, rfl, e1⟩ := hQ1
    rw [List.append_nil] at X1
    refine Go.st st1 ?_
    show Go p.tables e below PP (T1.setTop (mkF m 24 #[.val (.int p1), .val (.int p2), .val (.int i), .val (.int (0 : Int32)), .unset, .unset] [(.ref (K i.toNatClampNeg))]))
    have J24 : ∀ (T2 : State) (L2 : List Loc) (ax : Addr) (Cx : String), Stand p l e room_1 s m #[(.int p1), (.int p2)] below meth c T2 L2 0 0 → T2.heap = h0 → Fr n0 L2 → (Exa Z h0 ax Cx ∧ (Jvm.Cond.selects Cx ({ cls := "com/example/llave/llave/model/CqlType$Kind", name := "takesLiteral", desc := "(Z)Z" } : Jvm.MethodName) ({ cls := "com/example/llave/llave/model/CqlType$Kind", name := "takesLiteral", desc := "(Z)Z" } : Jvm.MethodName)).before a0 Z = true ∧ Fld Z h0 ax "com/example/llave/llave/model/CqlType$Kind" "quotedLiteral" "Z" (.int (0 : Int32)) ∧ ax ≠ K 15 ∧ ax ≠ K 0 ∧ ax ≠ K 1 ∧ ax ≠ K 13 ∧ ax ≠ K 16 ∧ ax ≠ K 17) → Go p.tables e below PP (T2.setTop (mkF m 24 #[.val (.int p1), .val (.int p2), .val (.int i), .val (.int (0 : Int32)), .unset, .unset] [(.ref ax)])) := by
      intro T2 L2 ax Cx X2 e2 N2 hJ24
      show Go p.tables e below PP (T2.setTop (mkF m 24 #[.val (.int p1), .val (.int p2), .val (.int i), .val (.int (0 : Int32)), .unset, .unset] [(.ref ax)]))
      refine Go.st (fun t k => XS.astore X2.here hx rfl (hb hby at_24) rfl rfl (l' := #[.val (.int p1), .val (.int p2), .val (.int i), .val (.int (0 : Int32)), .val (.ref ax), .unset]) rfl k) ?_
      show Go p.tables e below PP (T2.setTop (mkF m 26 #[.val (.int p1), .val (.int p2), .val (.int i), .val (.int (0 : Int32)), .val (.ref ax), .unset] []))
      refine Go.st (fun t k => XS.aload X2.here hx rfl (hb hby at_26) rfl rfl k) ?_
      show Go p.tables e below PP (T2.setTop (mkF m 28 #[.val (.int p1), .val (.int p2), .val (.int i), .val (.int (0 : Int32)), .val (.ref ax), .unset] [(.ref ax)]))
      obtain ⟨T3, X3, e3, st3⟩ := getS2 X2 hx hZ hown (host := "") (Or.inl (hw _ (List.mem_of_getElem? (i := 8) rfl))) Via.refl e2 (ks_15 hK).1 (g := (mkF m 28 #[.val (.int p1), .val (.int p2), .val (.int i), .val (.int (0 : Int32)), .val (.ref ax), .unset] [(.ref ax)])) rfl (hb hby at_28)
      refine Go.st st3 ?_
      show Go p.tables e below PP (T3.setTop (mkF m 31 #[.val (.int p1), .val (.int p2), .val (.int i), .val (.int (0 : Int32)), .val (.ref ax), .unset] [(.ref (K 15)), (.ref ax)]))
      refine Go.st (fun t k => Jvm.RoadKit.acmp (g := (mkF m 31 #[.val (.int p1), .val (.int p2), .val (.int i), .val (.int (0 : Int32)), .val (.ref ax), .unset] [(.ref (K 15)), (.ref ax)])) X3 hx rfl rfl rfl (pc0 := 31) (pc' := 40) (same := false) rfl (hb hby at_31) rfl (decide_eq_false fun q => hJ24.2.2.2.1 (Value.ref.inj q)) (by decide) (by decide) k) ?_
      show Go p.tables e below PP (T3.setTop (mkF m 40 #[.val (.int p1), .val (.int p2), .val (.int i), .val (.int (0 : Int32)), .val (.ref ax), .unset] []))
      refine Go.st (fun t k => XS.aload X3.here hx rfl (hb hby at_40) rfl rfl k) ?_
      show Go p.tables e below PP (T3.setTop (mkF m 42 #[.val (.int p1), .val (.int p2), .val (.int i), .val (.int (0 : Int32)), .val (.ref ax), .unset] [(.ref ax)]))
      obtain ⟨T4, X4, e4, st4⟩ := getS2 X3 hx hZ hown (host := "") (Or.inl (hw _ (List.mem_of_getElem? (i := 5) rfl))) Via.refl e3 (ks_0 hK).1 (g := (mkF m 42 #[.val (.int p1), .val (.int p2), .val (.int i), .val (.int (0 : Int32)), .val (.ref ax), .unset] [(.ref ax)])) rfl (hb hby at_42)
      refine Go.st st4 ?_
      show Go p.tables e below PP (T4.setTop (mkF m 45 #[.val (.int p1), .val (.int p2), .val (.int i), .val (.int (0 : Int32)), .val (.ref ax), .unset] [(.ref (K 0)), (.ref ax)]))
      refine Go.st (fun t k => Jvm.RoadKit.acmp (g := (mkF m 45 #[.val (.int p1), .val (.int p2), .val (.int i), .val (.int (0 : Int32)), .val (.ref ax), .unset] [(.ref (K 0)), (.ref ax)])) X4 hx rfl rfl rfl (pc0 := 45) (pc' := 48) (same := false) rfl (hb hby at_45) rfl (decide_eq_false fun q => hJ24.2.2.2.2.1 (Value.ref.inj q)) (by decide) (by decide) k) ?_
      show Go p.tables e below PP (T4.setTop (mkF m 48 #[.val (.int p1), .val (.int p2), .val (.int i), .val (.int (0 : Int32)), .val (.ref ax), .unset] []))
      refine Go.st (fun t k => XS.aload X4.here hx rfl (hb hby at_48) rfl rfl k) ?_
      show Go p.tables e below PP (T4.setTop (mkF m 50 #[.val (.int p1), .val (.int p2), .val (.int i), .val (.int (0 : Int32)), .val (.ref ax), .unset] [(.ref ax)]))
      obtain ⟨T5, X5, e5, st5⟩ := getS2 X4 hx hZ hown (host := "") (Or.inl (hw _ (List.mem_of_getElem? (i := 19) rfl))) Via.refl e4 (ks_1 hK).1 (g := (mkF m 50 #[.val (.int p1), .val (.int p2), .val (.int i), .val (.int (0 : Int32)), .val (.ref ax), .unset] [(.ref ax)])) rfl (hb hby at_50)
      refine Go.st st5 ?_
      show Go p.tables e below PP (T5.setTop (mkF m 53 #[.val (.int p1), .val (.int p2), .val (.int i), .val (.int (0 : Int32)), .val (.ref ax), .unset] [(.ref (K 1)), (.ref ax)]))
      refine Go.st (fun t k => Jvm.RoadKit.acmp (g := (mkF m 53 #[.val (.int p1), .val (.int p2), .val (.int i), .val (.int (0 : Int32)), .val (.ref ax), .unset] [(.ref (K 1)), (.ref ax)])) X5 hx rfl rfl rfl (pc0 := 53) (pc' := 56) (same := false) rfl (hb hby at_53) rfl (decide_eq_false fun q => hJ24.2.2.2.2.2.1 (Value.ref.inj q)) (by decide) (by decide) k) ?_
      show Go p.tables e below PP (T5.setTop (mkF m 56 #[.val (.int p1), .val (.int p2), .val (.int i), .val (.int (0 : Int32)), .val (.ref ax), .unset] []))
      refine Go.st (fun t k => XS.aload X5.here hx rfl (hb hby at_56) rfl rfl k) ?_
      show Go p.tables e below PP (T5.setTop (mkF m 58 #[.val (.int p1), .val (.int p2), .val (.int i), .val (.int (0 : Int32)), .val (.ref ax), .unset] [(.ref ax)]))
      obtain ⟨T6, X6, e6, st6⟩ := getS2 X5 hx hZ hown (host := "") (Or.inl (hw _ (List.mem_of_getElem? (i := 21) rfl))) Via.refl e5 (ks_13 hK).1 (g := (mkF m 58 #[.val (.int p1), .val (.int p2), .val (.int i), .val (.int (0 : Int32)), .val (.ref ax), .unset] [(.ref ax)])) rfl (hb hby at_58)
      refine Go.st st6 ?_
      show Go p.tables e below PP (T6.setTop (mkF m 61 #[.val (.int p1), .val (.int p2), .val (.int i), .val (.int (0 : Int32)), .val (.ref ax), .unset] [(.ref (K 13)), (.ref ax)]))
      refine Go.st (fun t k => Jvm.RoadKit.acmp (g := (mkF m 61 #[.val (.int p1), .val (.int p2), .val (.int i), .val (.int (0 : Int32)), .val (.ref ax), .unset] [(.ref (K 13)), (.ref ax)])) X6 hx rfl rfl rfl (pc0 := 61) (pc' := 64) (same := false) rfl (hb hby at_61) rfl (decide_eq_false fun q => hJ24.2.2.2.2.2.2.1 (Value.ref.inj q)) (by decide) (by decide) k) ?_
      show Go p.tables e below PP (T6.setTop (mkF m 64 #[.val (.int p1), .val (.int p2), .val (.int i), .val (.int (0 : Int32)), .val (.ref ax), .unset] []))
      refine Go.st (fun t k => XS.aload X6.here hx rfl (hb hby at_64) rfl rfl k) ?_
      show Go p.tables e below PP (T6.setTop (mkF m 66 #[.val (.int p1), .val (.int p2), .val (.int i), .val (.int (0 : Int32)), .val (.ref ax), .unset] [(.ref ax)]))
      obtain ⟨T7, X7, e7, st7⟩ := getS2 X6 hx hZ hown (host := "") (Or.inl (hw _ (List.mem_of_getElem? (i := 23) rfl))) Via.refl e6 (ks_16 hK).1 (g := (mkF m 66 #[.val (.int p1), .val (.int p2), .val (.int i), .val (.int (0 : Int32)), .val (.ref ax), .unset] [(.ref ax)])) rfl (hb hby at_66)
      refine Go.st st7 ?_
      show Go p.tables e below PP (T7.setTop (mkF m 69 #[.val (.int p1), .val (.int p2), .val (.int i), .val (.int (0 : Int32)), .val (.ref ax), .unset] [(.ref (K 16)), (.ref ax)]))
      refine Go.st (fun t k => Jvm.RoadKit.acmp (g := (mkF m 69 #[.val (.int p1), .val (.int p2), .val (.int i), .val (.int (0 : Int32)), .val (.ref ax), .unset] [(.ref (K 16)), (.ref ax)])) X7 hx rfl rfl rfl (pc0 := 69) (pc' := 72) (same := false) rfl (hb hby at_69) rfl (decide_eq_false fun q => hJ24.2.2.2.2.2.2.2.1 (Value.ref.inj q)) (by decide) (by decide) k) ?_
      show Go p.tables e below PP (T7.setTop (mkF m 72 #[.val (.int p1), .val (.int p2), .val (.int i), .val (.int (0 : Int32)), .val (.ref ax), .unset] []))
      refine Go.st (fun t k => XS.aload X7.here hx rfl (hb hby at_72) rfl rfl k) ?_
      show Go p.tables e below PP (T7.setTop (mkF m 74 #[.val (.int p1), .val (.int p2), .val (.int i), .val (.int (0 : Int32)), .val (.ref ax), .unset] [(.ref ax)]))
      obtain ⟨T8, X8, e8, st8⟩ := getS2 X7 hx hZ hown (host := "") (Or.inl (hw _ (List.mem_of_getElem? (i := 25) rfl))) Via.refl e7 (ks_17 hK).1 (g := (mkF m 74 #[.val (.int p1), .val (.int p2), .val (.int i), .val (.int (0 : Int32)), .val (.ref ax), .unset] [(.ref ax)])) rfl (hb hby at_74)
      refine Go.st st8 ?_
      show Go p.tables e below PP (T8.setTop (mkF m 77 #[.val (.int p1), .val (.int p2), .val (.int i), .val (.int (0 : Int32)), .val (.ref ax), .unset] [(.ref (K 17)), (.ref ax)]))
      refine Go.st (fun t k => Jvm.RoadKit.acmp (g := (mkF m 77 #[.val (.int p1), .val (.int p2), .val (.int i), .val (.int (0 : Int32)), .val (.ref ax), .unset] [(.ref (K 17)), (.ref ax)])) X8 hx rfl rfl rfl (pc0 := 77) (pc' := 86) (same := false) rfl (hb hby at_77) rfl (decide_eq_false fun q => hJ24.2.2.2.2.2.2.2.2 (Value.ref.inj q)) (by decide) (by decide) k) ?_
      show Go p.tables e below PP (T8.setTop (mkF m 86 #[.val (.int p1), .val (.int p2), .val (.int i), .val (.int (0 : Int32)), .val (.ref ax), .unset] []))
      refine Go.st (fun t k => XS.iloadN X8.here hx rfl (hb hby at_86) rfl k) ?_
      show Go p.tables e below PP (T8.setTop (mkF m 87 #[.val (.int p1), .val (.int p2), .val (.int i), .val (.int (0 : Int32)), .val (.ref ax), .unset] [(.int (0 : Int32))]))
      refine Go.st (fun t k => XS.ifNo X8.here hx rfl (hb hby at_87) rfl (XT.i0_ne_f (by decide)) k) ?_
      show Go p.tables e below PP (T8.setTop (mkF m 90 #[.val (.int p1), .val (.int p2), .val (.int i), .val (.int (0 : Int32)), .val (.ref ax), .unset] []))
      refine Go.st (fun t k => XS.iconst X8.here hx rfl (hb hby at_90) k) ?_
      show Go p.tables e below PP (T8.setTop (mkF m 91 #[.val (.int p1), .val (.int p2), .val (.int i), .val (.int (0 : Int32)), .val (.ref ax), .unset] [(.int (1 : Int32))]))
      refine Go.st (fun t k => XS.goto X8.here hx rfl (pc0 := 91) (pc' := 95) rfl (hb hby at_91) (by decide) (by decide) k) ?_
      show Go p.tables e below PP (T8.setTop (mkF m 95 #[.val (.int p1), .val (.int p2), .val (.int i), .val (.int (0 : Int32)), .val (.ref ax), .unset] [(.int (1 : Int32))]))
      refine Go.st (fun t k => XS.istore X8.here hx rfl (hb hby at_95) rfl (l' := #[.val (.int p1), .val (.int p2), .val (.int i), .val (.int (0 : Int32)), .val (.ref ax), .val (.int (1 : Int32))]) rfl k) ?_
      show Go p.tables e below PP (T8.setTop (mkF m 97 #[.val (.int p1), .val (.int p2), .val (.int i), .val (.int (0 : Int32)), .val (.ref ax), .val (.int (1 : Int32))] []))
      refine Go.st (fun t k => XS.aload X8.here hx rfl (hb hby at_97) rfl rfl k) ?_
      show Go p.tables e below PP (T8.setTop (mkF m 99 #[.val (.int p1), .val (.int p2), .val (.int i), .val (.int (0 : Int32)), .val (.ref ax), .val (.int (1 : Int32))] [(.ref ax)]))
      refine Go.st (fun t k => XS.iloadN X8.here hx rfl (hb hby at_99) rfl k) ?_
      show Go p.tables e below PP (T8.setTop (mkF m 100 #[.val (.int p1), .val (.int p2), .val (.int i), .val (.int (0 : Int32)), .val (.ref ax), .val (.int (1 : Int32))] [(.int (0 : Int32)), (.ref ax)]))
      obtain ⟨v9, T9, L9, X9, hQ9, st9⟩ := callVi X8 hx hZ (C := Cx) (y := (⟨"com/example/llave/llave/model/CqlType$Kind", "takesLiteral", "(Z)Z"⟩ : MethodName)) (z := (⟨"com/example/llave/llave/model/CqlType$Kind", "takesLiteral", "(Z)Z"⟩ : MethodName)) (a := ax) (argsL := [(.int (0 : Int32))]) (rest := []) hown (hw _ (List.mem_of_getElem? (i := 10) rfl)) (hw _ (List.mem_of_getElem? (i := 11) rfl)) (notFace_of_selects (args := #[]) (mvT hZ (hw _ (List.mem_of_getElem? (i := 13) rfl)))) hJ24.2.1 (hw _ (List.mem_of_getElem? (i := 12) rfl)) (hw _ (List.mem_of_getElem? (i := 6) rfl)) (hw _ (List.mem_of_getElem? (i := 14) rfl)) (by decide) rfl hJ24.1 (rm2 l Z a0 hw [] ax (0 : Int32) (0 : Int32) h0 n0 Zn hJ24.2.2.1) e8 0 (by decide) (by decide) (by decide) (by decide) (g := (mkF m 100 #[.val (.int p1), .val (.int p2), .val (.int i), .val (.int (0 : Int32)), .val (.ref ax), .val (.int (1 : Int32))] [(.int (0 : Int32)), (.ref ax)])) rfl (by rw [hml]; rfl) (lenOf pd_1 rfl) rfl (by show 2 * 0 + _ ≤ _; exact Nat.le_of_eq rfl) (hb hby at_100)
      obtain ⟨rfl, rfl, e9⟩ := hQ9
      rw [List.append_nil] at X9
      refine Go.st st9 ?_
      show Go p.tables e below PP (T9.setTop (mkF m 103 #[.val (.int p1), .val (.int p2), .val (.int i), .val (.int (0 : Int32)), .val (.ref ax), .val (.int (1 : Int32))] [(.int (bi ((0 : Int32) = (0 : Int32))))]))
      refine Go.st (fun t k => XS.iload X9.here hx rfl (hb hby at_103) rfl k) ?_
      show Go p.tables e below PP (T9.setTop (mkF m 105 #[.val (.int p1), .val (.int p2), .val (.int i), .val (.int (0 : Int32)), .val (.ref ax), .val (.int (1 : Int32))] [(.int (1 : Int32)), (.int (bi ((0 : Int32) = (0 : Int32))))]))
      refine Go.st (fun t k => XS.icmpNo X9.here hx rfl (hb hby at_105) rfl (XT.ii_ne_f (by decide)) k) ?_
      show Go p.tables e below PP (T9.setTop (mkF m 108 #[.val (.int p1), .val (.int p2), .val (.int i), .val (.int (0 : Int32)), .val (.ref ax), .val (.int (1 : Int32))] []))
      refine Go.st (fun t k => XS.iconst X9.here hx rfl (hb hby at_108) k) ?_
      show Go p.tables e below PP (T9.setTop (mkF m 109 #[.val (.int p1), .val (.int p2), .val (.int i), .val (.int (0 : Int32)), .val (.ref ax), .val (.int (1 : Int32))] [(.int (1 : Int32))]))
      refine Go.st (fun t k => XS.goto X9.here hx rfl (pc0 := 109) (pc' := 113) rfl (hb hby at_109) (by decide) (by decide) k) ?_
      show Go p.tables e below PP (T9.setTop (mkF m 113 #[.val (.int p1), .val (.int p2), .val (.int i), .val (.int (0 : Int32)), .val (.ref ax), .val (.int (1 : Int32))] [(.int (1 : Int32))]))
      rw [hPP]
      refine endN X9 hx hlk (t := .boolean) hret (by simp) (hb hby at_113) (w := (1 : Int32)) (rfl) ?_ (by decide) (by decide)
      show Q0 Z p1 p2 K h0 n0 (some (.int (1 : Int32))) T9.heap _
      rw [e9]
      exact ⟨rfl, N2⟩
    rcases own_22 _ _ hi with hj | hj | hj | hj | hj | hj | hj | hj | hj | hj | hj | hj | hj | hj | hj | hj | hj | hj | hj | hj | hj | hj
    · --
      subst hj
      show Go p.tables e below PP (T1.setTop (mkF m 24 #[.val (.int p1), .val (.int p2), .val (.int (0 : Int32)), .val (.int (0 : Int32)), .unset, .unset] [(.ref (K 0))]))
      refine Go.st (fun t k => XS.astore X1.here hx rfl (hb hby at_24) rfl rfl (l' := #[.val (.int p1), .val (.int p2), .val (.int (0 : Int32)), .val (.int (0 : Int32)), .val (.ref (K 0)), .unset]) rfl k) ?_
      show Go p.tables e below PP (T1.setTop (mkF m 26 #[.val (.int p1), .val (.int p2), .val (.int (0 : Int32)), .val (.int (0 : Int32)), .val (.ref (K 0)), .unset] []))
      refine Go.st (fun t k => XS.aload X1.here hx rfl (hb hby at_26) rfl rfl k) ?_
      show Go p.tables e below PP (T1.setTop (mkF m 28 #[.val (.int p1), .val (.int p2), .val (.int (0 : Int32)), .val (.int (0 : Int32)), .val (.ref (K 0)), .unset] [(.ref (K 0))]))
      obtain ⟨T10, X10, e10, st10⟩ := getS2 X1 hx hZ hown (host := "") (Or.inl (hw _ (List.mem_of_getElem? (i := 8) rfl))) Via.refl e1 (ks_15 hK).1 (g := (mkF m 28 #[.val (.int p1), .val (.int p2), .val (.int (0 : Int32)), .val (.int (0 : Int32)), .val (.ref (K 0)), .unset] [(.ref (K 0))])) rfl (hb hby at_28)
      refine Go.st st10 ?_
      show Go p.tables e below PP (T10.setTop (mkF m 31 #[.val (.int p1), .val (.int p2), .val (.int (0 : Int32)), .val (.int (0 : Int32)), .val (.ref (K 0)), .unset] [(.ref (K 15)), (.ref (K 0))]))
      refine Go.st (fun t k => Jvm.RoadKit.acmp (g := (mkF m 31 #[.val (.int p1), .val (.int p2), .val (.int (0 : Int32)), .val (.int (0 : Int32)), .val (.ref (K 0)), .unset] [(.ref (K 15)), (.ref (K 0))])) X10 hx rfl rfl rfl (pc0 := 31) (pc' := 40) (same := false) rfl (hb hby at_31) rfl (decide_eq_false fun q => (ne_exa (ks_0 hK).2.1 (ks_15 hK).2.1 (by decide)) (Value.ref.inj q)) (by decide) (by decide) k) ?_
      show Go p.tables e below PP (T10.setTop (mkF m 40 #[.val (.int p1), .val (.int p2), .val (.int (0 : Int32)), .val (.int (0 : Int32)), .val (.ref (K 0)), .unset] []))
      refine Go.st (fun t k => XS.aload X10.here hx rfl (hb hby at_40) rfl rfl k) ?_
      show Go p.tables e below PP (T10.setTop (mkF m 42 #[.val (.int p1), .val (.int p2), .val (.int (0 : Int32)), .val (.int (0 : Int32)), .val (.ref (K 0)), .unset] [(.ref (K 0))]))
      obtain ⟨T11, X11, e11, st11⟩ := getS2 X10 hx hZ hown (host := "") (Or.inl (hw _ (List.mem_of_getElem? (i := 5) rfl))) Via.refl e10 (ks_0 hK).1 (g := (mkF m 42 #[.val (.int p1), .val (.int p2), .val (.int (0 : Int32)), .val (.int (0 : Int32)), .val (.ref (K 0)), .unset] [(.ref (K 0))])) rfl (hb hby at_42)
      refine Go.st st11 ?_
      show Go p.tables e below PP (T11.setTop (mkF m 45 #[.val (.int p1), .val (.int p2), .val (.int (0 : Int32)), .val (.int (0 : Int32)), .val (.ref (K 0)), .unset] [(.ref (K 0)), (.ref (K 0))]))
      refine Go.st (fun t k => Jvm.RoadKit.acmp (g := (mkF m 45 #[.val (.int p1), .val (.int p2), .val (.int (0 : Int32)), .val (.int (0 : Int32)), .val (.ref (K 0)), .unset] [(.ref (K 0)), (.ref (K 0))])) X11 hx rfl rfl rfl (pc0 := 45) (pc' := 80) (same := true) rfl (hb hby at_45) rfl (decide_eq_true rfl) (by decide) (by decide) k) ?_
      show Go p.tables e below PP (T11.setTop (mkF m 80 #[.val (.int p1), .val (.int p2), .val (.int (0 : Int32)), .val (.int (0 : Int32)), .val (.ref (K 0)), .unset] []))
      refine Go.st (fun t k => XS.iloadN X11.here hx rfl (hb hby at_80) rfl k) ?_
      show Go p.tables e below PP (T11.setTop (mkF m 81 #[.val (.int p1), .val (.int p2), .val (.int (0 : Int32)), .val (.int (0 : Int32)), .val (.ref (K 0)), .unset] [(.int (0 : Int32))]))
      refine Go.st (fun t k => XS.istore X11.here hx rfl (hb hby at_81) rfl (l' := #[.val (.int p1), .val (.int p2), .val (.int (0 : Int32)), .val (.int (0 : Int32)), .val (.ref (K 0)), .val (.int (0 : Int32))]) rfl k) ?_
      show Go p.tables e below PP (T11.setTop (mkF m 83 #[.val (.int p1), .val (.int p2), .val (.int (0 : Int32)), .val (.int (0 : Int32)), .val (.ref (K 0)), .val (.int (0 : Int32))] []))
      refine Go.st (fun t k => XS.goto X11.here hx rfl (pc0 := 83) (pc' := 97) rfl (hb hby at_83) (by decide) (by decide) k) ?_
      show Go p.tables e below PP (T11.setTop (mkF m 97 #[.val (.int p1), .val (.int p2), .val (.int (0 : Int32)), .val (.int (0 : Int32)), .val (.ref (K 0)), .val (.int (0 : Int32))] []))
      refine Go.st (fun t k => XS.aload X11.here hx rfl (hb hby at_97) rfl rfl k) ?_
      show Go p.tables e below PP (T11.setTop (mkF m 99 #[.val (.int p1), .val (.int p2), .val (.int (0 : Int32)), .val (.int (0 : Int32)), .val (.ref (K 0)), .val (.int (0 : Int32))] [(.ref (K 0))]))
      refine Go.st (fun t k => XS.iloadN X11.here hx rfl (hb hby at_99) rfl k) ?_
      show Go p.tables e below PP (T11.setTop (mkF m 100 #[.val (.int p1), .val (.int p2), .val (.int (0 : Int32)), .val (.int (0 : Int32)), .val (.ref (K 0)), .val (.int (0 : Int32))] [(.int (0 : Int32)), (.ref (K 0))]))
      obtain ⟨v12, T12, L12, X12, hQ12, st12⟩ := callVi X11 hx hZ (C := "com/example/llave/llave/model/CqlType$Kind$1") (y := (⟨"com/example/llave/llave/model/CqlType$Kind", "takesLiteral", "(Z)Z"⟩ : MethodName)) (z := (⟨"com/example/llave/llave/model/CqlType$Kind", "takesLiteral", "(Z)Z"⟩ : MethodName)) (a := (K 0)) (argsL := [(.int (0 : Int32))]) (rest := []) hown (hw _ (List.mem_of_getElem? (i := 10) rfl)) (hw _ (List.mem_of_getElem? (i := 11) rfl)) (notFace_of_selects (args := #[]) (mvT hZ (hw _ (List.mem_of_getElem? (i := 13) rfl)))) (hw _ (List.mem_of_getElem? (i := 13) rfl)) (hw _ (List.mem_of_getElem? (i := 12) rfl)) (hw _ (List.mem_of_getElem? (i := 6) rfl)) (hw _ (List.mem_of_getElem? (i := 14) rfl)) (by decide) rfl (ks_0 hK).2.1 (rm2 l Z a0 hw [] (K 0) (0 : Int32) (1 : Int32) h0 n0 Zn (ks_0 hK).2.2) e11 0 (by decide) (by decide) (by decide) (by decide) (g := (mkF m 100 #[.val (.int p1), .val (.int p2), .val (.int (0 : Int32)), .val (.int (0 : Int32)), .val (.ref (K 0)), .val (.int (0 : Int32))] [(.int (0 : Int32)), (.ref (K 0))])) rfl (by rw [hml]; rfl) (lenOf pd_1 rfl) rfl (by show 2 * 0 + _ ≤ _; exact Nat.le_of_eq rfl) (hb hby at_100)
      obtain ⟨rfl, rfl, e12⟩ := hQ12
      rw [List.append_nil] at X12
      refine Go.st st12 ?_
      show Go p.tables e below PP (T12.setTop (mkF m 103 #[.val (.int p1), .val (.int p2), .val (.int (0 : Int32)), .val (.int (0 : Int32)), .val (.ref (K 0)), .val (.int (0 : Int32))] [(.int (bi ((0 : Int32) = (1 : Int32))))]))
      refine Go.st (fun t k => XS.iload X12.here hx rfl (hb hby at_103) rfl k) ?_
      show Go p.tables e below PP (T12.setTop (mkF m 105 #[.val (.int p1), .val (.int p2), .val (.int (0 : Int32)), .val (.int (0 : Int32)), .val (.ref (K 0)), .val (.int (0 : Int32))] [(.int (0 : Int32)), (.int (bi ((0 : Int32) = (1 : Int32))))]))
      refine Go.st (fun t k => XS.icmpNo X12.here hx rfl (hb hby at_105) rfl (XT.ii_ne_f (by decide)) k) ?_
      show Go p.tables e below PP (T12.setTop (mkF m 108 #[.val (.int p1), .val (.int p2), .val (.int (0 : Int32)), .val (.int (0 : Int32)), .val (.ref (K 0)), .val (.int (0 : Int32))] []))
      refine Go.st (fun t k => XS.iconst X12.here hx rfl (hb hby at_108) k) ?_
      show Go p.tables e below PP (T12.setTop (mkF m 109 #[.val (.int p1), .val (.int p2), .val (.int (0 : Int32)), .val (.int (0 : Int32)), .val (.ref (K 0)), .val (.int (0 : Int32))] [(.int (1 : Int32))]))
      refine Go.st (fun t k => XS.goto X12.here hx rfl (pc0 := 109) (pc' := 113) rfl (hb hby at_109) (by decide) (by decide) k) ?_
      show Go p.tables e below PP (T12.setTop (mkF m 113 #[.val (.int p1), .val (.int p2), .val (.int (0 : Int32)), .val (.int (0 : Int32)), .val (.ref (K 0)), .val (.int (0 : Int32))] [(.int (1 : Int32))]))
      rw [hPP]
      refine endN X12 hx hlk (t := .boolean) hret (by simp) (hb hby at_113) (w := (1 : Int32)) (rfl) ?_ (by decide) (by decide)
      show Q0 Z p1 p2 K h0 n0 (some (.int (1 : Int32))) T12.heap _
      rw [e12]
      exact ⟨rfl, N0⟩
    · --
      subst hj
      show Go p.tables e below PP (T1.setTop (mkF m 24 #[.val (.int p1), .val (.int p2), .val (.int (1 : Int32)), .val (.int (0 : Int32)), .unset, .unset] [(.ref (K 1))]))
      refine Go.st (fun t k => XS.astore X1.here hx rfl (hb hby at_24) rfl rfl (l' := #[.val (.int p1), .val (.int p2), .val (.int (1 : Int32)), .val (.int (0 : Int32)), .val (.ref (K 1)), .unset]) rfl k) ?_
      show Go p.tables e below PP (T1.setTop (mkF m 26 #[.val (.int p1), .val (.int p2), .val (.int (1 : Int32)), .val (.int (0 : Int32)), .val (.ref (K 1)), .unset] []))
      refine Go.st (fun t k => XS.aload X1.here hx rfl (hb hby at_26) rfl rfl k) ?_
      show Go p.tables e below PP (T1.setTop (mkF m 28 #[.val (.int p1), .val (.int p2), .val (.int (1 : Int32)), .val (.int (0 : Int32)), .val (.ref (K 1)), .unset] [(.ref (K 1))]))
      obtain ⟨T13, X13, e13, st13⟩ := getS2 X1 hx hZ hown (host := "") (Or.inl (hw _ (List.mem_of_getElem? (i := 8) rfl))) Via.refl e1 (ks_15 hK).1 (g := (mkF m 28 #[.val (.int p1), .val (.int p2), .val (.int (1 : Int32)), .val (.int (0 : Int32)), .val (.ref (K 1)), .unset] [(.ref (K 1))])) rfl (hb hby at_28)
      refine Go.st st13 ?_
      show Go p.tables e below PP (T13.setTop (mkF m 31 #[.val (.int p1), .val (.int p2), .val (.int (1 : Int32)), .val (.int (0 : Int32)), .val (.ref (K 1)), .unset] [(.ref (K 15)), (.ref (K 1))]))
      refine Go.st (fun t k => Jvm.RoadKit.acmp (g := (mkF m 31 #[.val (.int p1), .val (.int p2), .val (.int (1 : Int32)), .val (.int (0 : Int32)), .val (.ref (K 1)), .unset] [(.ref (K 15)), (.ref (K 1))])) X13 hx rfl rfl rfl (pc0 := 31) (pc' := 40) (same := false) rfl (hb hby at_31) rfl (decide_eq_false fun q => (ne_exa (ks_1 hK).2.1 (ks_15 hK).2.1 (by decide)) (Value.ref.inj q)) (by decide) (by decide) k) ?_
      show Go p.tables e below PP (T13.setTop (mkF m 40 #[.val (.int p1), .val (.int p2), .val (.int (1 : Int32)), .val (.int (0 : Int32)), .val (.ref (K 1)), .unset] []))
      refine Go.st (fun t k => XS.aload X13.here hx rfl (hb hby at_40) rfl rfl k) ?_
      show Go p.tables e below PP (T13.setTop (mkF m 42 #[.val (.int p1), .val (.int p2), .val (.int (1 : Int32)), .val (.int (0 : Int32)), .val (.ref (K 1)), .unset] [(.ref (K 1))]))
      obtain ⟨T14, X14, e14, st14⟩ := getS2 X13 hx hZ hown (host := "") (Or.inl (hw _ (List.mem_of_getElem? (i := 5) rfl))) Via.refl e13 (ks_0 hK).1 (g := (mkF m 42 #[.val (.int p1), .val (.int p2), .val (.int (1 : Int32)), .val (.int (0 : Int32)), .val (.ref (K 1)), .unset] [(.ref (K 1))])) rfl (hb hby at_42)
      refine Go.st st14 ?_
      show Go p.tables e below PP (T14.setTop (mkF m 45 #[.val (.int p1), .val (.int p2), .val (.int (1 : Int32)), .val (.int (0 : Int32)), .val (.ref (K 1)), .unset] [(.ref (K 0)), (.ref (K 1))]))
      refine Go.st (fun t k => Jvm.RoadKit.acmp (g := (mkF m 45 #[.val (.int p1), .val (.int p2), .val (.int (1 : Int32)), .val (.int (0 : Int32)), .val (.ref (K 1)), .unset] [(.ref (K 0)), (.ref (K 1))])) X14 hx rfl rfl rfl (pc0 := 45) (pc' := 48) (same := false) rfl (hb hby at_45) rfl (decide_eq_false fun q => (ne_exa (ks_1 hK).2.1 (ks_0 hK).2.1 (by decide)) (Value.ref.inj q)) (by decide) (by decide) k) ?_
      show Go p.tables e below PP (T14.setTop (mkF m 48 #[.val (.int p1), .val (.int p2), .val (.int (1 : Int32)), .val (.int (0 : Int32)), .val (.ref (K 1)), .unset] []))
      refine Go.st (fun t k => XS.aload X14.here hx rfl (hb hby at_48) rfl rfl k) ?_
      show Go p.tables e below PP (T14.setTop (mkF m 50 #[.val (.int p1), .val (.int p2), .val (.int (1 : Int32)), .val (.int (0 : Int32)), .val (.ref (K 1)), .unset] [(.ref (K 1))]))
      obtain ⟨T15, X15, e15, st15⟩ := getS2 X14 hx hZ hown (host := "") (Or.inl (hw _ (List.mem_of_getElem? (i := 19) rfl))) Via.refl e14 (ks_1 hK).1 (g := (mkF m 50 #[.val (.int p1), .val (.int p2), .val (.int (1 : Int32)), .val (.int (0 : Int32)), .val (.ref (K 1)), .unset] [(.ref (K 1))])) rfl (hb hby at_50)
      refine Go.st st15 ?_
      show Go p.tables e below PP (T15.setTop (mkF m 53 #[.val (.int p1), .val (.int p2), .val (.int (1 : Int32)), .val (.int (0 : Int32)), .val (.ref (K 1)), .unset] [(.ref (K 1)), (.ref (K 1))]))
      refine Go.st (fun t k => Jvm.RoadKit.acmp (g := (mkF m 53 #[.val (.int p1), .val (.int p2), .val (.int (1 : Int32)), .val (.int (0 : Int32)), .val (.ref (K 1)), .unset] [(.ref (K 1)), (.ref (K 1))])) X15 hx rfl rfl rfl (pc0 := 53) (pc' := 80) (same := true) rfl (hb hby at_53) rfl (decide_eq_true rfl) (by decide) (by decide) k) ?_
      show Go p.tables e below PP (T15.setTop (mkF m 80 #[.val (.int p1), .val (.int p2), .val (.int (1 : Int32)), .val (.int (0 : Int32)), .val (.ref (K 1)), .unset] []))
      refine Go.st (fun t k => XS.iloadN X15.here hx rfl (hb hby at_80) rfl k) ?_
      show Go p.tables e below PP (T15.setTop (mkF m 81 #[.val (.int p1), .val (.int p2), .val (.int (1 : Int32)), .val (.int (0 : Int32)), .val (.ref (K 1)), .unset] [(.int (0 : Int32))]))
      refine Go.st (fun t k => XS.istore X15.here hx rfl (hb hby at_81) rfl (l' := #[.val (.int p1), .val (.int p2), .val (.int (1 : Int32)), .val (.int (0 : Int32)), .val (.ref (K 1)), .val (.int (0 : Int32))]) rfl k) ?_
      show Go p.tables e below PP (T15.setTop (mkF m 83 #[.val (.int p1), .val (.int p2), .val (.int (1 : Int32)), .val (.int (0 : Int32)), .val (.ref (K 1)), .val (.int (0 : Int32))] []))
      refine Go.st (fun t k => XS.goto X15.here hx rfl (pc0 := 83) (pc' := 97) rfl (hb hby at_83) (by decide) (by decide) k) ?_
      show Go p.tables e below PP (T15.setTop (mkF m 97 #[.val (.int p1), .val (.int p2), .val (.int (1 : Int32)), .val (.int (0 : Int32)), .val (.ref (K 1)), .val (.int (0 : Int32))] []))
      refine Go.st (fun t k => XS.aload X15.here hx rfl (hb hby at_97) rfl rfl k) ?_
      show Go p.tables e below PP (T15.setTop (mkF m 99 #[.val (.int p1), .val (.int p2), .val (.int (1 : Int32)), .val (.int (0 : Int32)), .val (.ref (K 1)), .val (.int (0 : Int32))] [(.ref (K 1))]))
      refine Go.st (fun t k => XS.iloadN X15.here hx rfl (hb hby at_99) rfl k) ?_
      show Go p.tables e below PP (T15.setTop (mkF m 100 #[.val (.int p1), .val (.int p2), .val (.int (1 : Int32)), .val (.int (0 : Int32)), .val (.ref (K 1)), .val (.int (0 : Int32))] [(.int (0 : Int32)), (.ref (K 1))]))
      obtain ⟨v16, T16, L16, X16, hQ16, st16⟩ := callVi X15 hx hZ (C := "com/example/llave/llave/model/CqlType$Kind$2") (y := (⟨"com/example/llave/llave/model/CqlType$Kind", "takesLiteral", "(Z)Z"⟩ : MethodName)) (z := (⟨"com/example/llave/llave/model/CqlType$Kind", "takesLiteral", "(Z)Z"⟩ : MethodName)) (a := (K 1)) (argsL := [(.int (0 : Int32))]) (rest := []) hown (hw _ (List.mem_of_getElem? (i := 10) rfl)) (hw _ (List.mem_of_getElem? (i := 11) rfl)) (notFace_of_selects (args := #[]) (mvT hZ (hw _ (List.mem_of_getElem? (i := 63) rfl)))) (hw _ (List.mem_of_getElem? (i := 63) rfl)) (hw _ (List.mem_of_getElem? (i := 12) rfl)) (hw _ (List.mem_of_getElem? (i := 6) rfl)) (hw _ (List.mem_of_getElem? (i := 14) rfl)) (by decide) rfl (ks_1 hK).2.1 (rm2 l Z a0 hw [] (K 1) (0 : Int32) (1 : Int32) h0 n0 Zn (ks_1 hK).2.2) e15 0 (by decide) (by decide) (by decide) (by decide) (g := (mkF m 100 #[.val (.int p1), .val (.int p2), .val (.int (1 : Int32)), .val (.int (0 : Int32)), .val (.ref (K 1)), .val (.int (0 : Int32))] [(.int (0 : Int32)), (.ref (K 1))])) rfl (by rw [hml]; rfl) (lenOf pd_1 rfl) rfl (by show 2 * 0 + _ ≤ _; exact Nat.le_of_eq rfl) (hb hby at_100)
      obtain ⟨rfl, rfl, e16⟩ := hQ16
      rw [List.append_nil] at X16
      refine Go.st st16 ?_
      show Go p.tables e below PP (T16.setTop (mkF m 103 #[.val (.int p1), .val (.int p2), .val (.int (1 : Int32)), .val (.int (0 : Int32)), .val (.ref (K 1)), .val (.int (0 : Int32))] [(.int (bi ((0 : Int32) = (1 : Int32))))]))
      refine Go.st (fun t k => XS.iload X16.here hx rfl (hb hby at_103) rfl k) ?_
      show Go p.tables e below PP (T16.setTop (mkF m 105 #[.val (.int p1), .val (.int p2), .val (.int (1 : Int32)), .val (.int (0 : Int32)), .val (.ref (K 1)), .val (.int (0 : Int32))] [(.int (0 : Int32)), (.int (bi ((0 : Int32) = (1 : Int32))))]))
      refine Go.st (fun t k => XS.icmpNo X16.here hx rfl (hb hby at_105) rfl (XT.ii_ne_f (by decide)) k) ?_
      show Go p.tables e below PP (T16.setTop (mkF m 108 #[.val (.int p1), .val (.int p2), .val (.int (1 : Int32)), .val (.int (0 : Int32)), .val (.ref (K 1)), .val (.int (0 : Int32))] []))
      refine Go.st (fun t k => XS.iconst X16.here hx rfl (hb hby at_108) k) ?_
      show Go p.tables e below PP (T16.setTop (mkF m 109 #[.val (.int p1), .val (.int p2), .val (.int (1 : Int32)), .val (.int (0 : Int32)), .val (.ref (K 1)), .val (.int (0 : Int32))] [(.int (1 : Int32))]))
      refine Go.st (fun t k => XS.goto X16.here hx rfl (pc0 := 109) (pc' := 113) rfl (hb hby at_109) (by decide) (by decide) k) ?_
      show Go p.tables e below PP (T16.setTop (mkF m 113 #[.val (.int p1), .val (.int p2), .val (.int (1 : Int32)), .val (.int (0 : Int32)), .val (.ref (K 1)), .val (.int (0 : Int32))] [(.int (1 : Int32))]))
      rw [hPP]
      refine endN X16 hx hlk (t := .boolean) hret (by simp) (hb hby at_113) (w := (1 : Int32)) (rfl) ?_ (by decide) (by decide)
      show Q0 Z p1 p2 K h0 n0 (some (.int (1 : Int32))) T16.heap _
      rw [e16]
      exact ⟨rfl, N0⟩
    · --
      subst hj
      show Go p.tables e below PP (T1.setTop (mkF m 24 #[.val (.int p1), .val (.int p2), .val (.int (2 : Int32)), .val (.int (0 : Int32)), .unset, .unset] [(.ref (K 2))]))
      exact J24 _ _ _ _ X1 e1 N0 ⟨(ks_2 hK).2.1, (hw _ (List.mem_of_getElem? (i := 67) rfl)), (ks_2 hK).2.2, ne_exa (ks_2 hK).2.1 (ks_15 hK).2.1 (by decide), ne_exa (ks_2 hK).2.1 (ks_0 hK).2.1 (by decide), ne_exa (ks_2 hK).2.1 (ks_1 hK).2.1 (by decide), ne_exa (ks_2 hK).2.1 (ks_13 hK).2.1 (by decide), ne_exa (ks_2 hK).2.1 (ks_16 hK).2.1 (by decide), ne_exa (ks_2 hK).2.1 (ks_17 hK).2.1 (by decide)⟩
    · --
      subst hj
      show Go p.tables e below PP (T1.setTop (mkF m 24 #[.val (.int p1), .val (.int p2), .val (.int (3 : Int32)), .val (.int (0 : Int32)), .unset, .unset] [(.ref (K 3))]))
      exact J24 _ _ _ _ X1 e1 N0 ⟨(ks_3 hK).2.1, (hw _ (List.mem_of_getElem? (i := 55) rfl)), (ks_3 hK).2.2, ne_exa (ks_3 hK).2.1 (ks_15 hK).2.1 (by decide), ne_exa (ks_3 hK).2.1 (ks_0 hK).2.1 (by decide), ne_exa (ks_3 hK).2.1 (ks_1 hK).2.1 (by decide), ne_exa (ks_3 hK).2.1 (ks_13 hK).2.1 (by decide), ne_exa (ks_3 hK).2.1 (ks_16 hK).2.1 (by decide), ne_exa (ks_3 hK).2.1 (ks_17 hK).2.1 (by decide)⟩
    · --
      subst hj
      show Go p.tables e below PP (T1.setTop (mkF m 24 #[.val (.int p1), .val (.int p2), .val (.int (4 : Int32)), .val (.int (0 : Int32)), .unset, .unset] [(.ref (K 4))]))
      exact J24 _ _ _ _ X1 e1 N0 ⟨(ks_4 hK).2.1, (hw _ (List.mem_of_getElem? (i := 89) rfl)), (ks_4 hK).2.2, ne_exa (ks_4 hK).2.1 (ks_15 hK).2.1 (by decide), ne_exa (ks_4 hK).2.1 (ks_0 hK).2.1 (by decide), ne_exa (ks_4 hK).2.1 (ks_1 hK).2.1 (by decide), ne_exa (ks_4 hK).2.1 (ks_13 hK).2.1 (by decide), ne_exa (ks_4 hK).2.1 (ks_16 hK).2.1 (by decide), ne_exa (ks_4 hK).2.1 (ks_17 hK).2.1 (by decide)⟩
    · --
      subst hj
      show Go p.tables e below PP (T1.setTop (mkF m 24 #[.val (.int p1), .val (.int p2), .val (.int (5 : Int32)), .val (.int (0 : Int32)), .unset, .unset] [(.ref (K 5))]))
      exact J24 _ _ _ _ X1 e1 N0 ⟨(ks_5 hK).2.1, (hw _ (List.mem_of_getElem? (i := 35) rfl)), (ks_5 hK).2.2, ne_exa (ks_5 hK).2.1 (ks_15 hK).2.1 (by decide), ne_exa (ks_5 hK).2.1 (ks_0 hK).2.1 (by decide), ne_exa (ks_5 hK).2.1 (ks_1 hK).2.1 (by decide), ne_exa (ks_5 hK).2.1 (ks_13 hK).2.1 (by decide), ne_exa (ks_5 hK).2.1 (ks_16 hK).2.1 (by decide), ne_exa (ks_5 hK).2.1 (ks_17 hK).2.1 (by decide)⟩
    · --
      subst hj
      show Go p.tables e below PP (T1.setTop (mkF m 24 #[.val (.int p1), .val (.int p2), .val (.int (6 : Int32)), .val (.int (0 : Int32)), .unset, .unset] [(.ref (K 6))]))
      exact J24 _ _ _ _ X1 e1 N0 ⟨(ks_6 hK).2.1, (hw _ (List.mem_of_getElem? (i := 39) rfl)), (ks_6 hK).2.2, ne_exa (ks_6 hK).2.1 (ks_15 hK).2.1 (by decide), ne_exa (ks_6 hK).2.1 (ks_0 hK).2.1 (by decide), ne_exa (ks_6 hK).2.1 (ks_1 hK).2.1 (by decide), ne_exa (ks_6 hK).2.1 (ks_13 hK).2.1 (by decide), ne_exa (ks_6 hK).2.1 (ks_16 hK).2.1 (by decide), ne_exa (ks_6 hK).2.1 (ks_17 hK).2.1 (by decide)⟩
    · --
      subst hj
      show Go p.tables e below PP (T1.setTop (mkF m 24 #[.val (.int p1), .val (.int p2), .val (.int (7 : Int32)), .val (.int (0 : Int32)), .unset, .unset] [(.ref (K 7))]))
      exact J24 _ _ _ _ X1 e1 N0 ⟨(ks_7 hK).2.1, (hw _ (List.mem_of_getElem? (i := 85) rfl)), (ks_7 hK).2.2, ne_exa (ks_7 hK).2.1 (ks_15 hK).2.1 (by decide), ne_exa (ks_7 hK).2.1 (ks_0 hK).2.1 (by decide), ne_exa (ks_7 hK).2.1 (ks_1 hK).2.1 (by decide), ne_exa (ks_7 hK).2.1 (ks_13 hK).2.1 (by decide), ne_exa (ks_7 hK).2.1 (ks_16 hK).2.1 (by decide), ne_exa (ks_7 hK).2.1 (ks_17 hK).2.1 (by decide)⟩
    · --
      subst hj
      show Go p.tables e below PP (T1.setTop (mkF m 24 #[.val (.int p1), .val (.int p2), .val (.int (8 : Int32)), .val (.int (0 : Int32)), .unset, .unset] [(.ref (K 8))]))
      exact J24 _ _ _ _ X1 e1 N0 ⟨(ks_8 hK).2.1, (hw _ (List.mem_of_getElem? (i := 43) rfl)), (ks_8 hK).2.2, ne_exa (ks_8 hK).2.1 (ks_15 hK).2.1 (by decide), ne_exa (ks_8 hK).2.1 (ks_0 hK).2.1 (by decide), ne_exa (ks_8 hK).2.1 (ks_1 hK).2.1 (by decide), ne_exa (ks_8 hK).2.1 (ks_13 hK).2.1 (by decide), ne_exa (ks_8 hK).2.1 (ks_16 hK).2.1 (by decide), ne_exa (ks_8 hK).2.1 (ks_17 hK).2.1 (by decide)⟩
    · --
      subst hj
      show Go p.tables e below PP (T1.setTop (mkF m 24 #[.val (.int p1), .val (.int p2), .val (.int (9 : Int32)), .val (.int (0 : Int32)), .unset, .unset] [(.ref (K 9))]))
      exact J24 _ _ _ _ X1 e1 N0 ⟨(ks_9 hK).2.1, (hw _ (List.mem_of_getElem? (i := 51) rfl)), (ks_9 hK).2.2, ne_exa (ks_9 hK).2.1 (ks_15 hK).2.1 (by decide), ne_exa (ks_9 hK).2.1 (ks_0 hK).2.1 (by decide), ne_exa (ks_9 hK).2.1 (ks_1 hK).2.1 (by decide), ne_exa (ks_9 hK).2.1 (ks_13 hK).2.1 (by decide), ne_exa (ks_9 hK).2.1 (ks_16 hK).2.1 (by decide), ne_exa (ks_9 hK).2.1 (ks_17 hK).2.1 (by decide)⟩
    · --
      subst hj
      show Go p.tables e below PP (T1.setTop (mkF m 24 #[.val (.int p1), .val (.int p2), .val (.int (10 : Int32)), .val (.int (0 : Int32)), .unset, .unset] [(.ref (K 10))]))
      exact J24 _ _ _ _ X1 e1 N0 ⟨(ks_10 hK).2.1, (hw _ (List.mem_of_getElem? (i := 73) rfl)), (ks_10 hK).2.2, ne_exa (ks_10 hK).2.1 (ks_15 hK).2.1 (by decide), ne_exa (ks_10 hK).2.1 (ks_0 hK).2.1 (by decide), ne_exa (ks_10 hK).2.1 (ks_1 hK).2.1 (by decide), ne_exa (ks_10 hK).2.1 (ks_13 hK).2.1 (by decide), ne_exa (ks_10 hK).2.1 (ks_16 hK).2.1 (by decide), ne_exa (ks_10 hK).2.1 (ks_17 hK).2.1 (by decide)⟩
    · --
      subst hj
      show Go p.tables e below PP (T1.setTop (mkF m 24 #[.val (.int p1), .val (.int p2), .val (.int (11 : Int32)), .val (.int (0 : Int32)), .unset, .unset] [(.ref (K 11))]))
      exact J24 _ _ _ _ X1 e1 N0 ⟨(ks_11 hK).2.1, (hw _ (List.mem_of_getElem? (i := 61) rfl)), (ks_11 hK).2.2, ne_exa (ks_11 hK).2.1 (ks_15 hK).2.1 (by decide), ne_exa (ks_11 hK).2.1 (ks_0 hK).2.1 (by decide), ne_exa (ks_11 hK).2.1 (ks_1 hK).2.1 (by decide), ne_exa (ks_11 hK).2.1 (ks_13 hK).2.1 (by decide), ne_exa (ks_11 hK).2.1 (ks_16 hK).2.1 (by decide), ne_exa (ks_11 hK).2.1 (ks_17 hK).2.1 (by decide)⟩
    · --
      subst hj
      show Go p.tables e below PP (T1.setTop (mkF m 24 #[.val (.int p1), .val (.int p2), .val (.int (12 : Int32)), .val (.int (0 : Int32)), .unset, .unset] [(.ref (K 12))]))
      exact J24 _ _ _ _ X1 e1 N0 ⟨(ks_12 hK).2.1, (hw _ (List.mem_of_getElem? (i := 47) rfl)), (ks_12 hK).2.2, ne_exa (ks_12 hK).2.1 (ks_15 hK).2.1 (by decide), ne_exa (ks_12 hK).2.1 (ks_0 hK).2.1 (by decide), ne_exa (ks_12 hK).2.1 (ks_1 hK).2.1 (by decide), ne_exa (ks_12 hK).2.1 (ks_13 hK).2.1 (by decide), ne_exa (ks_12 hK).2.1 (ks_16 hK).2.1 (by decide), ne_exa (ks_12 hK).2.1 (ks_17 hK).2.1 (by decide)⟩
    · --
      subst hj
      show Go p.tables e below PP (T1.setTop (mkF m 24 #[.val (.int p1), .val (.int p2), .val (.int (13 : Int32)), .val (.int (0 : Int32)), .unset, .unset] [(.ref (K 13))]))
      refine Go.st (fun t k => XS.astore X1.here hx rfl (hb hby at_24) rfl rfl (l' := #[.val (.int p1), .val (.int p2), .val (.int (13 : Int32)), .val (.int (0 : Int32)), .val (.ref (K 13)), .unset]) rfl k) ?_
      show Go p.tables e below PP (T1.setTop (mkF m 26 #[.val (.int p1), .val (.int p2), .val (.int (13 : Int32)), .val (.int (0 : Int32)), .val (.ref (K 13)), .unset] []))
      refine Go.st (fun t k => XS.aload X1.here hx rfl (hb hby at_26) rfl rfl k) ?_
      show Go p.tables e below PP (T1.setTop (mkF m 28 #[.val (.int p1), .val (.int p2), .val (.int (13 : Int32)), .val (.int (0 : Int32)), .val (.ref (K 13)), .unset] [(.ref (K 13))]))
      obtain ⟨T17, X17, e17, st17⟩ := getS2 X1 hx hZ hown (host := "") (Or.inl (hw _ (List.mem_of_getElem? (i := 8) rfl))) Via.refl e1 (ks_15 hK).1 (g := (mkF m 28 #[.val (.int p1), .val (.int p2), .val (.int (13 : Int32)), .val (.int (0 : Int32)), .val (.ref (K 13)), .unset] [(.ref (K 13))])) rfl (hb hby at_28)
      refine Go.st st17 ?_
      show Go p.tables e below PP (T17.setTop (mkF m 31 #[.val (.int p1), .val (.int p2), .val (.int (13 : Int32)), .val (.int (0 : Int32)), .val (.ref (K 13)), .unset] [(.ref (K 15)), (.ref (K 13))]))
      refine Go.st (fun t k => Jvm.RoadKit.acmp (g := (mkF m 31 #[.val (.int p1), .val (.int p2), .val (.int (13 : Int32)), .val (.int (0 : Int32)), .val (.ref (K 13)), .unset] [(.ref (K 15)), (.ref (K 13))])) X17 hx rfl rfl rfl (pc0 := 31) (pc' := 40) (same := false) rfl (hb hby at_31) rfl (decide_eq_false fun q => (ne_exa (ks_13 hK).2.1 (ks_15 hK).2.1 (by decide)) (Value.ref.inj q)) (by decide) (by decide) k) ?_
      show Go p.tables e below PP (T17.setTop (mkF m 40 #[.val (.int p1), .val (.int p2), .val (.int (13 : Int32)), .val (.int (0 : Int32)), .val (.ref (K 13)), .unset] []))
      refine Go.st (fun t k => XS.aload X17.here hx rfl (hb hby at_40) rfl rfl k) ?_
      show Go p.tables e below PP (T17.setTop (mkF m 42 #[.val (.int p1), .val (.int p2), .val (.int (13 : Int32)), .val (.int (0 : Int32)), .val (.ref (K 13)), .unset] [(.ref (K 13))]))
      obtain ⟨T18, X18, e18, st18⟩ := getS2 X17 hx hZ hown (host := "") (Or.inl (hw _ (List.mem_of_getElem? (i := 5) rfl))) Via.refl e17 (ks_0 hK).1 (g := (mkF m 42 #[.val (.int p1), .val (.int p2), .val (.int (13 : Int32)), .val (.int (0 : Int32)), .val (.ref (K 13)), .unset] [(.ref (K 13))])) rfl (hb hby at_42)
      refine Go.st st18 ?_
      show Go p.tables e below PP (T18.setTop (mkF m 45 #[.val (.int p1), .val (.int p2), .val (.int (13 : Int32)), .val (.int (0 : Int32)), .val (.ref (K 13)), .unset] [(.ref (K 0)), (.ref (K 13))]))
      refine Go.st (fun t k => Jvm.RoadKit.acmp (g := (mkF m 45 #[.val (.int p1), .val (.int p2), .val (.int (13 : Int32)), .val (.int (0 : Int32)), .val (.ref (K 13)), .unset] [(.ref (K 0)), (.ref (K 13))])) X18 hx rfl rfl rfl (pc0 := 45) (pc' := 48) (same := false) rfl (hb hby at_45) rfl (decide_eq_false fun q => (ne_exa (ks_13 hK).2.1 (ks_0 hK).2.1 (by decide)) (Value.ref.inj q)) (by decide) (by decide) k) ?_
      show Go p.tables e below PP (T18.setTop (mkF m 48 #[.val (.int p1), .val (.int p2), .val (.int (13 : Int32)), .val (.int (0 : Int32)), .val (.ref (K 13)), .unset] []))
      refine Go.st (fun t k => XS.aload X18.here hx rfl (hb hby at_48) rfl rfl k) ?_
      show Go p.tables e below PP (T18.setTop (mkF m 50 #[.val (.int p1), .val (.int p2), .val (.int (13 : Int32)), .val (.int (0 : Int32)), .val (.ref (K 13)), .unset] [(.ref (K 13))]))
      obtain ⟨T19, X19, e19, st19⟩ := getS2 X18 hx hZ hown (host := "") (Or.inl (hw _ (List.mem_of_getElem? (i := 19) rfl))) Via.refl e18 (ks_1 hK).1 (g := (mkF m 50 #[.val (.int p1), .val (.int p2), .val (.int (13 : Int32)), .val (.int (0 : Int32)), .val (.ref (K 13)), .unset] [(.ref (K 13))])) rfl (hb hby at_50)
      refine Go.st st19 ?_
      show Go p.tables e below PP (T19.setTop (mkF m 53 #[.val (.int p1), .val (.int p2), .val (.int (13 : Int32)), .val (.int (0 : Int32)), .val (.ref (K 13)), .unset] [(.ref (K 1)), (.ref (K 13))]))
      refine Go.st (fun t k => Jvm.RoadKit.acmp (g := (mkF m 53 #[.val (.int p1), .val (.int p2), .val (.int (13 : Int32)), .val (.int (0 : Int32)), .val (.ref (K 13)), .unset] [(.ref (K 1)), (.ref (K 13))])) X19 hx rfl rfl rfl (pc0 := 53) (pc' := 56) (same := false) rfl (hb hby at_53) rfl (decide_eq_false fun q => (ne_exa (ks_13 hK).2.1 (ks_1 hK).2.1 (by decide)) (Value.ref.inj q)) (by decide) (by decide) k) ?_
      show Go p.tables e below PP (T19.setTop (mkF m 56 #[.val (.int p1), .val (.int p2), .val (.int (13 : Int32)), .val (.int (0 : Int32)), .val (.ref (K 13)), .unset] []))
      refine Go.st (fun t k => XS.aload X19.here hx rfl (hb hby at_56) rfl rfl k) ?_
      show Go p.tables e below PP (T19.setTop (mkF m 58 #[.val (.int p1), .val (.int p2), .val (.int (13 : Int32)), .val (.int (0 : Int32)), .val (.ref (K 13)), .unset] [(.ref (K 13))]))
      obtain ⟨T20, X20, e20, st20⟩ := getS2 X19 hx hZ hown (host := "") (Or.inl (hw _ (List.mem_of_getElem? (i := 21) rfl))) Via.refl e19 (ks_13 hK).1 (g := (mkF m 58 #[.val (.int p1), .val (.int p2), .val (.int (13 : Int32)), .val (.int (0 : Int32)), .val (.ref (K 13)), .unset] [(.ref (K 13))])) rfl (hb hby at_58)
      refine Go.st st20 ?_
      show Go p.tables e below PP (T20.setTop (mkF m 61 #[.val (.int p1), .val (.int p2), .val (.int (13 : Int32)), .val (.int (0 : Int32)), .val (.ref (K 13)), .unset] [(.ref (K 13)), (.ref (K 13))]))
      refine Go.st (fun t k => Jvm.RoadKit.acmp (g := (mkF m 61 #[.val (.int p1), .val (.int p2), .val (.int (13 : Int32)), .val (.int (0 : Int32)), .val (.ref (K 13)), .unset] [(.ref (K 13)), (.ref (K 13))])) X20 hx rfl rfl rfl (pc0 := 61) (pc' := 80) (same := true) rfl (hb hby at_61) rfl (decide_eq_true rfl) (by decide) (by decide) k) ?_
      show Go p.tables e below PP (T20.setTop (mkF m 80 #[.val (.int p1), .val (.int p2), .val (.int (13 : Int32)), .val (.int (0 : Int32)), .val (.ref (K 13)), .unset] []))
      refine Go.st (fun t k => XS.iloadN X20.here hx rfl (hb hby at_80) rfl k) ?_
      show Go p.tables e below PP (T20.setTop (mkF m 81 #[.val (.int p1), .val (.int p2), .val (.int (13 : Int32)), .val (.int (0 : Int32)), .val (.ref (K 13)), .unset] [(.int (0 : Int32))]))
      refine Go.st (fun t k => XS.istore X20.here hx rfl (hb hby at_81) rfl (l' := #[.val (.int p1), .val (.int p2), .val (.int (13 : Int32)), .val (.int (0 : Int32)), .val (.ref (K 13)), .val (.int (0 : Int32))]) rfl k) ?_
      show Go p.tables e below PP (T20.setTop (mkF m 83 #[.val (.int p1), .val (.int p2), .val (.int (13 : Int32)), .val (.int (0 : Int32)), .val (.ref (K 13)), .val (.int (0 : Int32))] []))
      refine Go.st (fun t k => XS.goto X20.here hx rfl (pc0 := 83) (pc' := 97) rfl (hb hby at_83) (by decide) (by decide) k) ?_
      show Go p.tables e below PP (T20.setTop (mkF m 97 #[.val (.int p1), .val (.int p2), .val (.int (13 : Int32)), .val (.int (0 : Int32)), .val (.ref (K 13)), .val (.int (0 : Int32))] []))
      refine Go.st (fun t k => XS.aload X20.here hx rfl (hb hby at_97) rfl rfl k) ?_
      show Go p.tables e below PP (T20.setTop (mkF m 99 #[.val (.int p1), .val (.int p2), .val (.int (13 : Int32)), .val (.int (0 : Int32)), .val (.ref (K 13)), .val (.int (0 : Int32))] [(.ref (K 13))]))
      refine Go.st (fun t k => XS.iloadN X20.here hx rfl (hb hby at_99) rfl k) ?_
      show Go p.tables e below PP (T20.setTop (mkF m 100 #[.val (.int p1), .val (.int p2), .val (.int (13 : Int32)), .val (.int (0 : Int32)), .val (.ref (K 13)), .val (.int (0 : Int32))] [(.int (0 : Int32)), (.ref (K 13))]))
      obtain ⟨v21, T21, L21, X21, hQ21, st21⟩ := callVi X20 hx hZ (C := "com/example/llave/llave/model/CqlType$Kind$14") (y := (⟨"com/example/llave/llave/model/CqlType$Kind", "takesLiteral", "(Z)Z"⟩ : MethodName)) (z := (⟨"com/example/llave/llave/model/CqlType$Kind", "takesLiteral", "(Z)Z"⟩ : MethodName)) (a := (K 13)) (argsL := [(.int (0 : Int32))]) (rest := []) hown (hw _ (List.mem_of_getElem? (i := 10) rfl)) (hw _ (List.mem_of_getElem? (i := 11) rfl)) (notFace_of_selects (args := #[]) (mvT hZ (hw _ (List.mem_of_getElem? (i := 57) rfl)))) (hw _ (List.mem_of_getElem? (i := 57) rfl)) (hw _ (List.mem_of_getElem? (i := 12) rfl)) (hw _ (List.mem_of_getElem? (i := 6) rfl)) (hw _ (List.mem_of_getElem? (i := 14) rfl)) (by decide) rfl (ks_13 hK).2.1 (rm2 l Z a0 hw [] (K 13) (0 : Int32) (1 : Int32) h0 n0 Zn (ks_13 hK).2.2) e20 0 (by decide) (by decide) (by decide) (by decide) (g := (mkF m 100 #[.val (.int p1), .val (.int p2), .val (.int (13 : Int32)), .val (.int (0 : Int32)), .val (.ref (K 13)), .val (.int (0 : Int32))] [(.int (0 : Int32)), (.ref (K 13))])) rfl (by rw [hml]; rfl) (lenOf pd_1 rfl) rfl (by show 2 * 0 + _ ≤ _; exact Nat.le_of_eq rfl) (hb hby at_100)
      obtain ⟨rfl, rfl, e21⟩ := hQ21
      rw [List.append_nil] at X21
      refine Go.st st21 ?_
      show Go p.tables e below PP (T21.setTop (mkF m 103 #[.val (.int p1), .val (.int p2), .val (.int (13 : Int32)), .val (.int (0 : Int32)), .val (.ref (K 13)), .val (.int (0 : Int32))] [(.int (bi ((0 : Int32) = (1 : Int32))))]))
      refine Go.st (fun t k => XS.iload X21.here hx rfl (hb hby at_103) rfl k) ?_
      show Go p.tables e below PP (T21.setTop (mkF m 105 #[.val (.int p1), .val (.int p2), .val (.int (13 : Int32)), .val (.int (0 : Int32)), .val (.ref (K 13)), .val (.int (0 : Int32))] [(.int (0 : Int32)), (.int (bi ((0 : Int32) = (1 : Int32))))]))
      refine Go.st (fun t k => XS.icmpNo X21.here hx rfl (hb hby at_105) rfl (XT.ii_ne_f (by decide)) k) ?_
      show Go p.tables e below PP (T21.setTop (mkF m 108 #[.val (.int p1), .val (.int p2), .val (.int (13 : Int32)), .val (.int (0 : Int32)), .val (.ref (K 13)), .val (.int (0 : Int32))] []))
      refine Go.st (fun t k => XS.iconst X21.here hx rfl (hb hby at_108) k) ?_
      show Go p.tables e below PP (T21.setTop (mkF m 109 #[.val (.int p1), .val (.int p2), .val (.int (13 : Int32)), .val (.int (0 : Int32)), .val (.ref (K 13)), .val (.int (0 : Int32))] [(.int (1 : Int32))]))
      refine Go.st (fun t k => XS.goto X21.here hx rfl (pc0 := 109) (pc' := 113) rfl (hb hby at_109) (by decide) (by decide) k) ?_
      show Go p.tables e below PP (T21.setTop (mkF m 113 #[.val (.int p1), .val (.int p2), .val (.int (13 : Int32)), .val (.int (0 : Int32)), .val (.ref (K 13)), .val (.int (0 : Int32))] [(.int (1 : Int32))]))
      rw [hPP]
      refine endN X21 hx hlk (t := .boolean) hret (by simp) (hb hby at_113) (w := (1 : Int32)) (rfl) ?_ (by decide) (by decide)
      show Q0 Z p1 p2 K h0 n0 (some (.int (1 : Int32))) T21.heap _
      rw [e21]
      exact ⟨rfl, N0⟩
    · --
      subst hj
      show Go p.tables e below PP (T1.setTop (mkF m 24 #[.val (.int p1), .val (.int p2), .val (.int (14 : Int32)), .val (.int (0 : Int32)), .unset, .unset] [(.ref (K 14))]))
      exact J24 _ _ _ _ X1 e1 N0 ⟨(ks_14 hK).2.1, (hw _ (List.mem_of_getElem? (i := 27) rfl)), (ks_14 hK).2.2, ne_exa (ks_14 hK).2.1 (ks_15 hK).2.1 (by decide), ne_exa (ks_14 hK).2.1 (ks_0 hK).2.1 (by decide), ne_exa (ks_14 hK).2.1 (ks_1 hK).2.1 (by decide), ne_exa (ks_14 hK).2.1 (ks_13 hK).2.1 (by decide), ne_exa (ks_14 hK).2.1 (ks_16 hK).2.1 (by decide), ne_exa (ks_14 hK).2.1 (ks_17 hK).2.1 (by decide)⟩
    · --
      subst hj
      show Go p.tables e below PP (T1.setTop (mkF m 24 #[.val (.int p1), .val (.int p2), .val (.int (15 : Int32)), .val (.int (0 : Int32)), .unset, .unset] [(.ref (K 15))]))
      refine Go.st (fun t k => XS.astore X1.here hx rfl (hb hby at_24) rfl rfl (l' := #[.val (.int p1), .val (.int p2), .val (.int (15 : Int32)), .val (.int (0 : Int32)), .val (.ref (K 15)), .unset]) rfl k) ?_
      show Go p.tables e below PP (T1.setTop (mkF m 26 #[.val (.int p1), .val (.int p2), .val (.int (15 : Int32)), .val (.int (0 : Int32)), .val (.ref (K 15)), .unset] []))
      refine Go.st (fun t k => XS.aload X1.here hx rfl (hb hby at_26) rfl rfl k) ?_
      show Go p.tables e below PP (T1.setTop (mkF m 28 #[.val (.int p1), .val (.int p2), .val (.int (15 : Int32)), .val (.int (0 : Int32)), .val (.ref (K 15)), .unset] [(.ref (K 15))]))
      obtain ⟨T22, X22, e22, st22⟩ := getS2 X1 hx hZ hown (host := "") (Or.inl (hw _ (List.mem_of_getElem? (i := 8) rfl))) Via.refl e1 (ks_15 hK).1 (g := (mkF m 28 #[.val (.int p1), .val (.int p2), .val (.int (15 : Int32)), .val (.int (0 : Int32)), .val (.ref (K 15)), .unset] [(.ref (K 15))])) rfl (hb hby at_28)
      refine Go.st st22 ?_
      show Go p.tables e below PP (T22.setTop (mkF m 31 #[.val (.int p1), .val (.int p2), .val (.int (15 : Int32)), .val (.int (0 : Int32)), .val (.ref (K 15)), .unset] [(.ref (K 15)), (.ref (K 15))]))
      refine Go.st (fun t k => Jvm.RoadKit.acmp (g := (mkF m 31 #[.val (.int p1), .val (.int p2), .val (.int (15 : Int32)), .val (.int (0 : Int32)), .val (.ref (K 15)), .unset] [(.ref (K 15)), (.ref (K 15))])) X22 hx rfl rfl rfl (pc0 := 31) (pc' := 34) (same := true) rfl (hb hby at_31) rfl (decide_eq_true rfl) (by decide) (by decide) k) ?_
      show Go p.tables e below PP (T22.setTop (mkF m 34 #[.val (.int p1), .val (.int p2), .val (.int (15 : Int32)), .val (.int (0 : Int32)), .val (.ref (K 15)), .unset] []))
      refine Go.st (fun t k => XS.iconst X22.here hx rfl (hb hby at_34) k) ?_
      show Go p.tables e below PP (T22.setTop (mkF m 35 #[.val (.int p1), .val (.int p2), .val (.int (15 : Int32)), .val (.int (0 : Int32)), .val (.ref (K 15)), .unset] [(.int (1 : Int32))]))
      refine Go.st (fun t k => XS.istore X22.here hx rfl (hb hby at_35) rfl (l' := #[.val (.int p1), .val (.int p2), .val (.int (15 : Int32)), .val (.int (0 : Int32)), .val (.ref (K 15)), .val (.int (1 : Int32))]) rfl k) ?_
      show Go p.tables e below PP (T22.setTop (mkF m 37 #[.val (.int p1), .val (.int p2), .val (.int (15 : Int32)), .val (.int (0 : Int32)), .val (.ref (K 15)), .val (.int (1 : Int32))] []))
      refine Go.st (fun t k => XS.goto X22.here hx rfl (pc0 := 37) (pc' := 97) rfl (hb hby at_37) (by decide) (by decide) k) ?_
      show Go p.tables e below PP (T22.setTop (mkF m 97 #[.val (.int p1), .val (.int p2), .val (.int (15 : Int32)), .val (.int (0 : Int32)), .val (.ref (K 15)), .val (.int (1 : Int32))] []))
      refine Go.st (fun t k => XS.aload X22.here hx rfl (hb hby at_97) rfl rfl k) ?_
      show Go p.tables e below PP (T22.setTop (mkF m 99 #[.val (.int p1), .val (.int p2), .val (.int (15 : Int32)), .val (.int (0 : Int32)), .val (.ref (K 15)), .val (.int (1 : Int32))] [(.ref (K 15))]))
      refine Go.st (fun t k => XS.iloadN X22.here hx rfl (hb hby at_99) rfl k) ?_
      show Go p.tables e below PP (T22.setTop (mkF m 100 #[.val (.int p1), .val (.int p2), .val (.int (15 : Int32)), .val (.int (0 : Int32)), .val (.ref (K 15)), .val (.int (1 : Int32))] [(.int (0 : Int32)), (.ref (K 15))]))
      obtain ⟨v23, T23, L23, X23, hQ23, st23⟩ := callVi X22 hx hZ (C := "com/example/llave/llave/model/CqlType$Kind$16") (y := (⟨"com/example/llave/llave/model/CqlType$Kind", "takesLiteral", "(Z)Z"⟩ : MethodName)) (z := (⟨"com/example/llave/llave/model/CqlType$Kind$16", "takesLiteral", "(Z)Z"⟩ : MethodName)) (a := (K 15)) (argsL := [(.int (0 : Int32))]) (rest := []) hown (hw _ (List.mem_of_getElem? (i := 10) rfl)) (hw _ (List.mem_of_getElem? (i := 11) rfl)) (notFace_of_selects (args := #[]) (mvT hZ (hw _ (List.mem_of_getElem? (i := 13) rfl)))) (hw _ (List.mem_of_getElem? (i := 95) rfl)) (hw _ (List.mem_of_getElem? (i := 96) rfl)) (hw _ (List.mem_of_getElem? (i := 97) rfl)) (hw _ (List.mem_of_getElem? (i := 98) rfl)) (by decide) rfl (ks_15 hK).2.1 (rm3 l Z a0 hw [] (K 15) (0 : Int32) h0 n0 Zn) e22 0 (by decide) (by decide) (by decide) (by decide) (g := (mkF m 100 #[.val (.int p1), .val (.int p2), .val (.int (15 : Int32)), .val (.int (0 : Int32)), .val (.ref (K 15)), .val (.int (1 : Int32))] [(.int (0 : Int32)), (.ref (K 15))])) rfl (by rw [hml]; rfl) (lenOf pd_1 rfl) rfl (by show 2 * 0 + _ ≤ _; exact Nat.le_of_eq rfl) (hb hby at_100)
      obtain ⟨rfl, rfl, e23⟩ := hQ23
      rw [List.append_nil] at X23
      refine Go.st st23 ?_
      show Go p.tables e below PP (T23.setTop (mkF m 103 #[.val (.int p1), .val (.int p2), .val (.int (15 : Int32)), .val (.int (0 : Int32)), .val (.ref (K 15)), .val (.int (1 : Int32))] [(.int (1 : Int32))]))
      refine Go.st (fun t k => XS.iload X23.here hx rfl (hb hby at_103) rfl k) ?_
      show Go p.tables e below PP (T23.setTop (mkF m 105 #[.val (.int p1), .val (.int p2), .val (.int (15 : Int32)), .val (.int (0 : Int32)), .val (.ref (K 15)), .val (.int (1 : Int32))] [(.int (1 : Int32)), (.int (1 : Int32))]))
      refine Go.st (fun t k => XS.icmpNo X23.here hx rfl (hb hby at_105) rfl (XT.ii_ne_f (by decide)) k) ?_
      show Go p.tables e below PP (T23.setTop (mkF m 108 #[.val (.int p1), .val (.int p2), .val (.int (15 : Int32)), .val (.int (0 : Int32)), .val (.ref (K 15)), .val (.int (1 : Int32))] []))
      refine Go.st (fun t k => XS.iconst X23.here hx rfl (hb hby at_108) k) ?_
      show Go p.tables e below PP (T23.setTop (mkF m 109 #[.val (.int p1), .val (.int p2), .val (.int (15 : Int32)), .val (.int (0 : Int32)), .val (.ref (K 15)), .val (.int (1 : Int32))] [(.int (1 : Int32))]))
      refine Go.st (fun t k => XS.goto X23.here hx rfl (pc0 := 109) (pc' := 113) rfl (hb hby at_109) (by decide) (by decide) k) ?_
      show Go p.tables e below PP (T23.setTop (mkF m 113 #[.val (.int p1), .val (.int p2), .val (.int (15 : Int32)), .val (.int (0 : Int32)), .val (.ref (K 15)), .val (.int (1 : Int32))] [(.int (1 : Int32))]))
      rw [hPP]
      refine endN X23 hx hlk (t := .boolean) hret (by simp) (hb hby at_113) (w := (1 : Int32)) (rfl) ?_ (by decide) (by decide)
      show Q0 Z p1 p2 K h0 n0 (some (.int (1 : Int32))) T23.heap _
      rw [e23]
      exact ⟨rfl, N0⟩
    · --
      subst hj
      show Go p.tables e below PP (T1.setTop (mkF m 24 #[.val (.int p1), .val (.int p2), .val (.int (16 : Int32)), .val (.int (0 : Int32)), .unset, .unset] [(.ref (K 16))]))
      refine Go.st (fun t k => XS.astore X1.here hx rfl (hb hby at_24) rfl rfl (l' := #[.val (.int p1), .val (.int p2), .val (.int (16 : Int32)), .val (.int (0 : Int32)), .val (.ref (K 16)), .unset]) rfl k) ?_
      show Go p.tables e below PP (T1.setTop (mkF m 26 #[.val (.int p1), .val (.int p2), .val (.int (16 : Int32)), .val (.int (0 : Int32)), .val (.ref (K 16)), .unset] []))
      refine Go.st (fun t k => XS.aload X1.here hx rfl (hb hby at_26) rfl rfl k) ?_
      show Go p.tables e below PP (T1.setTop (mkF m 28 #[.val (.int p1), .val (.int p2), .val (.int (16 : Int32)), .val (.int (0 : Int32)), .val (.ref (K 16)), .unset] [(.ref (K 16))]))
      obtain ⟨T24, X24, e24, st24⟩ := getS2 X1 hx hZ hown (host := "") (Or.inl (hw _ (List.mem_of_getElem? (i := 8) rfl))) Via.refl e1 (ks_15 hK).1 (g := (mkF m 28 #[.val (.int p1), .val (.int p2), .val (.int (16 : Int32)), .val (.int (0 : Int32)), .val (.ref (K 16)), .unset] [(.ref (K 16))])) rfl (hb hby at_28)
      refine Go.st st24 ?_
      show Go p.tables e below PP (T24.setTop (mkF m 31 #[.val (.int p1), .val (.int p2), .val (.int (16 : Int32)), .val (.int (0 : Int32)), .val (.ref (K 16)), .unset] [(.ref (K 15)), (.ref (K 16))]))
      refine Go.st (fun t k => Jvm.RoadKit.acmp (g := (mkF m 31 #[.val (.int p1), .val (.int p2), .val (.int (16 : Int32)), .val (.int (0 : Int32)), .val (.ref (K 16)), .unset] [(.ref (K 15)), (.ref (K 16))])) X24 hx rfl rfl rfl (pc0 := 31) (pc' := 40) (same := false) rfl (hb hby at_31) rfl (decide_eq_false fun q => (ne_exa (ks_16 hK).2.1 (ks_15 hK).2.1 (by decide)) (Value.ref.inj q)) (by decide) (by decide) k) ?_
      show Go p.tables e below PP (T24.setTop (mkF m 40 #[.val (.int p1), .val (.int p2), .val (.int (16 : Int32)), .val (.int (0 : Int32)), .val (.ref (K 16)), .unset] []))
      refine Go.st (fun t k => XS.aload X24.here hx rfl (hb hby at_40) rfl rfl k) ?_
      show Go p.tables e below PP (T24.setTop (mkF m 42 #[.val (.int p1), .val (.int p2), .val (.int (16 : Int32)), .val (.int (0 : Int32)), .val (.ref (K 16)), .unset] [(.ref (K 16))]))
      obtain ⟨T25, X25, e25, st25⟩ := getS2 X24 hx hZ hown (host := "") (Or.inl (hw _ (List.mem_of_getElem? (i := 5) rfl))) Via.refl e24 (ks_0 hK).1 (g := (mkF m 42 #[.val (.int p1), .val (.int p2), .val (.int (16 : Int32)), .val (.int (0 : Int32)), .val (.ref (K 16)), .unset] [(.ref (K 16))])) rfl (hb hby at_42)
      refine Go.st st25 ?_
      show Go p.tables e below PP (T25.setTop (mkF m 45 #[.val (.int p1), .val (.int p2), .val (.int (16 : Int32)), .val (.int (0 : Int32)), .val (.ref (K 16)), .unset] [(.ref (K 0)), (.ref (K 16))]))
      refine Go.st (fun t k => Jvm.RoadKit.acmp (g := (mkF m 45 #[.val (.int p1), .val (.int p2), .val (.int (16 : Int32)), .val (.int (0 : Int32)), .val (.ref (K 16)), .unset] [(.ref (K 0)), (.ref (K 16))])) X25 hx rfl rfl rfl (pc0 := 45) (pc' := 48) (same := false) rfl (hb hby at_45) rfl (decide_eq_false fun q => (ne_exa (ks_16 hK).2.1 (ks_0 hK).2.1 (by decide)) (Value.ref.inj q)) (by decide) (by decide) k) ?_
      show Go p.tables e below PP (T25.setTop (mkF m 48 #[.val (.int p1), .val (.int p2), .val (.int (16 : Int32)), .val (.int (0 : Int32)), .val (.ref (K 16)), .unset] []))
      refine Go.st (fun t k => XS.aload X25.here hx rfl (hb hby at_48) rfl rfl k) ?_
      show Go p.tables e below PP (T25.setTop (mkF m 50 #[.val (.int p1), .val (.int p2), .val (.int (16 : Int32)), .val (.int (0 : Int32)), .val (.ref (K 16)), .unset] [(.ref (K 16))]))
      obtain ⟨T26, X26, e26, st26⟩ := getS2 X25 hx hZ hown (host := "") (Or.inl (hw _ (List.mem_of_getElem? (i := 19) rfl))) Via.refl e25 (ks_1 hK).1 (g := (mkF m 50 #[.val (.int p1), .val (.int p2), .val (.int (16 : Int32)), .val (.int (0 : Int32)), .val (.ref (K 16)), .unset] [(.ref (K 16))])) rfl (hb hby at_50)
      refine Go.st st26 ?_
      show Go p.tables e below PP (T26.setTop (mkF m 53 #[.val (.int p1), .val (.int p2), .val (.int (16 : Int32)), .val (.int (0 : Int32)), .val (.ref (K 16)), .unset] [(.ref (K 1)), (.ref (K 16))]))
      refine Go.st (fun t k => Jvm.RoadKit.acmp (g := (mkF m 53 #[.val (.int p1), .val (.int p2), .val (.int (16 : Int32)), .val (.int (0 : Int32)), .val (.ref (K 16)), .unset] [(.ref (K 1)), (.ref (K 16))])) X26 hx rfl rfl rfl (pc0 := 53) (pc' := 56) (same := false) rfl (hb hby at_53) rfl (decide_eq_false fun q => (ne_exa (ks_16 hK).2.1 (ks_1 hK).2.1 (by decide)) (Value.ref.inj q)) (by decide) (by decide) k) ?_
      show Go p.tables e below PP (T26.setTop (mkF m 56 #[.val (.int p1), .val (.int p2), .val (.int (16 : Int32)), .val (.int (0 : Int32)), .val (.ref (K 16)), .unset] []))
      refine Go.st (fun t k => XS.aload X26.here hx rfl (hb hby at_56) rfl rfl k) ?_
      show Go p.tables e below PP (T26.setTop (mkF m 58 #[.val (.int p1), .val (.int p2), .val (.int (16 : Int32)), .val (.int (0 : Int32)), .val (.ref (K 16)), .unset] [(.ref (K 16))]))
      obtain ⟨T27, X27, e27, st27⟩ := getS2 X26 hx hZ hown (host := "") (Or.inl (hw _ (List.mem_of_getElem? (i := 21) rfl))) Via.refl e26 (ks_13 hK).1 (g := (mkF m 58 #[.val (.int p1), .val (.int p2), .val (.int (16 : Int32)), .val (.int (0 : Int32)), .val (.ref (K 16)), .unset] [(.ref (K 16))])) rfl (hb hby at_58)
      refine Go.st st27 ?_
      show Go p.tables e below PP (T27.setTop (mkF m 61 #[.val (.int p1), .val (.int p2), .val (.int (16 : Int32)), .val (.int (0 : Int32)), .val (.ref (K 16)), .unset] [(.ref (K 13)), (.ref (K 16))]))
      refine Go.st (fun t k => Jvm.RoadKit.acmp (g := (mkF m 61 #[.val (.int p1), .val (.int p2), .val (.int (16 : Int32)), .val (.int (0 : Int32)), .val (.ref (K 16)), .unset] [(.ref (K 13)), (.ref (K 16))])) X27 hx rfl rfl rfl (pc0 := 61) (pc' := 64) (same := false) rfl (hb hby at_61) rfl (decide_eq_false fun q => (ne_exa (ks_16 hK).2.1 (ks_13 hK).2.1 (by decide)) (Value.ref.inj q)) (by decide) (by decide) k) ?_
      show Go p.tables e below PP (T27.setTop (mkF m 64 #[.val (.int p1), .val (.int p2), .val (.int (16 : Int32)), .val (.int (0 : Int32)), .val (.ref (K 16)), .unset] []))
      refine Go.st (fun t k => XS.aload X27.here hx rfl (hb hby at_64) rfl rfl k) ?_
      show Go p.tables e below PP (T27.setTop (mkF m 66 #[.val (.int p1), .val (.int p2), .val (.int (16 : Int32)), .val (.int (0 : Int32)), .val (.ref (K 16)), .unset] [(.ref (K 16))]))
      obtain ⟨T28, X28, e28, st28⟩ := getS2 X27 hx hZ hown (host := "") (Or.inl (hw _ (List.mem_of_getElem? (i := 23) rfl))) Via.refl e27 (ks_16 hK).1 (g := (mkF m 66 #[.val (.int p1), .val (.int p2), .val (.int (16 : Int32)), .val (.int (0 : Int32)), .val (.ref (K 16)), .unset] [(.ref (K 16))])) rfl (hb hby at_66)
      refine Go.st st28 ?_
      show Go p.tables e below PP (T28.setTop (mkF m 69 #[.val (.int p1), .val (.int p2), .val (.int (16 : Int32)), .val (.int (0 : Int32)), .val (.ref (K 16)), .unset] [(.ref (K 16)), (.ref (K 16))]))
      refine Go.st (fun t k => Jvm.RoadKit.acmp (g := (mkF m 69 #[.val (.int p1), .val (.int p2), .val (.int (16 : Int32)), .val (.int (0 : Int32)), .val (.ref (K 16)), .unset] [(.ref (K 16)), (.ref (K 16))])) X28 hx rfl rfl rfl (pc0 := 69) (pc' := 80) (same := true) rfl (hb hby at_69) rfl (decide_eq_true rfl) (by decide) (by decide) k) ?_
      show Go p.tables e below PP (T28.setTop (mkF m 80 #[.val (.int p1), .val (.int p2), .val (.int (16 : Int32)), .val (.int (0 : Int32)), .val (.ref (K 16)), .unset] []))
      refine Go.st (fun t k => XS.iloadN X28.here hx rfl (hb hby at_80) rfl k) ?_
      show Go p.tables e below PP (T28.setTop (mkF m 81 #[.val (.int p1), .val (.int p2), .val (.int (16 : Int32)), .val (.int (0 : Int32)), .val (.ref (K 16)), .unset] [(.int (0 : Int32))]))
      refine Go.st (fun t k => XS.istore X28.here hx rfl (hb hby at_81) rfl (l' := #[.val (.int p1), .val (.int p2), .val (.int (16 : Int32)), .val (.int (0 : Int32)), .val (.ref (K 16)), .val (.int (0 : Int32))]) rfl k) ?_
      show Go p.tables e below PP (T28.setTop (mkF m 83 #[.val (.int p1), .val (.int p2), .val (.int (16 : Int32)), .val (.int (0 : Int32)), .val (.ref (K 16)), .val (.int (0 : Int32))] []))
      refine Go.st (fun t k => XS.goto X28.here hx rfl (pc0 := 83) (pc' := 97) rfl (hb hby at_83) (by decide) (by decide) k) ?_
      show Go p.tables e below PP (T28.setTop (mkF m 97 #[.val (.int p1), .val (.int p2), .val (.int (16 : Int32)), .val (.int (0 : Int32)), .val (.ref (K 16)), .val (.int (0 : Int32))] []))
      refine Go.st (fun t k => XS.aload X28.here hx rfl (hb hby at_97) rfl rfl k) ?_
      show Go p.tables e below PP (T28.setTop (mkF m 99 #[.val (.int p1), .val (.int p2), .val (.int (16 : Int32)), .val (.int (0 : Int32)), .val (.ref (K 16)), .val (.int (0 : Int32))] [(.ref (K 16))]))
      refine Go.st (fun t k => XS.iloadN X28.here hx rfl (hb hby at_99) rfl k) ?_
      show Go p.tables e below PP (T28.setTop (mkF m 100 #[.val (.int p1), .val (.int p2), .val (.int (16 : Int32)), .val (.int (0 : Int32)), .val (.ref (K 16)), .val (.int (0 : Int32))] [(.int (0 : Int32)), (.ref (K 16))]))
      obtain ⟨v29, T29, L29, X29, hQ29, st29⟩ := callVi X28 hx hZ (C := "com/example/llave/llave/model/CqlType$Kind$17") (y := (⟨"com/example/llave/llave/model/CqlType$Kind", "takesLiteral", "(Z)Z"⟩ : MethodName)) (z := (⟨"com/example/llave/llave/model/CqlType$Kind", "takesLiteral", "(Z)Z"⟩ : MethodName)) (a := (K 16)) (argsL := [(.int (0 : Int32))]) (rest := []) hown (hw _ (List.mem_of_getElem? (i := 10) rfl)) (hw _ (List.mem_of_getElem? (i := 11) rfl)) (notFace_of_selects (args := #[]) (mvT hZ (hw _ (List.mem_of_getElem? (i := 69) rfl)))) (hw _ (List.mem_of_getElem? (i := 69) rfl)) (hw _ (List.mem_of_getElem? (i := 12) rfl)) (hw _ (List.mem_of_getElem? (i := 6) rfl)) (hw _ (List.mem_of_getElem? (i := 14) rfl)) (by decide) rfl (ks_16 hK).2.1 (rm2 l Z a0 hw [] (K 16) (0 : Int32) (1 : Int32) h0 n0 Zn (ks_16 hK).2.2) e28 0 (by decide) (by decide) (by decide) (by decide) (g := (mkF m 100 #[.val (.int p1), .val (.int p2), .val (.int (16 : Int32)), .val (.int (0 : Int32)), .val (.ref (K 16)), .val (.int (0 : Int32))] [(.int (0 : Int32)), (.ref (K 16))])) rfl (by rw [hml]; rfl) (lenOf pd_1 rfl) rfl (by show 2 * 0 + _ ≤ _; exact Nat.le_of_eq rfl) (hb hby at_100)
      obtain ⟨rfl, rfl, e29⟩ := hQ29
      rw [List.append_nil] at X29
      refine Go.st st29 ?_
      show Go p.tables e below PP (T29.setTop (mkF m 103 #[.val (.int p1), .val (.int p2), .val (.int (16 : Int32)), .val (.int (0 : Int32)), .val (.ref (K 16)), .val (.int (0 : Int32))] [(.int (bi ((0 : Int32) = (1 : Int32))))]))
      refine Go.st (fun t k => XS.iload X29.here hx rfl (hb hby at_103) rfl k) ?_
      show Go p.tables e below PP (T29.setTop (mkF m 105 #[.val (.int p1), .val (.int p2), .val (.int (16 : Int32)), .val (.int (0 : Int32)), .val (.ref (K 16)), .val (.int (0 : Int32))] [(.int (0 : Int32)), (.int (bi ((0 : Int32) = (1 : Int32))))]))
      refine Go.st (fun t k => XS.icmpNo X29.here hx rfl (hb hby at_105) rfl (XT.ii_ne_f (by decide)) k) ?_
      show Go p.tables e below PP (T29.setTop (mkF m 108 #[.val (.int p1), .val (.int p2), .val (.int (16 : Int32)), .val (.int (0 : Int32)), .val (.ref (K 16)), .val (.int (0 : Int32))] []))
      refine Go.st (fun t k => XS.iconst X29.here hx rfl (hb hby at_108) k) ?_
      show Go p.tables e below PP (T29.setTop (mkF m 109 #[.val (.int p1), .val (.int p2), .val (.int (16 : Int32)), .val (.int (0 : Int32)), .val (.ref (K 16)), .val (.int (0 : Int32))] [(.int (1 : Int32))]))
      refine Go.st (fun t k => XS.goto X29.here hx rfl (pc0 := 109) (pc' := 113) rfl (hb hby at_109) (by decide) (by decide) k) ?_
      show Go p.tables e below PP (T29.setTop (mkF m 113 #[.val (.int p1), .val (.int p2), .val (.int (16 : Int32)), .val (.int (0 : Int32)), .val (.ref (K 16)), .val (.int (0 : Int32))] [(.int (1 : Int32))]))
      rw [hPP]
      refine endN X29 hx hlk (t := .boolean) hret (by simp) (hb hby at_113) (w := (1 : Int32)) (rfl) ?_ (by decide) (by decide)
      show Q0 Z p1 p2 K h0 n0 (some (.int (1 : Int32))) T29.heap _
      rw [e29]
      exact ⟨rfl, N0⟩
    · --
      subst hj
      show Go p.tables e below PP (T1.setTop (mkF m 24 #[.val (.int p1), .val (.int p2), .val (.int (17 : Int32)), .val (.int (0 : Int32)), .unset, .unset] [(.ref (K 17))]))
      refine Go.st (fun t k => XS.astore X1.here hx rfl (hb hby at_24) rfl rfl (l' := #[.val (.int p1), .val (.int p2), .val (.int (17 : Int32)), .val (.int (0 : Int32)), .val (.ref (K 17)), .unset]) rfl k) ?_
      show Go p.tables e below PP (T1.setTop (mkF m 26 #[.val (.int p1), .val (.int p2), .val (.int (17 : Int32)), .val (.int (0 : Int32)), .val (.ref (K 17)), .unset] []))
      refine Go.st (fun t k => XS.aload X1.here hx rfl (hb hby at_26) rfl rfl k) ?_
      show Go p.tables e below PP (T1.setTop (mkF m 28 #[.val (.int p1), .val (.int p2), .val (.int (17 : Int32)), .val (.int (0 : Int32)), .val (.ref (K 17)), .unset] [(.ref (K 17))]))
      obtain ⟨T30, X30, e30, st30⟩ := getS2 X1 hx hZ hown (host := "") (Or.inl (hw _ (List.mem_of_getElem? (i := 8) rfl))) Via.refl e1 (ks_15 hK).1 (g := (mkF m 28 #[.val (.int p1), .val (.int p2), .val (.int (17 : Int32)), .val (.int (0 : Int32)), .val (.ref (K 17)), .unset] [(.ref (K 17))])) rfl (hb hby at_28)
      refine Go.st st30 ?_
      show Go p.tables e below PP (T30.setTop (mkF m 31 #[.val (.int p1), .val (.int p2), .val (.int (17 : Int32)), .val (.int (0 : Int32)), .val (.ref (K 17)), .unset] [(.ref (K 15)), (.ref (K 17))]))
      refine Go.st (fun t k => Jvm.RoadKit.acmp (g := (mkF m 31 #[.val (.int p1), .val (.int p2), .val (.int (17 : Int32)), .val (.int (0 : Int32)), .val (.ref (K 17)), .unset] [(.ref (K 15)), (.ref (K 17))])) X30 hx rfl rfl rfl (pc0 := 31) (pc' := 40) (same := false) rfl (hb hby at_31) rfl (decide_eq_false fun q => (ne_exa (ks_17 hK).2.1 (ks_15 hK).2.1 (by decide)) (Value.ref.inj q)) (by decide) (by decide) k) ?_
      show Go p.tables e below PP (T30.setTop (mkF m 40 #[.val (.int p1), .val (.int p2), .val (.int (17 : Int32)), .val (.int (0 : Int32)), .val (.ref (K 17)), .unset] []))
      refine Go.st (fun t k => XS.aload X30.here hx rfl (hb hby at_40) rfl rfl k) ?_
      show Go p.tables e below PP (T30.setTop (mkF m 42 #[.val (.int p1), .val (.int p2), .val (.int (17 : Int32)), .val (.int (0 : Int32)), .val (.ref (K 17)), .unset] [(.ref (K 17))]))
      obtain ⟨T31, X31, e31, st31⟩ := getS2 X30 hx hZ hown (host := "") (Or.inl (hw _ (List.mem_of_getElem? (i := 5) rfl))) Via.refl e30 (ks_0 hK).1 (g := (mkF m 42 #[.val (.int p1), .val (.int p2), .val (.int (17 : Int32)), .val (.int (0 : Int32)), .val (.ref (K 17)), .unset] [(.ref (K 17))])) rfl (hb hby at_42)
      refine Go.st st31 ?_
      show Go p.tables e below PP (T31.setTop (mkF m 45 #[.val (.int p1), .val (.int p2), .val (.int (17 : Int32)), .val (.int (0 : Int32)), .val (.ref (K 17)), .unset] [(.ref (K 0)), (.ref (K 17))]))
      refine Go.st (fun t k => Jvm.RoadKit.acmp (g := (mkF m 45 #[.val (.int p1), .val (.int p2), .val (.int (17 : Int32)), .val (.int (0 : Int32)), .val (.ref (K 17)), .unset] [(.ref (K 0)), (.ref (K 17))])) X31 hx rfl rfl rfl (pc0 := 45) (pc' := 48) (same := false) rfl (hb hby at_45) rfl (decide_eq_false fun q => (ne_exa (ks_17 hK).2.1 (ks_0 hK).2.1 (by decide)) (Value.ref.inj q)) (by decide) (by decide) k) ?_
      show Go p.tables e below PP (T31.setTop (mkF m 48 #[.val (.int p1), .val (.int p2), .val (.int (17 : Int32)), .val (.int (0 : Int32)), .val (.ref (K 17)), .unset] []))
      refine Go.st (fun t k => XS.aload X31.here hx rfl (hb hby at_48) rfl rfl k) ?_
      show Go p.tables e below PP (T31.setTop (mkF m 50 #[.val (.int p1), .val (.int p2), .val (.int (17 : Int32)), .val (.int (0 : Int32)), .val (.ref (K 17)), .unset] [(.ref (K 17))]))
      obtain ⟨T32, X32, e32, st32⟩ := getS2 X31 hx hZ hown (host := "") (Or.inl (hw _ (List.mem_of_getElem? (i := 19) rfl))) Via.refl e31 (ks_1 hK).1 (g := (mkF m 50 #[.val (.int p1), .val (.int p2), .val (.int (17 : Int32)), .val (.int (0 : Int32)), .val (.ref (K 17)), .unset] [(.ref (K 17))])) rfl (hb hby at_50)
      refine Go.st st32 ?_
      show Go p.tables e below PP (T32.setTop (mkF m 53 #[.val (.int p1), .val (.int p2), .val (.int (17 : Int32)), .val (.int (0 : Int32)), .val (.ref (K 17)), .unset] [(.ref (K 1)), (.ref (K 17))]))
      refine Go.st (fun t k => Jvm.RoadKit.acmp (g := (mkF m 53 #[.val (.int p1), .val (.int p2), .val (.int (17 : Int32)), .val (.int (0 : Int32)), .val (.ref (K 17)), .unset] [(.ref (K 1)), (.ref (K 17))])) X32 hx rfl rfl rfl (pc0 := 53) (pc' := 56) (same := false) rfl (hb hby at_53) rfl (decide_eq_false fun q => (ne_exa (ks_17 hK).2.1 (ks_1 hK).2.1 (by decide)) (Value.ref.inj q)) (by decide) (by decide) k) ?_
      show Go p.tables e below PP (T32.setTop (mkF m 56 #[.val (.int p1), .val (.int p2), .val (.int (17 : Int32)), .val (.int (0 : Int32)), .val (.ref (K 17)), .unset] []))
      refine Go.st (fun t k => XS.aload X32.here hx rfl (hb hby at_56) rfl rfl k) ?_
      show Go p.tables e below PP (T32.setTop (mkF m 58 #[.val (.int p1), .val (.int p2), .val (.int (17 : Int32)), .val (.int (0 : Int32)), .val (.ref (K 17)), .unset] [(.ref (K 17))]))
      obtain ⟨T33, X33, e33, st33⟩ := getS2 X32 hx hZ hown (host := "") (Or.inl (hw _ (List.mem_of_getElem? (i := 21) rfl))) Via.refl e32 (ks_13 hK).1 (g := (mkF m 58 #[.val (.int p1), .val (.int p2), .val (.int (17 : Int32)), .val (.int (0 : Int32)), .val (.ref (K 17)), .unset] [(.ref (K 17))])) rfl (hb hby at_58)
      refine Go.st st33 ?_
      show Go p.tables e below PP (T33.setTop (mkF m 61 #[.val (.int p1), .val (.int p2), .val (.int (17 : Int32)), .val (.int (0 : Int32)), .val (.ref (K 17)), .unset] [(.ref (K 13)), (.ref (K 17))]))
      refine Go.st (fun t k => Jvm.RoadKit.acmp (g := (mkF m 61 #[.val (.int p1), .val (.int p2), .val (.int (17 : Int32)), .val (.int (0 : Int32)), .val (.ref (K 17)), .unset] [(.ref (K 13)), (.ref (K 17))])) X33 hx rfl rfl rfl (pc0 := 61) (pc' := 64) (same := false) rfl (hb hby at_61) rfl (decide_eq_false fun q => (ne_exa (ks_17 hK).2.1 (ks_13 hK).2.1 (by decide)) (Value.ref.inj q)) (by decide) (by decide) k) ?_
      show Go p.tables e below PP (T33.setTop (mkF m 64 #[.val (.int p1), .val (.int p2), .val (.int (17 : Int32)), .val (.int (0 : Int32)), .val (.ref (K 17)), .unset] []))
      refine Go.st (fun t k => XS.aload X33.here hx rfl (hb hby at_64) rfl rfl k) ?_
      show Go p.tables e below PP (T33.setTop (mkF m 66 #[.val (.int p1), .val (.int p2), .val (.int (17 : Int32)), .val (.int (0 : Int32)), .val (.ref (K 17)), .unset] [(.ref (K 17))]))
      obtain ⟨T34, X34, e34, st34⟩ := getS2 X33 hx hZ hown (host := "") (Or.inl (hw _ (List.mem_of_getElem? (i := 23) rfl))) Via.refl e33 (ks_16 hK).1 (g := (mkF m 66 #[.val (.int p1), .val (.int p2), .val (.int (17 : Int32)), .val (.int (0 : Int32)), .val (.ref (K 17)), .unset] [(.ref (K 17))])) rfl (hb hby at_66)
      refine Go.st st34 ?_
      show Go p.tables e below PP (T34.setTop (mkF m 69 #[.val (.int p1), .val (.int p2), .val (.int (17 : Int32)), .val (.int (0 : Int32)), .val (.ref (K 17)), .unset] [(.ref (K 16)), (.ref (K 17))]))
      refine Go.st (fun t k => Jvm.RoadKit.acmp (g := (mkF m 69 #[.val (.int p1), .val (.int p2), .val (.int (17 : Int32)), .val (.int (0 : Int32)), .val (.ref (K 17)), .unset] [(.ref (K 16)), (.ref (K 17))])) X34 hx rfl rfl rfl (pc0 := 69) (pc' := 72) (same := false) rfl (hb hby at_69) rfl (decide_eq_false fun q => (ne_exa (ks_17 hK).2.1 (ks_16 hK).2.1 (by decide)) (Value.ref.inj q)) (by decide) (by decide) k) ?_
      show Go p.tables e below PP (T34.setTop (mkF m 72 #[.val (.int p1), .val (.int p2), .val (.int (17 : Int32)), .val (.int (0 : Int32)), .val (.ref (K 17)), .unset] []))
      refine Go.st (fun t k => XS.aload X34.here hx rfl (hb hby at_72) rfl rfl k) ?_
      show Go p.tables e below PP (T34.setTop (mkF m 74 #[.val (.int p1), .val (.int p2), .val (.int (17 : Int32)), .val (.int (0 : Int32)), .val (.ref (K 17)), .unset] [(.ref (K 17))]))
      obtain ⟨T35, X35, e35, st35⟩ := getS2 X34 hx hZ hown (host := "") (Or.inl (hw _ (List.mem_of_getElem? (i := 25) rfl))) Via.refl e34 (ks_17 hK).1 (g := (mkF m 74 #[.val (.int p1), .val (.int p2), .val (.int (17 : Int32)), .val (.int (0 : Int32)), .val (.ref (K 17)), .unset] [(.ref (K 17))])) rfl (hb hby at_74)
      refine Go.st st35 ?_
      show Go p.tables e below PP (T35.setTop (mkF m 77 #[.val (.int p1), .val (.int p2), .val (.int (17 : Int32)), .val (.int (0 : Int32)), .val (.ref (K 17)), .unset] [(.ref (K 17)), (.ref (K 17))]))
      refine Go.st (fun t k => Jvm.RoadKit.acmp (g := (mkF m 77 #[.val (.int p1), .val (.int p2), .val (.int (17 : Int32)), .val (.int (0 : Int32)), .val (.ref (K 17)), .unset] [(.ref (K 17)), (.ref (K 17))])) X35 hx rfl rfl rfl (pc0 := 77) (pc' := 80) (same := true) rfl (hb hby at_77) rfl (decide_eq_true rfl) (by decide) (by decide) k) ?_
      show Go p.tables e below PP (T35.setTop (mkF m 80 #[.val (.int p1), .val (.int p2), .val (.int (17 : Int32)), .val (.int (0 : Int32)), .val (.ref (K 17)), .unset] []))
      refine Go.st (fun t k => XS.iloadN X35.here hx rfl (hb hby at_80) rfl k) ?_
      show Go p.tables e below PP (T35.setTop (mkF m 81 #[.val (.int p1), .val (.int p2), .val (.int (17 : Int32)), .val (.int (0 : Int32)), .val (.ref (K 17)), .unset] [(.int (0 : Int32))]))
      refine Go.st (fun t k => XS.istore X35.here hx rfl (hb hby at_81) rfl (l' := #[.val (.int p1), .val (.int p2), .val (.int (17 : Int32)), .val (.int (0 : Int32)), .val (.ref (K 17)), .val (.int (0 : Int32))]) rfl k) ?_
      show Go p.tables e below PP (T35.setTop (mkF m 83 #[.val (.int p1), .val (.int p2), .val (.int (17 : Int32)), .val (.int (0 : Int32)), .val (.ref (K 17)), .val (.int (0 : Int32))] []))
      refine Go.st (fun t k => XS.goto X35.here hx rfl (pc0 := 83) (pc' := 97) rfl (hb hby at_83) (by decide) (by decide) k) ?_
      show Go p.tables e below PP (T35.setTop (mkF m 97 #[.val (.int p1), .val (.int p2), .val (.int (17 : Int32)), .val (.int (0 : Int32)), .val (.ref (K 17)), .val (.int (0 : Int32))] []))
      refine Go.st (fun t k => XS.aload X35.here hx rfl (hb hby at_97) rfl rfl k) ?_
      show Go p.tables e below PP (T35.setTop (mkF m 99 #[.val (.int p1), .val (.int p2), .val (.int (17 : Int32)), .val (.int (0 : Int32)), .val (.ref (K 17)), .val (.int (0 : Int32))] [(.ref (K 17))]))
      refine Go.st (fun t k => XS.iloadN X35.here hx rfl (hb hby at_99) rfl k) ?_
      show Go p.tables e below PP (T35.setTop (mkF m 100 #[.val (.int p1), .val (.int p2), .val (.int (17 : Int32)), .val (.int (0 : Int32)), .val (.ref (K 17)), .val (.int (0 : Int32))] [(.int (0 : Int32)), (.ref (K 17))]))
      obtain ⟨v36, T36, L36, X36, hQ36, st36⟩ := callVi X35 hx hZ (C := "com/example/llave/llave/model/CqlType$Kind$18") (y := (⟨"com/example/llave/llave/model/CqlType$Kind", "takesLiteral", "(Z)Z"⟩ : MethodName)) (z := (⟨"com/example/llave/llave/model/CqlType$Kind", "takesLiteral", "(Z)Z"⟩ : MethodName)) (a := (K 17)) (argsL := [(.int (0 : Int32))]) (rest := []) hown (hw _ (List.mem_of_getElem? (i := 10) rfl)) (hw _ (List.mem_of_getElem? (i := 11) rfl)) (notFace_of_selects (args := #[]) (mvT hZ (hw _ (List.mem_of_getElem? (i := 99) rfl)))) (hw _ (List.mem_of_getElem? (i := 99) rfl)) (hw _ (List.mem_of_getElem? (i := 12) rfl)) (hw _ (List.mem_of_getElem? (i := 6) rfl)) (hw _ (List.mem_of_getElem? (i := 14) rfl)) (by decide) rfl (ks_17 hK).2.1 (rm2 l Z a0 hw [] (K 17) (0 : Int32) (1 : Int32) h0 n0 Zn (ks_17 hK).2.2) e35 0 (by decide) (by decide) (by decide) (by decide) (g := (mkF m 100 #[.val (.int p1), .val (.int p2), .val (.int (17 : Int32)), .val (.int (0 : Int32)), .val (.ref (K 17)), .val (.int (0 : Int32))] [(.int (0 : Int32)), (.ref (K 17))])) rfl (by rw [hml]; rfl) (lenOf pd_1 rfl) rfl (by show 2 * 0 + _ ≤ _; exact Nat.le_of_eq rfl) (hb hby at_100)
      obtain ⟨rfl, rfl, e36⟩ := hQ36
      rw [List.append_nil] at X36
      refine Go.st st36 ?_
      show Go p.tables e below PP (T36.setTop (mkF m 103 #[.val (.int p1), .val (.int p2), .val (.int (17 : Int32)), .val (.int (0 : Int32)), .val (.ref (K 17)), .val (.int (0 : Int32))] [(.int (bi ((0 : Int32) = (1 : Int32))))]))
      refine Go.st (fun t k => XS.iload X36.here hx rfl (hb hby at_103) rfl k) ?_
      show Go p.tables e below PP (T36.setTop (mkF m 105 #[.val (.int p1), .val (.int p2), .val (.int (17 : Int32)), .val (.int (0 : Int32)), .val (.ref (K 17)), .val (.int (0 : Int32))] [(.int (0 : Int32)), (.int (bi ((0 : Int32) = (1 : Int32))))]))
      refine Go.st (fun t k => XS.icmpNo X36.here hx rfl (hb hby at_105) rfl (XT.ii_ne_f (by decide)) k) ?_
      show Go p.tables e below PP (T36.setTop (mkF m 108 #[.val (.int p1), .val (.int p2), .val (.int (17 : Int32)), .val (.int (0 : Int32)), .val (.ref (K 17)), .val (.int (0 : Int32))] []))
      refine Go.st (fun t k => XS.iconst X36.here hx rfl (hb hby at_108) k) ?_
      show Go p.tables e below PP (T36.setTop (mkF m 109 #[.val (.int p1), .val (.int p2), .val (.int (17 : Int32)), .val (.int (0 : Int32)), .val (.ref (K 17)), .val (.int (0 : Int32))] [(.int (1 : Int32))]))
      refine Go.st (fun t k => XS.goto X36.here hx rfl (pc0 := 109) (pc' := 113) rfl (hb hby at_109) (by decide) (by decide) k) ?_
      show Go p.tables e below PP (T36.setTop (mkF m 113 #[.val (.int p1), .val (.int p2), .val (.int (17 : Int32)), .val (.int (0 : Int32)), .val (.ref (K 17)), .val (.int (0 : Int32))] [(.int (1 : Int32))]))
      rw [hPP]
      refine endN X36 hx hlk (t := .boolean) hret (by simp) (hb hby at_113) (w := (1 : Int32)) (rfl) ?_ (by decide) (by decide)
      show Q0 Z p1 p2 K h0 n0 (some (.int (1 : Int32))) T36.heap _
      rw [e36]
      exact ⟨rfl, N0⟩
    · --
      subst hj
      show Go p.tables e below PP (T1.setTop (mkF m 24 #[.val (.int p1), .val (.int p2), .val (.int (18 : Int32)), .val (.int (0 : Int32)), .unset, .unset] [(.ref (K 18))]))
      exact J24 _ _ _ _ X1 e1 N0 ⟨(ks_18 hK).2.1, (hw _ (List.mem_of_getElem? (i := 81) rfl)), (ks_18 hK).2.2, ne_exa (ks_18 hK).2.1 (ks_15 hK).2.1 (by decide), ne_exa (ks_18 hK).2.1 (ks_0 hK).2.1 (by decide), ne_exa (ks_18 hK).2.1 (ks_1 hK).2.1 (by decide), ne_exa (ks_18 hK).2.1 (ks_13 hK).2.1 (by decide), ne_exa (ks_18 hK).2.1 (ks_16 hK).2.1 (by decide), ne_exa (ks_18 hK).2.1 (ks_17 hK).2.1 (by decide)⟩
    · --
      subst hj
      show Go p.tables e below PP (T1.setTop (mkF m 24 #[.val (.int p1), .val (.int p2), .val (.int (19 : Int32)), .val (.int (0 : Int32)), .unset, .unset] [(.ref (K 19))]))
      exact J24 _ _ _ _ X1 e1 N0 ⟨(ks_19 hK).2.1, (hw _ (List.mem_of_getElem? (i := 93) rfl)), (ks_19 hK).2.2, ne_exa (ks_19 hK).2.1 (ks_15 hK).2.1 (by decide), ne_exa (ks_19 hK).2.1 (ks_0 hK).2.1 (by decide), ne_exa (ks_19 hK).2.1 (ks_1 hK).2.1 (by decide), ne_exa (ks_19 hK).2.1 (ks_13 hK).2.1 (by decide), ne_exa (ks_19 hK).2.1 (ks_16 hK).2.1 (by decide), ne_exa (ks_19 hK).2.1 (ks_17 hK).2.1 (by decide)⟩
    · --
      subst hj
      show Go p.tables e below PP (T1.setTop (mkF m 24 #[.val (.int p1), .val (.int p2), .val (.int (20 : Int32)), .val (.int (0 : Int32)), .unset, .unset] [(.ref (K 20))]))
      exact J24 _ _ _ _ X1 e1 N0 ⟨(ks_20 hK).2.1, (hw _ (List.mem_of_getElem? (i := 31) rfl)), (ks_20 hK).2.2, ne_exa (ks_20 hK).2.1 (ks_15 hK).2.1 (by decide), ne_exa (ks_20 hK).2.1 (ks_0 hK).2.1 (by decide), ne_exa (ks_20 hK).2.1 (ks_1 hK).2.1 (by decide), ne_exa (ks_20 hK).2.1 (ks_13 hK).2.1 (by decide), ne_exa (ks_20 hK).2.1 (ks_16 hK).2.1 (by decide), ne_exa (ks_20 hK).2.1 (ks_17 hK).2.1 (by decide)⟩
    · --
      subst hj
      show Go p.tables e below PP (T1.setTop (mkF m 24 #[.val (.int p1), .val (.int p2), .val (.int (21 : Int32)), .val (.int (0 : Int32)), .unset, .unset] [(.ref (K 21))]))
      exact J24 _ _ _ _ X1 e1 N0 ⟨(ks_21 hK).2.1, (hw _ (List.mem_of_getElem? (i := 77) rfl)), (ks_21 hK).2.2, ne_exa (ks_21 hK).2.1 (ks_15 hK).2.1 (by decide), ne_exa (ks_21 hK).2.1 (ks_0 hK).2.1 (by decide), ne_exa (ks_21 hK).2.1 (ks_1 hK).2.1 (by decide), ne_exa (ks_21 hK).2.1 (ks_13 hK).2.1 (by decide), ne_exa (ks_21 hK).2.1 (ks_16 hK).2.1 (by decide), ne_exa (ks_21 hK).2.1 (ks_17 hK).2.1 (by decide)⟩
  · --
    refine Go.st (fun t k => XS.ifNo X0.here hx rfl (hb hby at_11) rfl (XT.i0_eq_f hc11) k) ?_
    show Go p.tables e below PP (s₁.setTop (mkF m 14 #[.val (.int p1), .val (.int p2), .val (.int i), .unset, .unset, .unset] []))
    refine Go.st (fun t k => XS.iconst X0.here hx rfl (hb hby at_14) k) ?_
    show Go p.tables e below PP (s₁.setTop (mkF m 15 #[.val (.int p1), .val (.int p2), .val (.int i), .unset, .unset, .unset] [(.int (1 : Int32))]))
    refine Go.st (fun t k => XS.goto X0.here hx rfl (pc0 := 15) (pc' := 19) rfl (hb hby at_15) (by decide) (by decide) k) ?_
    show Go p.tables e below PP (s₁.setTop (mkF m 19 #[.val (.int p1), .val (.int p2), .val (.int i), .unset, .unset, .unset] [(.int (1 : Int32))]))
    refine Go.st (fun t k => XS.istoreN X0.here hx rfl (hb hby at_19) rfl (l' := #[.val (.int p1), .val (.int p2), .val (.int i), .val (.int (1 : Int32)), .unset, .unset]) rfl k) ?_
    show Go p.tables e below PP (s₁.setTop (mkF m 20 #[.val (.int p1), .val (.int p2), .val (.int i), .val (.int (1 : Int32)), .unset, .unset] []))
    refine Go.st (fun t k => XS.iloadN X0.here hx rfl (hb hby at_20) rfl k) ?_
    show Go p.tables e below PP (s₁.setTop (mkF m 21 #[.val (.int p1), .val (.int p2), .val (.int i), .val (.int (1 : Int32)), .unset, .unset] [(.int i)]))
    obtain ⟨v37, T37, L37, X37, hQ37, st37⟩ := callSt X0 hx hZ (y := (⟨"com/example/llave/llave/model/CqlTypeTakesLiteralPinLaw", "kindAt", "(I)Lcom/example/llave/llave/model/CqlType$Kind;"⟩ : MethodName)) (argsL := [(.int i)]) (rest := []) hown (hw _ (List.mem_of_getElem? (i := 1) rfl)) (hw _ (List.mem_of_getElem? (i := 2) rfl)) (hw _ (List.mem_of_getElem? (i := 3) rfl)) (hw _ (List.mem_of_getElem? (i := 4) rfl)) (by decide) (rm1 l Z a0 hw [] i K h0 n0 Zn hK (own_22 _ _ hi)) e0 0 (by decide) (by decide) (by decide) (by decide) (g := (mkF m 21 #[.val (.int p1), .val (.int p2), .val (.int i), .val (.int (1 : Int32)), .unset, .unset] [(.int i)])) rfl (by rw [hml]; rfl) (lenOf pd_0 rfl) rfl (by show 2 * 0 + _ ≤ _; exact Nat.le_of_eq rfl) (hb hby at_21)
    obtain ⟨rfl, rfl, e37⟩ := hQ37
    rw [List.append_nil] at X37
    refine Go.st st37 ?_
    show Go p.tables e below PP (T37.setTop (mkF m 24 #[.val (.int p1), .val (.int p2), .val (.int i), .val (.int (1 : Int32)), .unset, .unset] [(.ref (K i.toNatClampNeg))]))
    have J24 : ∀ (T38 : State) (L38 : List Loc) (ax : Addr) (Cx : String), Stand p l e room_1 s m #[(.int p1), (.int p2)] below meth c T38 L38 0 0 → T38.heap = h0 → Fr n0 L38 → (Exa Z h0 ax Cx ∧ (Jvm.Cond.selects Cx ({ cls := "com/example/llave/llave/model/CqlType$Kind", name := "takesLiteral", desc := "(Z)Z" } : Jvm.MethodName) ({ cls := "com/example/llave/llave/model/CqlType$Kind", name := "takesLiteral", desc := "(Z)Z" } : Jvm.MethodName)).before a0 Z = true ∧ Fld Z h0 ax "com/example/llave/llave/model/CqlType$Kind" "quotedLiteral" "Z" (.int (0 : Int32)) ∧ ax ≠ K 15 ∧ ax ≠ K 0 ∧ ax ≠ K 1 ∧ ax ≠ K 13 ∧ ax ≠ K 16 ∧ ax ≠ K 17) → Go p.tables e below PP (T38.setTop (mkF m 24 #[.val (.int p1), .val (.int p2), .val (.int i), .val (.int (1 : Int32)), .unset, .unset] [(.ref ax)])) := by
      intro T38 L38 ax Cx X38 e38 N38 hJ24
      show Go p.tables e below PP (T38.setTop (mkF m 24 #[.val (.int p1), .val (.int p2), .val (.int i), .val (.int (1 : Int32)), .unset, .unset] [(.ref ax)]))
      refine Go.st (fun t k => XS.astore X38.here hx rfl (hb hby at_24) rfl rfl (l' := #[.val (.int p1), .val (.int p2), .val (.int i), .val (.int (1 : Int32)), .val (.ref ax), .unset]) rfl k) ?_
      show Go p.tables e below PP (T38.setTop (mkF m 26 #[.val (.int p1), .val (.int p2), .val (.int i), .val (.int (1 : Int32)), .val (.ref ax), .unset] []))
      refine Go.st (fun t k => XS.aload X38.here hx rfl (hb hby at_26) rfl rfl k) ?_
      show Go p.tables e below PP (T38.setTop (mkF m 28 #[.val (.int p1), .val (.int p2), .val (.int i), .val (.int (1 : Int32)), .val (.ref ax), .unset] [(.ref ax)]))
      obtain ⟨T39, X39, e39, st39⟩ := getS2 X38 hx hZ hown (host := "") (Or.inl (hw _ (List.mem_of_getElem? (i := 8) rfl))) Via.refl e38 (ks_15 hK).1 (g := (mkF m 28 #[.val (.int p1), .val (.int p2), .val (.int i), .val (.int (1 : Int32)), .val (.ref ax), .unset] [(.ref ax)])) rfl (hb hby at_28)
      refine Go.st st39 ?_
      show Go p.tables e below PP (T39.setTop (mkF m 31 #[.val (.int p1), .val (.int p2), .val (.int i), .val (.int (1 : Int32)), .val (.ref ax), .unset] [(.ref (K 15)), (.ref ax)]))
      refine Go.st (fun t k => Jvm.RoadKit.acmp (g := (mkF m 31 #[.val (.int p1), .val (.int p2), .val (.int i), .val (.int (1 : Int32)), .val (.ref ax), .unset] [(.ref (K 15)), (.ref ax)])) X39 hx rfl rfl rfl (pc0 := 31) (pc' := 40) (same := false) rfl (hb hby at_31) rfl (decide_eq_false fun q => hJ24.2.2.2.1 (Value.ref.inj q)) (by decide) (by decide) k) ?_
      show Go p.tables e below PP (T39.setTop (mkF m 40 #[.val (.int p1), .val (.int p2), .val (.int i), .val (.int (1 : Int32)), .val (.ref ax), .unset] []))
      refine Go.st (fun t k => XS.aload X39.here hx rfl (hb hby at_40) rfl rfl k) ?_
      show Go p.tables e below PP (T39.setTop (mkF m 42 #[.val (.int p1), .val (.int p2), .val (.int i), .val (.int (1 : Int32)), .val (.ref ax), .unset] [(.ref ax)]))
      obtain ⟨T40, X40, e40, st40⟩ := getS2 X39 hx hZ hown (host := "") (Or.inl (hw _ (List.mem_of_getElem? (i := 5) rfl))) Via.refl e39 (ks_0 hK).1 (g := (mkF m 42 #[.val (.int p1), .val (.int p2), .val (.int i), .val (.int (1 : Int32)), .val (.ref ax), .unset] [(.ref ax)])) rfl (hb hby at_42)
      refine Go.st st40 ?_
      show Go p.tables e below PP (T40.setTop (mkF m 45 #[.val (.int p1), .val (.int p2), .val (.int i), .val (.int (1 : Int32)), .val (.ref ax), .unset] [(.ref (K 0)), (.ref ax)]))
      refine Go.st (fun t k => Jvm.RoadKit.acmp (g := (mkF m 45 #[.val (.int p1), .val (.int p2), .val (.int i), .val (.int (1 : Int32)), .val (.ref ax), .unset] [(.ref (K 0)), (.ref ax)])) X40 hx rfl rfl rfl (pc0 := 45) (pc' := 48) (same := false) rfl (hb hby at_45) rfl (decide_eq_false fun q => hJ24.2.2.2.2.1 (Value.ref.inj q)) (by decide) (by decide) k) ?_
      show Go p.tables e below PP (T40.setTop (mkF m 48 #[.val (.int p1), .val (.int p2), .val (.int i), .val (.int (1 : Int32)), .val (.ref ax), .unset] []))
      refine Go.st (fun t k => XS.aload X40.here hx rfl (hb hby at_48) rfl rfl k) ?_
      show Go p.tables e below PP (T40.setTop (mkF m 50 #[.val (.int p1), .val (.int p2), .val (.int i), .val (.int (1 : Int32)), .val (.ref ax), .unset] [(.ref ax)]))
      obtain ⟨T41, X41, e41, st41⟩ := getS2 X40 hx hZ hown (host := "") (Or.inl (hw _ (List.mem_of_getElem? (i := 19) rfl))) Via.refl e40 (ks_1 hK).1 (g := (mkF m 50 #[.val (.int p1), .val (.int p2), .val (.int i), .val (.int (1 : Int32)), .val (.ref ax), .unset] [(.ref ax)])) rfl (hb hby at_50)
      refine Go.st st41 ?_
      show Go p.tables e below PP (T41.setTop (mkF m 53 #[.val (.int p1), .val (.int p2), .val (.int i), .val (.int (1 : Int32)), .val (.ref ax), .unset] [(.ref (K 1)), (.ref ax)]))
      refine Go.st (fun t k => Jvm.RoadKit.acmp (g := (mkF m 53 #[.val (.int p1), .val (.int p2), .val (.int i), .val (.int (1 : Int32)), .val (.ref ax), .unset] [(.ref (K 1)), (.ref ax)])) X41 hx rfl rfl rfl (pc0 := 53) (pc' := 56) (same := false) rfl (hb hby at_53) rfl (decide_eq_false fun q => hJ24.2.2.2.2.2.1 (Value.ref.inj q)) (by decide) (by decide) k) ?_
      show Go p.tables e below PP (T41.setTop (mkF m 56 #[.val (.int p1), .val (.int p2), .val (.int i), .val (.int (1 : Int32)), .val (.ref ax), .unset] []))
      refine Go.st (fun t k => XS.aload X41.here hx rfl (hb hby at_56) rfl rfl k) ?_
      show Go p.tables e below PP (T41.setTop (mkF m 58 #[.val (.int p1), .val (.int p2), .val (.int i), .val (.int (1 : Int32)), .val (.ref ax), .unset] [(.ref ax)]))
      obtain ⟨T42, X42, e42, st42⟩ := getS2 X41 hx hZ hown (host := "") (Or.inl (hw _ (List.mem_of_getElem? (i := 21) rfl))) Via.refl e41 (ks_13 hK).1 (g := (mkF m 58 #[.val (.int p1), .val (.int p2), .val (.int i), .val (.int (1 : Int32)), .val (.ref ax), .unset] [(.ref ax)])) rfl (hb hby at_58)
      refine Go.st st42 ?_
      show Go p.tables e below PP (T42.setTop (mkF m 61 #[.val (.int p1), .val (.int p2), .val (.int i), .val (.int (1 : Int32)), .val (.ref ax), .unset] [(.ref (K 13)), (.ref ax)]))
      refine Go.st (fun t k => Jvm.RoadKit.acmp (g := (mkF m 61 #[.val (.int p1), .val (.int p2), .val (.int i), .val (.int (1 : Int32)), .val (.ref ax), .unset] [(.ref (K 13)), (.ref ax)])) X42 hx rfl rfl rfl (pc0 := 61) (pc' := 64) (same := false) rfl (hb hby at_61) rfl (decide_eq_false fun q => hJ24.2.2.2.2.2.2.1 (Value.ref.inj q)) (by decide) (by decide) k) ?_
      show Go p.tables e below PP (T42.setTop (mkF m 64 #[.val (.int p1), .val (.int p2), .val (.int i), .val (.int (1 : Int32)), .val (.ref ax), .unset] []))
      refine Go.st (fun t k => XS.aload X42.here hx rfl (hb hby at_64) rfl rfl k) ?_
      show Go p.tables e below PP (T42.setTop (mkF m 66 #[.val (.int p1), .val (.int p2), .val (.int i), .val (.int (1 : Int32)), .val (.ref ax), .unset] [(.ref ax)]))
      obtain ⟨T43, X43, e43, st43⟩ := getS2 X42 hx hZ hown (host := "") (Or.inl (hw _ (List.mem_of_getElem? (i := 23) rfl))) Via.refl e42 (ks_16 hK).1 (g := (mkF m 66 #[.val (.int p1), .val (.int p2), .val (.int i), .val (.int (1 : Int32)), .val (.ref ax), .unset] [(.ref ax)])) rfl (hb hby at_66)
      refine Go.st st43 ?_
      show Go p.tables e below PP (T43.setTop (mkF m 69 #[.val (.int p1), .val (.int p2), .val (.int i), .val (.int (1 : Int32)), .val (.ref ax), .unset] [(.ref (K 16)), (.ref ax)]))
      refine Go.st (fun t k => Jvm.RoadKit.acmp (g := (mkF m 69 #[.val (.int p1), .val (.int p2), .val (.int i), .val (.int (1 : Int32)), .val (.ref ax), .unset] [(.ref (K 16)), (.ref ax)])) X43 hx rfl rfl rfl (pc0 := 69) (pc' := 72) (same := false) rfl (hb hby at_69) rfl (decide_eq_false fun q => hJ24.2.2.2.2.2.2.2.1 (Value.ref.inj q)) (by decide) (by decide) k) ?_
      show Go p.tables e below PP (T43.setTop (mkF m 72 #[.val (.int p1), .val (.int p2), .val (.int i), .val (.int (1 : Int32)), .val (.ref ax), .unset] []))
      refine Go.st (fun t k => XS.aload X43.here hx rfl (hb hby at_72) rfl rfl k) ?_
      show Go p.tables e below PP (T43.setTop (mkF m 74 #[.val (.int p1), .val (.int p2), .val (.int i), .val (.int (1 : Int32)), .val (.ref ax), .unset] [(.ref ax)]))
      obtain ⟨T44, X44, e44, st44⟩ := getS2 X43 hx hZ hown (host := "") (Or.inl (hw _ (List.mem_of_getElem? (i := 25) rfl))) Via.refl e43 (ks_17 hK).1 (g := (mkF m 74 #[.val (.int p1), .val (.int p2), .val (.int i), .val (.int (1 : Int32)), .val (.ref ax), .unset] [(.ref ax)])) rfl (hb hby at_74)
      refine Go.st st44 ?_
      show Go p.tables e below PP (T44.setTop (mkF m 77 #[.val (.int p1), .val (.int p2), .val (.int i), .val (.int (1 : Int32)), .val (.ref ax), .unset] [(.ref (K 17)), (.ref ax)]))
      refine Go.st (fun t k => Jvm.RoadKit.acmp (g := (mkF m 77 #[.val (.int p1), .val (.int p2), .val (.int i), .val (.int (1 : Int32)), .val (.ref ax), .unset] [(.ref (K 17)), (.ref ax)])) X44 hx rfl rfl rfl (pc0 := 77) (pc' := 86) (same := false) rfl (hb hby at_77) rfl (decide_eq_false fun q => hJ24.2.2.2.2.2.2.2.2 (Value.ref.inj q)) (by decide) (by decide) k) ?_
      show Go p.tables e below PP (T44.setTop (mkF m 86 #[.val (.int p1), .val (.int p2), .val (.int i), .val (.int (1 : Int32)), .val (.ref ax), .unset] []))
      refine Go.st (fun t k => XS.iloadN X44.here hx rfl (hb hby at_86) rfl k) ?_
      show Go p.tables e below PP (T44.setTop (mkF m 87 #[.val (.int p1), .val (.int p2), .val (.int i), .val (.int (1 : Int32)), .val (.ref ax), .unset] [(.int (1 : Int32))]))
      refine Go.st (fun t k => XS.ifYes X44.here hx rfl (pc0 := 87) (pc' := 94) rfl (hb hby at_87) rfl (XT.i0_ne_t (by decide)) (by decide) (by decide) k) ?_
      show Go p.tables e below PP (T44.setTop (mkF m 94 #[.val (.int p1), .val (.int p2), .val (.int i), .val (.int (1 : Int32)), .val (.ref ax), .unset] []))
      refine Go.st (fun t k => XS.iconst X44.here hx rfl (hb hby at_94) k) ?_
      show Go p.tables e below PP (T44.setTop (mkF m 95 #[.val (.int p1), .val (.int p2), .val (.int i), .val (.int (1 : Int32)), .val (.ref ax), .unset] [(.int (0 : Int32))]))
      refine Go.st (fun t k => XS.istore X44.here hx rfl (hb hby at_95) rfl (l' := #[.val (.int p1), .val (.int p2), .val (.int i), .val (.int (1 : Int32)), .val (.ref ax), .val (.int (0 : Int32))]) rfl k) ?_
      show Go p.tables e below PP (T44.setTop (mkF m 97 #[.val (.int p1), .val (.int p2), .val (.int i), .val (.int (1 : Int32)), .val (.ref ax), .val (.int (0 : Int32))] []))
      refine Go.st (fun t k => XS.aload X44.here hx rfl (hb hby at_97) rfl rfl k) ?_
      show Go p.tables e below PP (T44.setTop (mkF m 99 #[.val (.int p1), .val (.int p2), .val (.int i), .val (.int (1 : Int32)), .val (.ref ax), .val (.int (0 : Int32))] [(.ref ax)]))
      refine Go.st (fun t k => XS.iloadN X44.here hx rfl (hb hby at_99) rfl k) ?_
      show Go p.tables e below PP (T44.setTop (mkF m 100 #[.val (.int p1), .val (.int p2), .val (.int i), .val (.int (1 : Int32)), .val (.ref ax), .val (.int (0 : Int32))] [(.int (1 : Int32)), (.ref ax)]))
      obtain ⟨v45, T45, L45, X45, hQ45, st45⟩ := callVi X44 hx hZ (C := Cx) (y := (⟨"com/example/llave/llave/model/CqlType$Kind", "takesLiteral", "(Z)Z"⟩ : MethodName)) (z := (⟨"com/example/llave/llave/model/CqlType$Kind", "takesLiteral", "(Z)Z"⟩ : MethodName)) (a := ax) (argsL := [(.int (1 : Int32))]) (rest := []) hown (hw _ (List.mem_of_getElem? (i := 10) rfl)) (hw _ (List.mem_of_getElem? (i := 11) rfl)) (notFace_of_selects (args := #[]) (mvT hZ (hw _ (List.mem_of_getElem? (i := 13) rfl)))) hJ24.2.1 (hw _ (List.mem_of_getElem? (i := 12) rfl)) (hw _ (List.mem_of_getElem? (i := 6) rfl)) (hw _ (List.mem_of_getElem? (i := 14) rfl)) (by decide) rfl hJ24.1 (rm2 l Z a0 hw [] ax (1 : Int32) (0 : Int32) h0 n0 Zn hJ24.2.2.1) e44 0 (by decide) (by decide) (by decide) (by decide) (g := (mkF m 100 #[.val (.int p1), .val (.int p2), .val (.int i), .val (.int (1 : Int32)), .val (.ref ax), .val (.int (0 : Int32))] [(.int (1 : Int32)), (.ref ax)])) rfl (by rw [hml]; rfl) (lenOf pd_1 rfl) rfl (by show 2 * 0 + _ ≤ _; exact Nat.le_of_eq rfl) (hb hby at_100)
      obtain ⟨rfl, rfl, e45⟩ := hQ45
      rw [List.append_nil] at X45
      refine Go.st st45 ?_
      show Go p.tables e below PP (T45.setTop (mkF m 103 #[.val (.int p1), .val (.int p2), .val (.int i), .val (.int (1 : Int32)), .val (.ref ax), .val (.int (0 : Int32))] [(.int (bi ((1 : Int32) = (0 : Int32))))]))
      refine Go.st (fun t k => XS.iload X45.here hx rfl (hb hby at_103) rfl k) ?_
      show Go p.tables e below PP (T45.setTop (mkF m 105 #[.val (.int p1), .val (.int p2), .val (.int i), .val (.int (1 : Int32)), .val (.ref ax), .val (.int (0 : Int32))] [(.int (0 : Int32)), (.int (bi ((1 : Int32) = (0 : Int32))))]))
      refine Go.st (fun t k => XS.icmpNo X45.here hx rfl (hb hby at_105) rfl (XT.ii_ne_f (by decide)) k) ?_
      show Go p.tables e below PP (T45.setTop (mkF m 108 #[.val (.int p1), .val (.int p2), .val (.int i), .val (.int (1 : Int32)), .val (.ref ax), .val (.int (0 : Int32))] []))
      refine Go.st (fun t k => XS.iconst X45.here hx rfl (hb hby at_108) k) ?_
      show Go p.tables e below PP (T45.setTop (mkF m 109 #[.val (.int p1), .val (.int p2), .val (.int i), .val (.int (1 : Int32)), .val (.ref ax), .val (.int (0 : Int32))] [(.int (1 : Int32))]))
      refine Go.st (fun t k => XS.goto X45.here hx rfl (pc0 := 109) (pc' := 113) rfl (hb hby at_109) (by decide) (by decide) k) ?_
      show Go p.tables e below PP (T45.setTop (mkF m 113 #[.val (.int p1), .val (.int p2), .val (.int i), .val (.int (1 : Int32)), .val (.ref ax), .val (.int (0 : Int32))] [(.int (1 : Int32))]))
      rw [hPP]
      refine endN X45 hx hlk (t := .boolean) hret (by simp) (hb hby at_113) (w := (1 : Int32)) (rfl) ?_ (by decide) (by decide)
      show Q0 Z p1 p2 K h0 n0 (some (.int (1 : Int32))) T45.heap _
      rw [e45]
      exact ⟨rfl, N38⟩
    rcases own_22 _ _ hi with hj | hj | hj | hj | hj | hj | hj | hj | hj | hj | hj | hj | hj | hj | hj | hj | hj | hj | hj | hj | hj | hj
    · --
      subst hj
      show Go p.tables e below PP (T37.setTop (mkF m 24 #[.val (.int p1), .val (.int p2), .val (.int (0 : Int32)), .val (.int (1 : Int32)), .unset, .unset] [(.ref (K 0))]))
      refine Go.st (fun t k => XS.astore X37.here hx rfl (hb hby at_24) rfl rfl (l' := #[.val (.int p1), .val (.int p2), .val (.int (0 : Int32)), .val (.int (1 : Int32)), .val (.ref (K 0)), .unset]) rfl k) ?_
      show Go p.tables e below PP (T37.setTop (mkF m 26 #[.val (.int p1), .val (.int p2), .val (.int (0 : Int32)), .val (.int (1 : Int32)), .val (.ref (K 0)), .unset] []))
      refine Go.st (fun t k => XS.aload X37.here hx rfl (hb hby at_26) rfl rfl k) ?_
      show Go p.tables e below PP (T37.setTop (mkF m 28 #[.val (.int p1), .val (.int p2), .val (.int (0 : Int32)), .val (.int (1 : Int32)), .val (.ref (K 0)), .unset] [(.ref (K 0))]))
      obtain ⟨T46, X46, e46, st46⟩ := getS2 X37 hx hZ hown (host := "") (Or.inl (hw _ (List.mem_of_getElem? (i := 8) rfl))) Via.refl e37 (ks_15 hK).1 (g := (mkF m 28 #[.val (.int p1), .val (.int p2), .val (.int (0 : Int32)), .val (.int (1 : Int32)), .val (.ref (K 0)), .unset] [(.ref (K 0))])) rfl (hb hby at_28)
      refine Go.st st46 ?_
      show Go p.tables e below PP (T46.setTop (mkF m 31 #[.val (.int p1), .val (.int p2), .val (.int (0 : Int32)), .val (.int (1 : Int32)), .val (.ref (K 0)), .unset] [(.ref (K 15)), (.ref (K 0))]))
      refine Go.st (fun t k => Jvm.RoadKit.acmp (g := (mkF m 31 #[.val (.int p1), .val (.int p2), .val (.int (0 : Int32)), .val (.int (1 : Int32)), .val (.ref (K 0)), .unset] [(.ref (K 15)), (.ref (K 0))])) X46 hx rfl rfl rfl (pc0 := 31) (pc' := 40) (same := false) rfl (hb hby at_31) rfl (decide_eq_false fun q => (ne_exa (ks_0 hK).2.1 (ks_15 hK).2.1 (by decide)) (Value.ref.inj q)) (by decide) (by decide) k) ?_
      show Go p.tables e below PP (T46.setTop (mkF m 40 #[.val (.int p1), .val (.int p2), .val (.int (0 : Int32)), .val (.int (1 : Int32)), .val (.ref (K 0)), .unset] []))
      refine Go.st (fun t k => XS.aload X46.here hx rfl (hb hby at_40) rfl rfl k) ?_
      show Go p.tables e below PP (T46.setTop (mkF m 42 #[.val (.int p1), .val (.int p2), .val (.int (0 : Int32)), .val (.int (1 : Int32)), .val (.ref (K 0)), .unset] [(.ref (K 0))]))
      obtain ⟨T47, X47, e47, st47⟩ := getS2 X46 hx hZ hown (host := "") (Or.inl (hw _ (List.mem_of_getElem? (i := 5) rfl))) Via.refl e46 (ks_0 hK).1 (g := (mkF m 42 #[.val (.int p1), .val (.int p2), .val (.int (0 : Int32)), .val (.int (1 : Int32)), .val (.ref (K 0)), .unset] [(.ref (K 0))])) rfl (hb hby at_42)
      refine Go.st st47 ?_
      show Go p.tables e below PP (T47.setTop (mkF m 45 #[.val (.int p1), .val (.int p2), .val (.int (0 : Int32)), .val (.int (1 : Int32)), .val (.ref (K 0)), .unset] [(.ref (K 0)), (.ref (K 0))]))
      refine Go.st (fun t k => Jvm.RoadKit.acmp (g := (mkF m 45 #[.val (.int p1), .val (.int p2), .val (.int (0 : Int32)), .val (.int (1 : Int32)), .val (.ref (K 0)), .unset] [(.ref (K 0)), (.ref (K 0))])) X47 hx rfl rfl rfl (pc0 := 45) (pc' := 80) (same := true) rfl (hb hby at_45) rfl (decide_eq_true rfl) (by decide) (by decide) k) ?_
      show Go p.tables e below PP (T47.setTop (mkF m 80 #[.val (.int p1), .val (.int p2), .val (.int (0 : Int32)), .val (.int (1 : Int32)), .val (.ref (K 0)), .unset] []))
      refine Go.st (fun t k => XS.iloadN X47.here hx rfl (hb hby at_80) rfl k) ?_
      show Go p.tables e below PP (T47.setTop (mkF m 81 #[.val (.int p1), .val (.int p2), .val (.int (0 : Int32)), .val (.int (1 : Int32)), .val (.ref (K 0)), .unset] [(.int (1 : Int32))]))
      refine Go.st (fun t k => XS.istore X47.here hx rfl (hb hby at_81) rfl (l' := #[.val (.int p1), .val (.int p2), .val (.int (0 : Int32)), .val (.int (1 : Int32)), .val (.ref (K 0)), .val (.int (1 : Int32))]) rfl k) ?_
      show Go p.tables e below PP (T47.setTop (mkF m 83 #[.val (.int p1), .val (.int p2), .val (.int (0 : Int32)), .val (.int (1 : Int32)), .val (.ref (K 0)), .val (.int (1 : Int32))] []))
      refine Go.st (fun t k => XS.goto X47.here hx rfl (pc0 := 83) (pc' := 97) rfl (hb hby at_83) (by decide) (by decide) k) ?_
      show Go p.tables e below PP (T47.setTop (mkF m 97 #[.val (.int p1), .val (.int p2), .val (.int (0 : Int32)), .val (.int (1 : Int32)), .val (.ref (K 0)), .val (.int (1 : Int32))] []))
      refine Go.st (fun t k => XS.aload X47.here hx rfl (hb hby at_97) rfl rfl k) ?_
      show Go p.tables e below PP (T47.setTop (mkF m 99 #[.val (.int p1), .val (.int p2), .val (.int (0 : Int32)), .val (.int (1 : Int32)), .val (.ref (K 0)), .val (.int (1 : Int32))] [(.ref (K 0))]))
      refine Go.st (fun t k => XS.iloadN X47.here hx rfl (hb hby at_99) rfl k) ?_
      show Go p.tables e below PP (T47.setTop (mkF m 100 #[.val (.int p1), .val (.int p2), .val (.int (0 : Int32)), .val (.int (1 : Int32)), .val (.ref (K 0)), .val (.int (1 : Int32))] [(.int (1 : Int32)), (.ref (K 0))]))
      obtain ⟨v48, T48, L48, X48, hQ48, st48⟩ := callVi X47 hx hZ (C := "com/example/llave/llave/model/CqlType$Kind$1") (y := (⟨"com/example/llave/llave/model/CqlType$Kind", "takesLiteral", "(Z)Z"⟩ : MethodName)) (z := (⟨"com/example/llave/llave/model/CqlType$Kind", "takesLiteral", "(Z)Z"⟩ : MethodName)) (a := (K 0)) (argsL := [(.int (1 : Int32))]) (rest := []) hown (hw _ (List.mem_of_getElem? (i := 10) rfl)) (hw _ (List.mem_of_getElem? (i := 11) rfl)) (notFace_of_selects (args := #[]) (mvT hZ (hw _ (List.mem_of_getElem? (i := 13) rfl)))) (hw _ (List.mem_of_getElem? (i := 13) rfl)) (hw _ (List.mem_of_getElem? (i := 12) rfl)) (hw _ (List.mem_of_getElem? (i := 6) rfl)) (hw _ (List.mem_of_getElem? (i := 14) rfl)) (by decide) rfl (ks_0 hK).2.1 (rm2 l Z a0 hw [] (K 0) (1 : Int32) (1 : Int32) h0 n0 Zn (ks_0 hK).2.2) e47 0 (by decide) (by decide) (by decide) (by decide) (g := (mkF m 100 #[.val (.int p1), .val (.int p2), .val (.int (0 : Int32)), .val (.int (1 : Int32)), .val (.ref (K 0)), .val (.int (1 : Int32))] [(.int (1 : Int32)), (.ref (K 0))])) rfl (by rw [hml]; rfl) (lenOf pd_1 rfl) rfl (by show 2 * 0 + _ ≤ _; exact Nat.le_of_eq rfl) (hb hby at_100)
      obtain ⟨rfl, rfl, e48⟩ := hQ48
      rw [List.append_nil] at X48
      refine Go.st st48 ?_
      show Go p.tables e below PP (T48.setTop (mkF m 103 #[.val (.int p1), .val (.int p2), .val (.int (0 : Int32)), .val (.int (1 : Int32)), .val (.ref (K 0)), .val (.int (1 : Int32))] [(.int (bi ((1 : Int32) = (1 : Int32))))]))
      refine Go.st (fun t k => XS.iload X48.here hx rfl (hb hby at_103) rfl k) ?_
      show Go p.tables e below PP (T48.setTop (mkF m 105 #[.val (.int p1), .val (.int p2), .val (.int (0 : Int32)), .val (.int (1 : Int32)), .val (.ref (K 0)), .val (.int (1 : Int32))] [(.int (1 : Int32)), (.int (bi ((1 : Int32) = (1 : Int32))))]))
      refine Go.st (fun t k => XS.icmpNo X48.here hx rfl (hb hby at_105) rfl (XT.ii_ne_f (by decide)) k) ?_
      show Go p.tables e below PP (T48.setTop (mkF m 108 #[.val (.int p1), .val (.int p2), .val (.int (0 : Int32)), .val (.int (1 : Int32)), .val (.ref (K 0)), .val (.int (1 : Int32))] []))
      refine Go.st (fun t k => XS.iconst X48.here hx rfl (hb hby at_108) k) ?_
      show Go p.tables e below PP (T48.setTop (mkF m 109 #[.val (.int p1), .val (.int p2), .val (.int (0 : Int32)), .val (.int (1 : Int32)), .val (.ref (K 0)), .val (.int (1 : Int32))] [(.int (1 : Int32))]))
      refine Go.st (fun t k => XS.goto X48.here hx rfl (pc0 := 109) (pc' := 113) rfl (hb hby at_109) (by decide) (by decide) k) ?_
      show Go p.tables e below PP (T48.setTop (mkF m 113 #[.val (.int p1), .val (.int p2), .val (.int (0 : Int32)), .val (.int (1 : Int32)), .val (.ref (K 0)), .val (.int (1 : Int32))] [(.int (1 : Int32))]))
      rw [hPP]
      refine endN X48 hx hlk (t := .boolean) hret (by simp) (hb hby at_113) (w := (1 : Int32)) (rfl) ?_ (by decide) (by decide)
      show Q0 Z p1 p2 K h0 n0 (some (.int (1 : Int32))) T48.heap _
      rw [e48]
      exact ⟨rfl, N0⟩
    · --
      subst hj
      show Go p.tables e below PP (T37.setTop (mkF m 24 #[.val (.int p1), .val (.int p2), .val (.int (1 : Int32)), .val (.int (1 : Int32)), .unset, .unset] [(.ref (K 1))]))
      refine Go.st (fun t k => XS.astore X37.here hx rfl (hb hby at_24) rfl rfl (l' := #[.val (.int p1), .val (.int p2), .val (.int (1 : Int32)), .val (.int (1 : Int32)), .val (.ref (K 1)), .unset]) rfl k) ?_
      show Go p.tables e below PP (T37.setTop (mkF m 26 #[.val (.int p1), .val (.int p2), .val (.int (1 : Int32)), .val (.int (1 : Int32)), .val (.ref (K 1)), .unset] []))
      refine Go.st (fun t k => XS.aload X37.here hx rfl (hb hby at_26) rfl rfl k) ?_
      show Go p.tables e below PP (T37.setTop (mkF m 28 #[.val (.int p1), .val (.int p2), .val (.int (1 : Int32)), .val (.int (1 : Int32)), .val (.ref (K 1)), .unset] [(.ref (K 1))]))
      obtain ⟨T49, X49, e49, st49⟩ := getS2 X37 hx hZ hown (host := "") (Or.inl (hw _ (List.mem_of_getElem? (i := 8) rfl))) Via.refl e37 (ks_15 hK).1 (g := (mkF m 28 #[.val (.int p1), .val (.int p2), .val (.int (1 : Int32)), .val (.int (1 : Int32)), .val (.ref (K 1)), .unset] [(.ref (K 1))])) rfl (hb hby at_28)
      refine Go.st st49 ?_
      show Go p.tables e below PP (T49.setTop (mkF m 31 #[.val (.int p1), .val (.int p2), .val (.int (1 : Int32)), .val (.int (1 : Int32)), .val (.ref (K 1)), .unset] [(.ref (K 15)), (.ref (K 1))]))
      refine Go.st (fun t k => Jvm.RoadKit.acmp (g := (mkF m 31 #[.val (.int p1), .val (.int p2), .val (.int (1 : Int32)), .val (.int (1 : Int32)), .val (.ref (K 1)), .unset] [(.ref (K 15)), (.ref (K 1))])) X49 hx rfl rfl rfl (pc0 := 31) (pc' := 40) (same := false) rfl (hb hby at_31) rfl (decide_eq_false fun q => (ne_exa (ks_1 hK).2.1 (ks_15 hK).2.1 (by decide)) (Value.ref.inj q)) (by decide) (by decide) k) ?_
      show Go p.tables e below PP (T49.setTop (mkF m 40 #[.val (.int p1), .val (.int p2), .val (.int (1 : Int32)), .val (.int (1 : Int32)), .val (.ref (K 1)), .unset] []))
      refine Go.st (fun t k => XS.aload X49.here hx rfl (hb hby at_40) rfl rfl k) ?_
      show Go p.tables e below PP (T49.setTop (mkF m 42 #[.val (.int p1), .val (.int p2), .val (.int (1 : Int32)), .val (.int (1 : Int32)), .val (.ref (K 1)), .unset] [(.ref (K 1))]))
      obtain ⟨T50, X50, e50, st50⟩ := getS2 X49 hx hZ hown (host := "") (Or.inl (hw _ (List.mem_of_getElem? (i := 5) rfl))) Via.refl e49 (ks_0 hK).1 (g := (mkF m 42 #[.val (.int p1), .val (.int p2), .val (.int (1 : Int32)), .val (.int (1 : Int32)), .val (.ref (K 1)), .unset] [(.ref (K 1))])) rfl (hb hby at_42)
      refine Go.st st50 ?_
      show Go p.tables e below PP (T50.setTop (mkF m 45 #[.val (.int p1), .val (.int p2), .val (.int (1 : Int32)), .val (.int (1 : Int32)), .val (.ref (K 1)), .unset] [(.ref (K 0)), (.ref (K 1))]))
      refine Go.st (fun t k => Jvm.RoadKit.acmp (g := (mkF m 45 #[.val (.int p1), .val (.int p2), .val (.int (1 : Int32)), .val (.int (1 : Int32)), .val (.ref (K 1)), .unset] [(.ref (K 0)), (.ref (K 1))])) X50 hx rfl rfl rfl (pc0 := 45) (pc' := 48) (same := false) rfl (hb hby at_45) rfl (decide_eq_false fun q => (ne_exa (ks_1 hK).2.1 (ks_0 hK).2.1 (by decide)) (Value.ref.inj q)) (by decide) (by decide) k) ?_
      show Go p.tables e below PP (T50.setTop (mkF m 48 #[.val (.int p1), .val (.int p2), .val (.int (1 : Int32)), .val (.int (1 : Int32)), .val (.ref (K 1)), .unset] []))
      refine Go.st (fun t k => XS.aload X50.here hx rfl (hb hby at_48) rfl rfl k) ?_
      show Go p.tables e below PP (T50.setTop (mkF m 50 #[.val (.int p1), .val (.int p2), .val (.int (1 : Int32)), .val (.int (1 : Int32)), .val (.ref (K 1)), .unset] [(.ref (K 1))]))
      obtain ⟨T51, X51, e51, st51⟩ := getS2 X50 hx hZ hown (host := "") (Or.inl (hw _ (List.mem_of_getElem? (i := 19) rfl))) Via.refl e50 (ks_1 hK).1 (g := (mkF m 50 #[.val (.int p1), .val (.int p2), .val (.int (1 : Int32)), .val (.int (1 : Int32)), .val (.ref (K 1)), .unset] [(.ref (K 1))])) rfl (hb hby at_50)
      refine Go.st st51 ?_
      show Go p.tables e below PP (T51.setTop (mkF m 53 #[.val (.int p1), .val (.int p2), .val (.int (1 : Int32)), .val (.int (1 : Int32)), .val (.ref (K 1)), .unset] [(.ref (K 1)), (.ref (K 1))]))
      refine Go.st (fun t k => Jvm.RoadKit.acmp (g := (mkF m 53 #[.val (.int p1), .val (.int p2), .val (.int (1 : Int32)), .val (.int (1 : Int32)), .val (.ref (K 1)), .unset] [(.ref (K 1)), (.ref (K 1))])) X51 hx rfl rfl rfl (pc0 := 53) (pc' := 80) (same := true) rfl (hb hby at_53) rfl (decide_eq_true rfl) (by decide) (by decide) k) ?_
      show Go p.tables e below PP (T51.setTop (mkF m 80 #[.val (.int p1), .val (.int p2), .val (.int (1 : Int32)), .val (.int (1 : Int32)), .val (.ref (K 1)), .unset] []))
      refine Go.st (fun t k => XS.iloadN X51.here hx rfl (hb hby at_80) rfl k) ?_
      show Go p.tables e below PP (T51.setTop (mkF m 81 #[.val (.int p1), .val (.int p2), .val (.int (1 : Int32)), .val (.int (1 : Int32)), .val (.ref (K 1)), .unset] [(.int (1 : Int32))]))
      refine Go.st (fun t k => XS.istore X51.here hx rfl (hb hby at_81) rfl (l' := #[.val (.int p1), .val (.int p2), .val (.int (1 : Int32)), .val (.int (1 : Int32)), .val (.ref (K 1)), .val (.int (1 : Int32))]) rfl k) ?_
      show Go p.tables e below PP (T51.setTop (mkF m 83 #[.val (.int p1), .val (.int p2), .val (.int (1 : Int32)), .val (.int (1 : Int32)), .val (.ref (K 1)), .val (.int (1 : Int32))] []))
      refine Go.st (fun t k => XS.goto X51.here hx rfl (pc0 := 83) (pc' := 97) rfl (hb hby at_83) (by decide) (by decide) k) ?_
      show Go p.tables e below PP (T51.setTop (mkF m 97 #[.val (.int p1), .val (.int p2), .val (.int (1 : Int32)), .val (.int (1 : Int32)), .val (.ref (K 1)), .val (.int (1 : Int32))] []))
      refine Go.st (fun t k => XS.aload X51.here hx rfl (hb hby at_97) rfl rfl k) ?_
      show Go p.tables e below PP (T51.setTop (mkF m 99 #[.val (.int p1), .val (.int p2), .val (.int (1 : Int32)), .val (.int (1 : Int32)), .val (.ref (K 1)), .val (.int (1 : Int32))] [(.ref (K 1))]))
      refine Go.st (fun t k => XS.iloadN X51.here hx rfl (hb hby at_99) rfl k) ?_
      show Go p.tables e below PP (T51.setTop (mkF m 100 #[.val (.int p1), .val (.int p2), .val (.int (1 : Int32)), .val (.int (1 : Int32)), .val (.ref (K 1)), .val (.int (1 : Int32))] [(.int (1 : Int32)), (.ref (K 1))]))
      obtain ⟨v52, T52, L52, X52, hQ52, st52⟩ := callVi X51 hx hZ (C := "com/example/llave/llave/model/CqlType$Kind$2") (y := (⟨"com/example/llave/llave/model/CqlType$Kind", "takesLiteral", "(Z)Z"⟩ : MethodName)) (z := (⟨"com/example/llave/llave/model/CqlType$Kind", "takesLiteral", "(Z)Z"⟩ : MethodName)) (a := (K 1)) (argsL := [(.int (1 : Int32))]) (rest := []) hown (hw _ (List.mem_of_getElem? (i := 10) rfl)) (hw _ (List.mem_of_getElem? (i := 11) rfl)) (notFace_of_selects (args := #[]) (mvT hZ (hw _ (List.mem_of_getElem? (i := 63) rfl)))) (hw _ (List.mem_of_getElem? (i := 63) rfl)) (hw _ (List.mem_of_getElem? (i := 12) rfl)) (hw _ (List.mem_of_getElem? (i := 6) rfl)) (hw _ (List.mem_of_getElem? (i := 14) rfl)) (by decide) rfl (ks_1 hK).2.1 (rm2 l Z a0 hw [] (K 1) (1 : Int32) (1 : Int32) h0 n0 Zn (ks_1 hK).2.2) e51 0 (by decide) (by decide) (by decide) (by decide) (g := (mkF m 100 #[.val (.int p1), .val (.int p2), .val (.int (1 : Int32)), .val (.int (1 : Int32)), .val (.ref (K 1)), .val (.int (1 : Int32))] [(.int (1 : Int32)), (.ref (K 1))])) rfl (by rw [hml]; rfl) (lenOf pd_1 rfl) rfl (by show 2 * 0 + _ ≤ _; exact Nat.le_of_eq rfl) (hb hby at_100)
      obtain ⟨rfl, rfl, e52⟩ := hQ52
      rw [List.append_nil] at X52
      refine Go.st st52 ?_
      show Go p.tables e below PP (T52.setTop (mkF m 103 #[.val (.int p1), .val (.int p2), .val (.int (1 : Int32)), .val (.int (1 : Int32)), .val (.ref (K 1)), .val (.int (1 : Int32))] [(.int (bi ((1 : Int32) = (1 : Int32))))]))
      refine Go.st (fun t k => XS.iload X52.here hx rfl (hb hby at_103) rfl k) ?_
      show Go p.tables e below PP (T52.setTop (mkF m 105 #[.val (.int p1), .val (.int p2), .val (.int (1 : Int32)), .val (.int (1 : Int32)), .val (.ref (K 1)), .val (.int (1 : Int32))] [(.int (1 : Int32)), (.int (bi ((1 : Int32) = (1 : Int32))))]))
      refine Go.st (fun t k => XS.icmpNo X52.here hx rfl (hb hby at_105) rfl (XT.ii_ne_f (by decide)) k) ?_
      show Go p.tables e below PP (T52.setTop (mkF m 108 #[.val (.int p1), .val (.int p2), .val (.int (1 : Int32)), .val (.int (1 : Int32)), .val (.ref (K 1)), .val (.int (1 : Int32))] []))
      refine Go.st (fun t k => XS.iconst X52.here hx rfl (hb hby at_108) k) ?_
      show Go p.tables e below PP (T52.setTop (mkF m 109 #[.val (.int p1), .val (.int p2), .val (.int (1 : Int32)), .val (.int (1 : Int32)), .val (.ref (K 1)), .val (.int (1 : Int32))] [(.int (1 : Int32))]))
      refine Go.st (fun t k => XS.goto X52.here hx rfl (pc0 := 109) (pc' := 113) rfl (hb hby at_109) (by decide) (by decide) k) ?_
      show Go p.tables e below PP (T52.setTop (mkF m 113 #[.val (.int p1), .val (.int p2), .val (.int (1 : Int32)), .val (.int (1 : Int32)), .val (.ref (K 1)), .val (.int (1 : Int32))] [(.int (1 : Int32))]))
      rw [hPP]
      refine endN X52 hx hlk (t := .boolean) hret (by simp) (hb hby at_113) (w := (1 : Int32)) (rfl) ?_ (by decide) (by decide)
      show Q0 Z p1 p2 K h0 n0 (some (.int (1 : Int32))) T52.heap _
      rw [e52]
      exact ⟨rfl, N0⟩
    · --
      subst hj
      show Go p.tables e below PP (T37.setTop (mkF m 24 #[.val (.int p1), .val (.int p2), .val (.int (2 : Int32)), .val (.int (1 : Int32)), .unset, .unset] [(.ref (K 2))]))
      exact J24 _ _ _ _ X37 e37 N0 ⟨(ks_2 hK).2.1, (hw _ (List.mem_of_getElem? (i := 67) rfl)), (ks_2 hK).2.2, ne_exa (ks_2 hK).2.1 (ks_15 hK).2.1 (by decide), ne_exa (ks_2 hK).2.1 (ks_0 hK).2.1 (by decide), ne_exa (ks_2 hK).2.1 (ks_1 hK).2.1 (by decide), ne_exa (ks_2 hK).2.1 (ks_13 hK).2.1 (by decide), ne_exa (ks_2 hK).2.1 (ks_16 hK).2.1 (by decide), ne_exa (ks_2 hK).2.1 (ks_17 hK).2.1 (by decide)⟩
    · --
      subst hj
      show Go p.tables e below PP (T37.setTop (mkF m 24 #[.val (.int p1), .val (.int p2), .val (.int (3 : Int32)), .val (.int (1 : Int32)), .unset, .unset] [(.ref (K 3))]))
      exact J24 _ _ _ _ X37 e37 N0 ⟨(ks_3 hK).2.1, (hw _ (List.mem_of_getElem? (i := 55) rfl)), (ks_3 hK).2.2, ne_exa (ks_3 hK).2.1 (ks_15 hK).2.1 (by decide), ne_exa (ks_3 hK).2.1 (ks_0 hK).2.1 (by decide), ne_exa (ks_3 hK).2.1 (ks_1 hK).2.1 (by decide), ne_exa (ks_3 hK).2.1 (ks_13 hK).2.1 (by decide), ne_exa (ks_3 hK).2.1 (ks_16 hK).2.1 (by decide), ne_exa (ks_3 hK).2.1 (ks_17 hK).2.1 (by decide)⟩
    · --
      subst hj
      show Go p.tables e below PP (T37.setTop (mkF m 24 #[.val (.int p1), .val (.int p2), .val (.int (4 : Int32)), .val (.int (1 : Int32)), .unset, .unset] [(.ref (K 4))]))
      exact J24 _ _ _ _ X37 e37 N0 ⟨(ks_4 hK).2.1, (hw _ (List.mem_of_getElem? (i := 89) rfl)), (ks_4 hK).2.2, ne_exa (ks_4 hK).2.1 (ks_15 hK).2.1 (by decide), ne_exa (ks_4 hK).2.1 (ks_0 hK).2.1 (by decide), ne_exa (ks_4 hK).2.1 (ks_1 hK).2.1 (by decide), ne_exa (ks_4 hK).2.1 (ks_13 hK).2.1 (by decide), ne_exa (ks_4 hK).2.1 (ks_16 hK).2.1 (by decide), ne_exa (ks_4 hK).2.1 (ks_17 hK).2.1 (by decide)⟩
    · --
      subst hj
      show Go p.tables e below PP (T37.setTop (mkF m 24 #[.val (.int p1), .val (.int p2), .val (.int (5 : Int32)), .val (.int (1 : Int32)), .unset, .unset] [(.ref (K 5))]))
      exact J24 _ _ _ _ X37 e37 N0 ⟨(ks_5 hK).2.1, (hw _ (List.mem_of_getElem? (i := 35) rfl)), (ks_5 hK).2.2, ne_exa (ks_5 hK).2.1 (ks_15 hK).2.1 (by decide), ne_exa (ks_5 hK).2.1 (ks_0 hK).2.1 (by decide), ne_exa (ks_5 hK).2.1 (ks_1 hK).2.1 (by decide), ne_exa (ks_5 hK).2.1 (ks_13 hK).2.1 (by decide), ne_exa (ks_5 hK).2.1 (ks_16 hK).2.1 (by decide), ne_exa (ks_5 hK).2.1 (ks_17 hK).2.1 (by decide)⟩
    · --
      subst hj
      show Go p.tables e below PP (T37.setTop (mkF m 24 #[.val (.int p1), .val (.int p2), .val (.int (6 : Int32)), .val (.int (1 : Int32)), .unset, .unset] [(.ref (K 6))]))
      exact J24 _ _ _ _ X37 e37 N0 ⟨(ks_6 hK).2.1, (hw _ (List.mem_of_getElem? (i := 39) rfl)), (ks_6 hK).2.2, ne_exa (ks_6 hK).2.1 (ks_15 hK).2.1 (by decide), ne_exa (ks_6 hK).2.1 (ks_0 hK).2.1 (by decide), ne_exa (ks_6 hK).2.1 (ks_1 hK).2.1 (by decide), ne_exa (ks_6 hK).2.1 (ks_13 hK).2.1 (by decide), ne_exa (ks_6 hK).2.1 (ks_16 hK).2.1 (by decide), ne_exa (ks_6 hK).2.1 (ks_17 hK).2.1 (by decide)⟩
    · --
      subst hj
      show Go p.tables e below PP (T37.setTop (mkF m 24 #[.val (.int p1), .val (.int p2), .val (.int (7 : Int32)), .val (.int (1 : Int32)), .unset, .unset] [(.ref (K 7))]))
      exact J24 _ _ _ _ X37 e37 N0 ⟨(ks_7 hK).2.1, (hw _ (List.mem_of_getElem? (i := 85) rfl)), (ks_7 hK).2.2, ne_exa (ks_7 hK).2.1 (ks_15 hK).2.1 (by decide), ne_exa (ks_7 hK).2.1 (ks_0 hK).2.1 (by decide), ne_exa (ks_7 hK).2.1 (ks_1 hK).2.1 (by decide), ne_exa (ks_7 hK).2.1 (ks_13 hK).2.1 (by decide), ne_exa (ks_7 hK).2.1 (ks_16 hK).2.1 (by decide), ne_exa (ks_7 hK).2.1 (ks_17 hK).2.1 (by decide)⟩
    · --
      subst hj
      show Go p.tables e below PP (T37.setTop (mkF m 24 #[.val (.int p1), .val (.int p2), .val (.int (8 : Int32)), .val (.int (1 : Int32)), .unset, .unset] [(.ref (K 8))]))
      exact J24 _ _ _ _ X37 e37 N0 ⟨(ks_8 hK).2.1, (hw _ (List.mem_of_getElem? (i := 43) rfl)), (ks_8 hK).2.2, ne_exa (ks_8 hK).2.1 (ks_15 hK).2.1 (by decide), ne_exa (ks_8 hK).2.1 (ks_0 hK).2.1 (by decide), ne_exa (ks_8 hK).2.1 (ks_1 hK).2.1 (by decide), ne_exa (ks_8 hK).2.1 (ks_13 hK).2.1 (by decide), ne_exa (ks_8 hK).2.1 (ks_16 hK).2.1 (by decide), ne_exa (ks_8 hK).2.1 (ks_17 hK).2.1 (by decide)⟩
    · --
      subst hj
      show Go p.tables e below PP (T37.setTop (mkF m 24 #[.val (.int p1), .val (.int p2), .val (.int (9 : Int32)), .val (.int (1 : Int32)), .unset, .unset] [(.ref (K 9))]))
      exact J24 _ _ _ _ X37 e37 N0 ⟨(ks_9 hK).2.1, (hw _ (List.mem_of_getElem? (i := 51) rfl)), (ks_9 hK).2.2, ne_exa (ks_9 hK).2.1 (ks_15 hK).2.1 (by decide), ne_exa (ks_9 hK).2.1 (ks_0 hK).2.1 (by decide), ne_exa (ks_9 hK).2.1 (ks_1 hK).2.1 (by decide), ne_exa (ks_9 hK).2.1 (ks_13 hK).2.1 (by decide), ne_exa (ks_9 hK).2.1 (ks_16 hK).2.1 (by decide), ne_exa (ks_9 hK).2.1 (ks_17 hK).2.1 (by decide)⟩
    · --
      subst hj
      show Go p.tables e below PP (T37.setTop (mkF m 24 #[.val (.int p1), .val (.int p2), .val (.int (10 : Int32)), .val (.int (1 : Int32)), .unset, .unset] [(.ref (K 10))]))
      exact J24 _ _ _ _ X37 e37 N0 ⟨(ks_10 hK).2.1, (hw _ (List.mem_of_getElem? (i := 73) rfl)), (ks_10 hK).2.2, ne_exa (ks_10 hK).2.1 (ks_15 hK).2.1 (by decide), ne_exa (ks_10 hK).2.1 (ks_0 hK).2.1 (by decide), ne_exa (ks_10 hK).2.1 (ks_1 hK).2.1 (by decide), ne_exa (ks_10 hK).2.1 (ks_13 hK).2.1 (by decide), ne_exa (ks_10 hK).2.1 (ks_16 hK).2.1 (by decide), ne_exa (ks_10 hK).2.1 (ks_17 hK).2.1 (by decide)⟩
    · --
      subst hj
      show Go p.tables e below PP (T37.setTop (mkF m 24 #[.val (.int p1), .val (.int p2), .val (.int (11 : Int32)), .val (.int (1 : Int32)), .unset, .unset] [(.ref (K 11))]))
      exact J24 _ _ _ _ X37 e37 N0 ⟨(ks_11 hK).2.1, (hw _ (List.mem_of_getElem? (i := 61) rfl)), (ks_11 hK).2.2, ne_exa (ks_11 hK).2.1 (ks_15 hK).2.1 (by decide), ne_exa (ks_11 hK).2.1 (ks_0 hK).2.1 (by decide), ne_exa (ks_11 hK).2.1 (ks_1 hK).2.1 (by decide), ne_exa (ks_11 hK).2.1 (ks_13 hK).2.1 (by decide), ne_exa (ks_11 hK).2.1 (ks_16 hK).2.1 (by decide), ne_exa (ks_11 hK).2.1 (ks_17 hK).2.1 (by decide)⟩
    · --
      subst hj
      show Go p.tables e below PP (T37.setTop (mkF m 24 #[.val (.int p1), .val (.int p2), .val (.int (12 : Int32)), .val (.int (1 : Int32)), .unset, .unset] [(.ref (K 12))]))
      exact J24 _ _ _ _ X37 e37 N0 ⟨(ks_12 hK).2.1, (hw _ (List.mem_of_getElem? (i := 47) rfl)), (ks_12 hK).2.2, ne_exa (ks_12 hK).2.1 (ks_15 hK).2.1 (by decide), ne_exa (ks_12 hK).2.1 (ks_0 hK).2.1 (by decide), ne_exa (ks_12 hK).2.1 (ks_1 hK).2.1 (by decide), ne_exa (ks_12 hK).2.1 (ks_13 hK).2.1 (by decide), ne_exa (ks_12 hK).2.1 (ks_16 hK).2.1 (by decide), ne_exa (ks_12 hK).2.1 (ks_17 hK).2.1 (by decide)⟩
    · --
      subst hj
      show Go p.tables e below PP (T37.setTop (mkF m 24 #[.val (.int p1), .val (.int p2), .val (.int (13 : Int32)), .val (.int (1 : Int32)), .unset, .unset] [(.ref (K 13))]))
      refine Go.st (fun t k => XS.astore X37.here hx rfl (hb hby at_24) rfl rfl (l' := #[.val (.int p1), .val (.int p2), .val (.int (13 : Int32)), .val (.int (1 : Int32)), .val (.ref (K 13)), .unset]) rfl k) ?_
      show Go p.tables e below PP (T37.setTop (mkF m 26 #[.val (.int p1), .val (.int p2), .val (.int (13 : Int32)), .val (.int (1 : Int32)), .val (.ref (K 13)), .unset] []))
      refine Go.st (fun t k => XS.aload X37.here hx rfl (hb hby at_26) rfl rfl k) ?_
      show Go p.tables e below PP (T37.setTop (mkF m 28 #[.val (.int p1), .val (.int p2), .val (.int (13 : Int32)), .val (.int (1 : Int32)), .val (.ref (K 13)), .unset] [(.ref (K 13))]))
      obtain ⟨T53, X53, e53, st53⟩ := getS2 X37 hx hZ hown (host := "") (Or.inl (hw _ (List.mem_of_getElem? (i := 8) rfl))) Via.refl e37 (ks_15 hK).1 (g := (mkF m 28 #[.val (.int p1), .val (.int p2), .val (.int (13 : Int32)), .val (.int (1 : Int32)), .val (.ref (K 13)), .unset] [(.ref (K 13))])) rfl (hb hby at_28)
      refine Go.st st53 ?_
      show Go p.tables e below PP (T53.setTop (mkF m 31 #[.val (.int p1), .val (.int p2), .val (.int (13 : Int32)), .val (.int (1 : Int32)), .val (.ref (K 13)), .unset] [(.ref (K 15)), (.ref (K 13))]))
      refine Go.st (fun t k => Jvm.RoadKit.acmp (g := (mkF m 31 #[.val (.int p1), .val (.int p2), .val (.int (13 : Int32)), .val (.int (1 : Int32)), .val (.ref (K 13)), .unset] [(.ref (K 15)), (.ref (K 13))])) X53 hx rfl rfl rfl (pc0 := 31) (pc' := 40) (same := false) rfl (hb hby at_31) rfl (decide_eq_false fun q => (ne_exa (ks_13 hK).2.1 (ks_15 hK).2.1 (by decide)) (Value.ref.inj q)) (by decide) (by decide) k) ?_
      show Go p.tables e below PP (T53.setTop (mkF m 40 #[.val (.int p1), .val (.int p2), .val (.int (13 : Int32)), .val (.int (1 : Int32)), .val (.ref (K 13)), .unset] []))
      refine Go.st (fun t k => XS.aload X53.here hx rfl (hb hby at_40) rfl rfl k) ?_
      show Go p.tables e below PP (T53.setTop (mkF m 42 #[.val (.int p1), .val (.int p2), .val (.int (13 : Int32)), .val (.int (1 : Int32)), .val (.ref (K 13)), .unset] [(.ref (K 13))]))
      obtain ⟨T54, X54, e54, st54⟩ := getS2 X53 hx hZ hown (host := "") (Or.inl (hw _ (List.mem_of_getElem? (i := 5) rfl))) Via.refl e53 (ks_0 hK).1 (g := (mkF m 42 #[.val (.int p1), .val (.int p2), .val (.int (13 : Int32)), .val (.int (1 : Int32)), .val (.ref (K 13)), .unset] [(.ref (K 13))])) rfl (hb hby at_42)
      refine Go.st st54 ?_
      show Go p.tables e below PP (T54.setTop (mkF m 45 #[.val (.int p1), .val (.int p2), .val (.int (13 : Int32)), .val (.int (1 : Int32)), .val (.ref (K 13)), .unset] [(.ref (K 0)), (.ref (K 13))]))
      refine Go.st (fun t k => Jvm.RoadKit.acmp (g := (mkF m 45 #[.val (.int p1), .val (.int p2), .val (.int (13 : Int32)), .val (.int (1 : Int32)), .val (.ref (K 13)), .unset] [(.ref (K 0)), (.ref (K 13))])) X54 hx rfl rfl rfl (pc0 := 45) (pc' := 48) (same := false) rfl (hb hby at_45) rfl (decide_eq_false fun q => (ne_exa (ks_13 hK).2.1 (ks_0 hK).2.1 (by decide)) (Value.ref.inj q)) (by decide) (by decide) k) ?_
      show Go p.tables e below PP (T54.setTop (mkF m 48 #[.val (.int p1), .val (.int p2), .val (.int (13 : Int32)), .val (.int (1 : Int32)), .val (.ref (K 13)), .unset] []))
      refine Go.st (fun t k => XS.aload X54.here hx rfl (hb hby at_48) rfl rfl k) ?_
      show Go p.tables e below PP (T54.setTop (mkF m 50 #[.val (.int p1), .val (.int p2), .val (.int (13 : Int32)), .val (.int (1 : Int32)), .val (.ref (K 13)), .unset] [(.ref (K 13))]))
      obtain ⟨T55, X55, e55, st55⟩ := getS2 X54 hx hZ hown (host := "") (Or.inl (hw _ (List.mem_of_getElem? (i := 19) rfl))) Via.refl e54 (ks_1 hK).1 (g := (mkF m 50 #[.val (.int p1), .val (.int p2), .val (.int (13 : Int32)), .val (.int (1 : Int32)), .val (.ref (K 13)), .unset] [(.ref (K 13))])) rfl (hb hby at_50)
      refine Go.st st55 ?_
      show Go p.tables e below PP (T55.setTop (mkF m 53 #[.val (.int p1), .val (.int p2), .val (.int (13 : Int32)), .val (.int (1 : Int32)), .val (.ref (K 13)), .unset] [(.ref (K 1)), (.ref (K 13))]))
      refine Go.st (fun t k => Jvm.RoadKit.acmp (g := (mkF m 53 #[.val (.int p1), .val (.int p2), .val (.int (13 : Int32)), .val (.int (1 : Int32)), .val (.ref (K 13)), .unset] [(.ref (K 1)), (.ref (K 13))])) X55 hx rfl rfl rfl (pc0 := 53) (pc' := 56) (same := false) rfl (hb hby at_53) rfl (decide_eq_false fun q => (ne_exa (ks_13 hK).2.1 (ks_1 hK).2.1 (by decide)) (Value.ref.inj q)) (by decide) (by decide) k) ?_
      show Go p.tables e below PP (T55.setTop (mkF m 56 #[.val (.int p1), .val (.int p2), .val (.int (13 : Int32)), .val (.int (1 : Int32)), .val (.ref (K 13)), .unset] []))
      refine Go.st (fun t k => XS.aload X55.here hx rfl (hb hby at_56) rfl rfl k) ?_
      show Go p.tables e below PP (T55.setTop (mkF m 58 #[.val (.int p1), .val (.int p2), .val (.int (13 : Int32)), .val (.int (1 : Int32)), .val (.ref (K 13)), .unset] [(.ref (K 13))]))
      obtain ⟨T56, X56, e56, st56⟩ := getS2 X55 hx hZ hown (host := "") (Or.inl (hw _ (List.mem_of_getElem? (i := 21) rfl))) Via.refl e55 (ks_13 hK).1 (g := (mkF m 58 #[.val (.int p1), .val (.int p2), .val (.int (13 : Int32)), .val (.int (1 : Int32)), .val (.ref (K 13)), .unset] [(.ref (K 13))])) rfl (hb hby at_58)
      refine Go.st st56 ?_
      show Go p.tables e below PP (T56.setTop (mkF m 61 #[.val (.int p1), .val (.int p2), .val (.int (13 : Int32)), .val (.int (1 : Int32)), .val (.ref (K 13)), .unset] [(.ref (K 13)), (.ref (K 13))]))
      refine Go.st (fun t k => Jvm.RoadKit.acmp (g := (mkF m 61 #[.val (.int p1), .val (.int p2), .val (.int (13 : Int32)), .val (.int (1 : Int32)), .val (.ref (K 13)), .unset] [(.ref (K 13)), (.ref (K 13))])) X56 hx rfl rfl rfl (pc0 := 61) (pc' := 80) (same := true) rfl (hb hby at_61) rfl (decide_eq_true rfl) (by decide) (by decide) k) ?_
      show Go p.tables e below PP (T56.setTop (mkF m 80 #[.val (.int p1), .val (.int p2), .val (.int (13 : Int32)), .val (.int (1 : Int32)), .val (.ref (K 13)), .unset] []))
      refine Go.st (fun t k => XS.iloadN X56.here hx rfl (hb hby at_80) rfl k) ?_
      show Go p.tables e below PP (T56.setTop (mkF m 81 #[.val (.int p1), .val (.int p2), .val (.int (13 : Int32)), .val (.int (1 : Int32)), .val (.ref (K 13)), .unset] [(.int (1 : Int32))]))
      refine Go.st (fun t k => XS.istore X56.here hx rfl (hb hby at_81) rfl (l' := #[.val (.int p1), .val (.int p2), .val (.int (13 : Int32)), .val (.int (1 : Int32)), .val (.ref (K 13)), .val (.int (1 : Int32))]) rfl k) ?_
      show Go p.tables e below PP (T56.setTop (mkF m 83 #[.val (.int p1), .val (.int p2), .val (.int (13 : Int32)), .val (.int (1 : Int32)), .val (.ref (K 13)), .val (.int (1 : Int32))] []))
      refine Go.st (fun t k => XS.goto X56.here hx rfl (pc0 := 83) (pc' := 97) rfl (hb hby at_83) (by decide) (by decide) k) ?_
      show Go p.tables e below PP (T56.setTop (mkF m 97 #[.val (.int p1), .val (.int p2), .val (.int (13 : Int32)), .val (.int (1 : Int32)), .val (.ref (K 13)), .val (.int (1 : Int32))] []))
      refine Go.st (fun t k => XS.aload X56.here hx rfl (hb hby at_97) rfl rfl k) ?_
      show Go p.tables e below PP (T56.setTop (mkF m 99 #[.val (.int p1), .val (.int p2), .val (.int (13 : Int32)), .val (.int (1 : Int32)), .val (.ref (K 13)), .val (.int (1 : Int32))] [(.ref (K 13))]))
      refine Go.st (fun t k => XS.iloadN X56.here hx rfl (hb hby at_99) rfl k) ?_
      show Go p.tables e below PP (T56.setTop (mkF m 100 #[.val (.int p1), .val (.int p2), .val (.int (13 : Int32)), .val (.int (1 : Int32)), .val (.ref (K 13)), .val (.int (1 : Int32))] [(.int (1 : Int32)), (.ref (K 13))]))
      obtain ⟨v57, T57, L57, X57, hQ57, st57⟩ := callVi X56 hx hZ (C := "com/example/llave/llave/model/CqlType$Kind$14") (y := (⟨"com/example/llave/llave/model/CqlType$Kind", "takesLiteral", "(Z)Z"⟩ : MethodName)) (z := (⟨"com/example/llave/llave/model/CqlType$Kind", "takesLiteral", "(Z)Z"⟩ : MethodName)) (a := (K 13)) (argsL := [(.int (1 : Int32))]) (rest := []) hown (hw _ (List.mem_of_getElem? (i := 10) rfl)) (hw _ (List.mem_of_getElem? (i := 11) rfl)) (notFace_of_selects (args := #[]) (mvT hZ (hw _ (List.mem_of_getElem? (i := 57) rfl)))) (hw _ (List.mem_of_getElem? (i := 57) rfl)) (hw _ (List.mem_of_getElem? (i := 12) rfl)) (hw _ (List.mem_of_getElem? (i := 6) rfl)) (hw _ (List.mem_of_getElem? (i := 14) rfl)) (by decide) rfl (ks_13 hK).2.1 (rm2 l Z a0 hw [] (K 13) (1 : Int32) (1 : Int32) h0 n0 Zn (ks_13 hK).2.2) e56 0 (by decide) (by decide) (by decide) (by decide) (g := (mkF m 100 #[.val (.int p1), .val (.int p2), .val (.int (13 : Int32)), .val (.int (1 : Int32)), .val (.ref (K 13)), .val (.int (1 : Int32))] [(.int (1 : Int32)), (.ref (K 13))])) rfl (by rw [hml]; rfl) (lenOf pd_1 rfl) rfl (by show 2 * 0 + _ ≤ _; exact Nat.le_of_eq rfl) (hb hby at_100)
      obtain ⟨rfl, rfl, e57⟩ := hQ57
      rw [List.append_nil] at X57
      refine Go.st st57 ?_
      show Go p.tables e below PP (T57.setTop (mkF m 103 #[.val (.int p1), .val (.int p2), .val (.int (13 : Int32)), .val (.int (1 : Int32)), .val (.ref (K 13)), .val (.int (1 : Int32))] [(.int (bi ((1 : Int32) = (1 : Int32))))]))
      refine Go.st (fun t k => XS.iload X57.here hx rfl (hb hby at_103) rfl k) ?_
      show Go p.tables e below PP (T57.setTop (mkF m 105 #[.val (.int p1), .val (.int p2), .val (.int (13 : Int32)), .val (.int (1 : Int32)), .val (.ref (K 13)), .val (.int (1 : Int32))] [(.int (1 : Int32)), (.int (bi ((1 : Int32) = (1 : Int32))))]))
      refine Go.st (fun t k => XS.icmpNo X57.here hx rfl (hb hby at_105) rfl (XT.ii_ne_f (by decide)) k) ?_
      show Go p.tables e below PP (T57.setTop (mkF m 108 #[.val (.int p1), .val (.int p2), .val (.int (13 : Int32)), .val (.int (1 : Int32)), .val (.ref (K 13)), .val (.int (1 : Int32))] []))
      refine Go.st (fun t k => XS.iconst X57.here hx rfl (hb hby at_108) k) ?_
      show Go p.tables e below PP (T57.setTop (mkF m 109 #[.val (.int p1), .val (.int p2), .val (.int (13 : Int32)), .val (.int (1 : Int32)), .val (.ref (K 13)), .val (.int (1 : Int32))] [(.int (1 : Int32))]))
      refine Go.st (fun t k => XS.goto X57.here hx rfl (pc0 := 109) (pc' := 113) rfl (hb hby at_109) (by decide) (by decide) k) ?_
      show Go p.tables e below PP (T57.setTop (mkF m 113 #[.val (.int p1), .val (.int p2), .val (.int (13 : Int32)), .val (.int (1 : Int32)), .val (.ref (K 13)), .val (.int (1 : Int32))] [(.int (1 : Int32))]))
      rw [hPP]
      refine endN X57 hx hlk (t := .boolean) hret (by simp) (hb hby at_113) (w := (1 : Int32)) (rfl) ?_ (by decide) (by decide)
      show Q0 Z p1 p2 K h0 n0 (some (.int (1 : Int32))) T57.heap _
      rw [e57]
      exact ⟨rfl, N0⟩
    · --
      subst hj
      show Go p.tables e below PP (T37.setTop (mkF m 24 #[.val (.int p1), .val (.int p2), .val (.int (14 : Int32)), .val (.int (1 : Int32)), .unset, .unset] [(.ref (K 14))]))
      exact J24 _ _ _ _ X37 e37 N0 ⟨(ks_14 hK).2.1, (hw _ (List.mem_of_getElem? (i := 27) rfl)), (ks_14 hK).2.2, ne_exa (ks_14 hK).2.1 (ks_15 hK).2.1 (by decide), ne_exa (ks_14 hK).2.1 (ks_0 hK).2.1 (by decide), ne_exa (ks_14 hK).2.1 (ks_1 hK).2.1 (by decide), ne_exa (ks_14 hK).2.1 (ks_13 hK).2.1 (by decide), ne_exa (ks_14 hK).2.1 (ks_16 hK).2.1 (by decide), ne_exa (ks_14 hK).2.1 (ks_17 hK).2.1 (by decide)⟩
    · --
      subst hj
      show Go p.tables e below PP (T37.setTop (mkF m 24 #[.val (.int p1), .val (.int p2), .val (.int (15 : Int32)), .val (.int (1 : Int32)), .unset, .unset] [(.ref (K 15))]))
      refine Go.st (fun t k => XS.astore X37.here hx rfl (hb hby at_24) rfl rfl (l' := #[.val (.int p1), .val (.int p2), .val (.int (15 : Int32)), .val (.int (1 : Int32)), .val (.ref (K 15)), .unset]) rfl k) ?_
      show Go p.tables e below PP (T37.setTop (mkF m 26 #[.val (.int p1), .val (.int p2), .val (.int (15 : Int32)), .val (.int (1 : Int32)), .val (.ref (K 15)), .unset] []))
      refine Go.st (fun t k => XS.aload X37.here hx rfl (hb hby at_26) rfl rfl k) ?_
      show Go p.tables e below PP (T37.setTop (mkF m 28 #[.val (.int p1), .val (.int p2), .val (.int (15 : Int32)), .val (.int (1 : Int32)), .val (.ref (K 15)), .unset] [(.ref (K 15))]))
      obtain ⟨T58, X58, e58, st58⟩ := getS2 X37 hx hZ hown (host := "") (Or.inl (hw _ (List.mem_of_getElem? (i := 8) rfl))) Via.refl e37 (ks_15 hK).1 (g := (mkF m 28 #[.val (.int p1), .val (.int p2), .val (.int (15 : Int32)), .val (.int (1 : Int32)), .val (.ref (K 15)), .unset] [(.ref (K 15))])) rfl (hb hby at_28)
      refine Go.st st58 ?_
      show Go p.tables e below PP (T58.setTop (mkF m 31 #[.val (.int p1), .val (.int p2), .val (.int (15 : Int32)), .val (.int (1 : Int32)), .val (.ref (K 15)), .unset] [(.ref (K 15)), (.ref (K 15))]))
      refine Go.st (fun t k => Jvm.RoadKit.acmp (g := (mkF m 31 #[.val (.int p1), .val (.int p2), .val (.int (15 : Int32)), .val (.int (1 : Int32)), .val (.ref (K 15)), .unset] [(.ref (K 15)), (.ref (K 15))])) X58 hx rfl rfl rfl (pc0 := 31) (pc' := 34) (same := true) rfl (hb hby at_31) rfl (decide_eq_true rfl) (by decide) (by decide) k) ?_
      show Go p.tables e below PP (T58.setTop (mkF m 34 #[.val (.int p1), .val (.int p2), .val (.int (15 : Int32)), .val (.int (1 : Int32)), .val (.ref (K 15)), .unset] []))
      refine Go.st (fun t k => XS.iconst X58.here hx rfl (hb hby at_34) k) ?_
      show Go p.tables e below PP (T58.setTop (mkF m 35 #[.val (.int p1), .val (.int p2), .val (.int (15 : Int32)), .val (.int (1 : Int32)), .val (.ref (K 15)), .unset] [(.int (1 : Int32))]))
      refine Go.st (fun t k => XS.istore X58.here hx rfl (hb hby at_35) rfl (l' := #[.val (.int p1), .val (.int p2), .val (.int (15 : Int32)), .val (.int (1 : Int32)), .val (.ref (K 15)), .val (.int (1 : Int32))]) rfl k) ?_
      show Go p.tables e below PP (T58.setTop (mkF m 37 #[.val (.int p1), .val (.int p2), .val (.int (15 : Int32)), .val (.int (1 : Int32)), .val (.ref (K 15)), .val (.int (1 : Int32))] []))
      refine Go.st (fun t k => XS.goto X58.here hx rfl (pc0 := 37) (pc' := 97) rfl (hb hby at_37) (by decide) (by decide) k) ?_
      show Go p.tables e below PP (T58.setTop (mkF m 97 #[.val (.int p1), .val (.int p2), .val (.int (15 : Int32)), .val (.int (1 : Int32)), .val (.ref (K 15)), .val (.int (1 : Int32))] []))
      refine Go.st (fun t k => XS.aload X58.here hx rfl (hb hby at_97) rfl rfl k) ?_
      show Go p.tables e below PP (T58.setTop (mkF m 99 #[.val (.int p1), .val (.int p2), .val (.int (15 : Int32)), .val (.int (1 : Int32)), .val (.ref (K 15)), .val (.int (1 : Int32))] [(.ref (K 15))]))
      refine Go.st (fun t k => XS.iloadN X58.here hx rfl (hb hby at_99) rfl k) ?_
      show Go p.tables e below PP (T58.setTop (mkF m 100 #[.val (.int p1), .val (.int p2), .val (.int (15 : Int32)), .val (.int (1 : Int32)), .val (.ref (K 15)), .val (.int (1 : Int32))] [(.int (1 : Int32)), (.ref (K 15))]))
      obtain ⟨v59, T59, L59, X59, hQ59, st59⟩ := callVi X58 hx hZ (C := "com/example/llave/llave/model/CqlType$Kind$16") (y := (⟨"com/example/llave/llave/model/CqlType$Kind", "takesLiteral", "(Z)Z"⟩ : MethodName)) (z := (⟨"com/example/llave/llave/model/CqlType$Kind$16", "takesLiteral", "(Z)Z"⟩ : MethodName)) (a := (K 15)) (argsL := [(.int (1 : Int32))]) (rest := []) hown (hw _ (List.mem_of_getElem? (i := 10) rfl)) (hw _ (List.mem_of_getElem? (i := 11) rfl)) (notFace_of_selects (args := #[]) (mvT hZ (hw _ (List.mem_of_getElem? (i := 13) rfl)))) (hw _ (List.mem_of_getElem? (i := 95) rfl)) (hw _ (List.mem_of_getElem? (i := 96) rfl)) (hw _ (List.mem_of_getElem? (i := 97) rfl)) (hw _ (List.mem_of_getElem? (i := 98) rfl)) (by decide) rfl (ks_15 hK).2.1 (rm3 l Z a0 hw [] (K 15) (1 : Int32) h0 n0 Zn) e58 0 (by decide) (by decide) (by decide) (by decide) (g := (mkF m 100 #[.val (.int p1), .val (.int p2), .val (.int (15 : Int32)), .val (.int (1 : Int32)), .val (.ref (K 15)), .val (.int (1 : Int32))] [(.int (1 : Int32)), (.ref (K 15))])) rfl (by rw [hml]; rfl) (lenOf pd_1 rfl) rfl (by show 2 * 0 + _ ≤ _; exact Nat.le_of_eq rfl) (hb hby at_100)
      obtain ⟨rfl, rfl, e59⟩ := hQ59
      rw [List.append_nil] at X59
      refine Go.st st59 ?_
      show Go p.tables e below PP (T59.setTop (mkF m 103 #[.val (.int p1), .val (.int p2), .val (.int (15 : Int32)), .val (.int (1 : Int32)), .val (.ref (K 15)), .val (.int (1 : Int32))] [(.int (1 : Int32))]))
      refine Go.st (fun t k => XS.iload X59.here hx rfl (hb hby at_103) rfl k) ?_
      show Go p.tables e below PP (T59.setTop (mkF m 105 #[.val (.int p1), .val (.int p2), .val (.int (15 : Int32)), .val (.int (1 : Int32)), .val (.ref (K 15)), .val (.int (1 : Int32))] [(.int (1 : Int32)), (.int (1 : Int32))]))
      refine Go.st (fun t k => XS.icmpNo X59.here hx rfl (hb hby at_105) rfl (XT.ii_ne_f (by decide)) k) ?_
      show Go p.tables e below PP (T59.setTop (mkF m 108 #[.val (.int p1), .val (.int p2), .val (.int (15 : Int32)), .val (.int (1 : Int32)), .val (.ref (K 15)), .val (.int (1 : Int32))] []))
      refine Go.st (fun t k => XS.iconst X59.here hx rfl (hb hby at_108) k) ?_
      show Go p.tables e below PP (T59.setTop (mkF m 109 #[.val (.int p1), .val (.int p2), .val (.int (15 : Int32)), .val (.int (1 : Int32)), .val (.ref (K 15)), .val (.int (1 : Int32))] [(.int (1 : Int32))]))
      refine Go.st (fun t k => XS.goto X59.here hx rfl (pc0 := 109) (pc' := 113) rfl (hb hby at_109) (by decide) (by decide) k) ?_
      show Go p.tables e below PP (T59.setTop (mkF m 113 #[.val (.int p1), .val (.int p2), .val (.int (15 : Int32)), .val (.int (1 : Int32)), .val (.ref (K 15)), .val (.int (1 : Int32))] [(.int (1 : Int32))]))
      rw [hPP]
      refine endN X59 hx hlk (t := .boolean) hret (by simp) (hb hby at_113) (w := (1 : Int32)) (rfl) ?_ (by decide) (by decide)
      show Q0 Z p1 p2 K h0 n0 (some (.int (1 : Int32))) T59.heap _
      rw [e59]
      exact ⟨rfl, N0⟩
    · --
      subst hj
      show Go p.tables e below PP (T37.setTop (mkF m 24 #[.val (.int p1), .val (.int p2), .val (.int (16 : Int32)), .val (.int (1 : Int32)), .unset, .unset] [(.ref (K 16))]))
      refine Go.st (fun t k => XS.astore X37.here hx rfl (hb hby at_24) rfl rfl (l' := #[.val (.int p1), .val (.int p2), .val (.int (16 : Int32)), .val (.int (1 : Int32)), .val (.ref (K 16)), .unset]) rfl k) ?_
      show Go p.tables e below PP (T37.setTop (mkF m 26 #[.val (.int p1), .val (.int p2), .val (.int (16 : Int32)), .val (.int (1 : Int32)), .val (.ref (K 16)), .unset] []))
      refine Go.st (fun t k => XS.aload X37.here hx rfl (hb hby at_26) rfl rfl k) ?_
      show Go p.tables e below PP (T37.setTop (mkF m 28 #[.val (.int p1), .val (.int p2), .val (.int (16 : Int32)), .val (.int (1 : Int32)), .val (.ref (K 16)), .unset] [(.ref (K 16))]))
      obtain ⟨T60, X60, e60, st60⟩ := getS2 X37 hx hZ hown (host := "") (Or.inl (hw _ (List.mem_of_getElem? (i := 8) rfl))) Via.refl e37 (ks_15 hK).1 (g := (mkF m 28 #[.val (.int p1), .val (.int p2), .val (.int (16 : Int32)), .val (.int (1 : Int32)), .val (.ref (K 16)), .unset] [(.ref (K 16))])) rfl (hb hby at_28)
      refine Go.st st60 ?_
      show Go p.tables e below PP (T60.setTop (mkF m 31 #[.val (.int p1), .val (.int p2), .val (.int (16 : Int32)), .val (.int (1 : Int32)), .val (.ref (K 16)), .unset] [(.ref (K 15)), (.ref (K 16))]))
      refine Go.st (fun t k => Jvm.RoadKit.acmp (g := (mkF m 31 #[.val (.int p1), .val (.int p2), .val (.int (16 : Int32)), .val (.int (1 : Int32)), .val (.ref (K 16)), .unset] [(.ref (K 15)), (.ref (K 16))])) X60 hx rfl rfl rfl (pc0 := 31) (pc' := 40) (same := false) rfl (hb hby at_31) rfl (decide_eq_false fun q => (ne_exa (ks_16 hK).2.1 (ks_15 hK).2.1 (by decide)) (Value.ref.inj q)) (by decide) (by decide) k) ?_
      show Go p.tables e below PP (T60.setTop (mkF m 40 #[.val (.int p1), .val (.int p2), .val (.int (16 : Int32)), .val (.int (1 : Int32)), .val (.ref (K 16)), .unset] []))
      refine Go.st (fun t k => XS.aload X60.here hx rfl (hb hby at_40) rfl rfl k) ?_
      show Go p.tables e below PP (T60.setTop (mkF m 42 #[.val (.int p1), .val (.int p2), .val (.int (16 : Int32)), .val (.int (1 : Int32)), .val (.ref (K 16)), .unset] [(.ref (K 16))]))
      obtain ⟨T61, X61, e61, st61⟩ := getS2 X60 hx hZ hown (host := "") (Or.inl (hw _ (List.mem_of_getElem? (i := 5) rfl))) Via.refl e60 (ks_0 hK).1 (g := (mkF m 42 #[.val (.int p1), .val (.int p2), .val (.int (16 : Int32)), .val (.int (1 : Int32)), .val (.ref (K 16)), .unset] [(.ref (K 16))])) rfl (hb hby at_42)
      refine Go.st st61 ?_
      show Go p.tables e below PP (T61.setTop (mkF m 45 #[.val (.int p1), .val (.int p2), .val (.int (16 : Int32)), .val (.int (1 : Int32)), .val (.ref (K 16)), .unset] [(.ref (K 0)), (.ref (K 16))]))
      refine Go.st (fun t k => Jvm.RoadKit.acmp (g := (mkF m 45 #[.val (.int p1), .val (.int p2), .val (.int (16 : Int32)), .val (.int (1 : Int32)), .val (.ref (K 16)), .unset] [(.ref (K 0)), (.ref (K 16))])) X61 hx rfl rfl rfl (pc0 := 45) (pc' := 48) (same := false) rfl (hb hby at_45) rfl (decide_eq_false fun q => (ne_exa (ks_16 hK).2.1 (ks_0 hK).2.1 (by decide)) (Value.ref.inj q)) (by decide) (by decide) k) ?_
      show Go p.tables e below PP (T61.setTop (mkF m 48 #[.val (.int p1), .val (.int p2), .val (.int (16 : Int32)), .val (.int (1 : Int32)), .val (.ref (K 16)), .unset] []))
      refine Go.st (fun t k => XS.aload X61.here hx rfl (hb hby at_48) rfl rfl k) ?_
      show Go p.tables e below PP (T61.setTop (mkF m 50 #[.val (.int p1), .val (.int p2), .val (.int (16 : Int32)), .val (.int (1 : Int32)), .val (.ref (K 16)), .unset] [(.ref (K 16))]))
      obtain ⟨T62, X62, e62, st62⟩ := getS2 X61 hx hZ hown (host := "") (Or.inl (hw _ (List.mem_of_getElem? (i := 19) rfl))) Via.refl e61 (ks_1 hK).1 (g := (mkF m 50 #[.val (.int p1), .val (.int p2), .val (.int (16 : Int32)), .val (.int (1 : Int32)), .val (.ref (K 16)), .unset] [(.ref (K 16))])) rfl (hb hby at_50)
      refine Go.st st62 ?_
      show Go p.tables e below PP (T62.setTop (mkF m 53 #[.val (.int p1), .val (.int p2), .val (.int (16 : Int32)), .val (.int (1 : Int32)), .val (.ref (K 16)), .unset] [(.ref (K 1)), (.ref (K 16))]))
      refine Go.st (fun t k => Jvm.RoadKit.acmp (g := (mkF m 53 #[.val (.int p1), .val (.int p2), .val (.int (16 : Int32)), .val (.int (1 : Int32)), .val (.ref (K 16)), .unset] [(.ref (K 1)), (.ref (K 16))])) X62 hx rfl rfl rfl (pc0 := 53) (pc' := 56) (same := false) rfl (hb hby at_53) rfl (decide_eq_false fun q => (ne_exa (ks_16 hK).2.1 (ks_1 hK).2.1 (by decide)) (Value.ref.inj q)) (by decide) (by decide) k) ?_
      show Go p.tables e below PP (T62.setTop (mkF m 56 #[.val (.int p1), .val (.int p2), .val (.int (16 : Int32)), .val (.int (1 : Int32)), .val (.ref (K 16)), .unset] []))
      refine Go.st (fun t k => XS.aload X62.here hx rfl (hb hby at_56) rfl rfl k) ?_
      show Go p.tables e below PP (T62.setTop (mkF m 58 #[.val (.int p1), .val (.int p2), .val (.int (16 : Int32)), .val (.int (1 : Int32)), .val (.ref (K 16)), .unset] [(.ref (K 16))]))
      obtain ⟨T63, X63, e63, st63⟩ := getS2 X62 hx hZ hown (host := "") (Or.inl (hw _ (List.mem_of_getElem? (i := 21) rfl))) Via.refl e62 (ks_13 hK).1 (g := (mkF m 58 #[.val (.int p1), .val (.int p2), .val (.int (16 : Int32)), .val (.int (1 : Int32)), .val (.ref (K 16)), .unset] [(.ref (K 16))])) rfl (hb hby at_58)
      refine Go.st st63 ?_
      show Go p.tables e below PP (T63.setTop (mkF m 61 #[.val (.int p1), .val (.int p2), .val (.int (16 : Int32)), .val (.int (1 : Int32)), .val (.ref (K 16)), .unset] [(.ref (K 13)), (.ref (K 16))]))
      refine Go.st (fun t k => Jvm.RoadKit.acmp (g := (mkF m 61 #[.val (.int p1), .val (.int p2), .val (.int (16 : Int32)), .val (.int (1 : Int32)), .val (.ref (K 16)), .unset] [(.ref (K 13)), (.ref (K 16))])) X63 hx rfl rfl rfl (pc0 := 61) (pc' := 64) (same := false) rfl (hb hby at_61) rfl (decide_eq_false fun q => (ne_exa (ks_16 hK).2.1 (ks_13 hK).2.1 (by decide)) (Value.ref.inj q)) (by decide) (by decide) k) ?_
      show Go p.tables e below PP (T63.setTop (mkF m 64 #[.val (.int p1), .val (.int p2), .val (.int (16 : Int32)), .val (.int (1 : Int32)), .val (.ref (K 16)), .unset] []))
      refine Go.st (fun t k => XS.aload X63.here hx rfl (hb hby at_64) rfl rfl k) ?_
      show Go p.tables e below PP (T63.setTop (mkF m 66 #[.val (.int p1), .val (.int p2), .val (.int (16 : Int32)), .val (.int (1 : Int32)), .val (.ref (K 16)), .unset] [(.ref (K 16))]))
      obtain ⟨T64, X64, e64, st64⟩ := getS2 X63 hx hZ hown (host := "") (Or.inl (hw _ (List.mem_of_getElem? (i := 23) rfl))) Via.refl e63 (ks_16 hK).1 (g := (mkF m 66 #[.val (.int p1), .val (.int p2), .val (.int (16 : Int32)), .val (.int (1 : Int32)), .val (.ref (K 16)), .unset] [(.ref (K 16))])) rfl (hb hby at_66)
      refine Go.st st64 ?_
      show Go p.tables e below PP (T64.setTop (mkF m 69 #[.val (.int p1), .val (.int p2), .val (.int (16 : Int32)), .val (.int (1 : Int32)), .val (.ref (K 16)), .unset] [(.ref (K 16)), (.ref (K 16))]))
      refine Go.st (fun t k => Jvm.RoadKit.acmp (g := (mkF m 69 #[.val (.int p1), .val (.int p2), .val (.int (16 : Int32)), .val (.int (1 : Int32)), .val (.ref (K 16)), .unset] [(.ref (K 16)), (.ref (K 16))])) X64 hx rfl rfl rfl (pc0 := 69) (pc' := 80) (same := true) rfl (hb hby at_69) rfl (decide_eq_true rfl) (by decide) (by decide) k) ?_
      show Go p.tables e below PP (T64.setTop (mkF m 80 #[.val (.int p1), .val (.int p2), .val (.int (16 : Int32)), .val (.int (1 : Int32)), .val (.ref (K 16)), .unset] []))
      refine Go.st (fun t k => XS.iloadN X64.here hx rfl (hb hby at_80) rfl k) ?_
      show Go p.tables e below PP (T64.setTop (mkF m 81 #[.val (.int p1), .val (.int p2), .val (.int (16 : Int32)), .val (.int (1 : Int32)), .val (.ref (K 16)), .unset] [(.int (1 : Int32))]))
      refine Go.st (fun t k => XS.istore X64.here hx rfl (hb hby at_81) rfl (l' := #[.val (.int p1), .val (.int p2), .val (.int (16 : Int32)), .val (.int (1 : Int32)), .val (.ref (K 16)), .val (.int (1 : Int32))]) rfl k) ?_
      show Go p.tables e below PP (T64.setTop (mkF m 83 #[.val (.int p1), .val (.int p2), .val (.int (16 : Int32)), .val (.int (1 : Int32)), .val (.ref (K 16)), .val (.int (1 : Int32))] []))
      refine Go.st (fun t k => XS.goto X64.here hx rfl (pc0 := 83) (pc' := 97) rfl (hb hby at_83) (by decide) (by decide) k) ?_
      show Go p.tables e below PP (T64.setTop (mkF m 97 #[.val (.int p1), .val (.int p2), .val (.int (16 : Int32)), .val (.int (1 : Int32)), .val (.ref (K 16)), .val (.int (1 : Int32))] []))
      refine Go.st (fun t k => XS.aload X64.here hx rfl (hb hby at_97) rfl rfl k) ?_
      show Go p.tables e below PP (T64.setTop (mkF m 99 #[.val (.int p1), .val (.int p2), .val (.int (16 : Int32)), .val (.int (1 : Int32)), .val (.ref (K 16)), .val (.int (1 : Int32))] [(.ref (K 16))]))
      refine Go.st (fun t k => XS.iloadN X64.here hx rfl (hb hby at_99) rfl k) ?_
      show Go p.tables e below PP (T64.setTop (mkF m 100 #[.val (.int p1), .val (.int p2), .val (.int (16 : Int32)), .val (.int (1 : Int32)), .val (.ref (K 16)), .val (.int (1 : Int32))] [(.int (1 : Int32)), (.ref (K 16))]))
      obtain ⟨v65, T65, L65, X65, hQ65, st65⟩ := callVi X64 hx hZ (C := "com/example/llave/llave/model/CqlType$Kind$17") (y := (⟨"com/example/llave/llave/model/CqlType$Kind", "takesLiteral", "(Z)Z"⟩ : MethodName)) (z := (⟨"com/example/llave/llave/model/CqlType$Kind", "takesLiteral", "(Z)Z"⟩ : MethodName)) (a := (K 16)) (argsL := [(.int (1 : Int32))]) (rest := []) hown (hw _ (List.mem_of_getElem? (i := 10) rfl)) (hw _ (List.mem_of_getElem? (i := 11) rfl)) (notFace_of_selects (args := #[]) (mvT hZ (hw _ (List.mem_of_getElem? (i := 69) rfl)))) (hw _ (List.mem_of_getElem? (i := 69) rfl)) (hw _ (List.mem_of_getElem? (i := 12) rfl)) (hw _ (List.mem_of_getElem? (i := 6) rfl)) (hw _ (List.mem_of_getElem? (i := 14) rfl)) (by decide) rfl (ks_16 hK).2.1 (rm2 l Z a0 hw [] (K 16) (1 : Int32) (1 : Int32) h0 n0 Zn (ks_16 hK).2.2) e64 0 (by decide) (by decide) (by decide) (by decide) (g := (mkF m 100 #[.val (.int p1), .val (.int p2), .val (.int (16 : Int32)), .val (.int (1 : Int32)), .val (.ref (K 16)), .val (.int (1 : Int32))] [(.int (1 : Int32)), (.ref (K 16))])) rfl (by rw [hml]; rfl) (lenOf pd_1 rfl) rfl (by show 2 * 0 + _ ≤ _; exact Nat.le_of_eq rfl) (hb hby at_100)
      obtain ⟨rfl, rfl, e65⟩ := hQ65
      rw [List.append_nil] at X65
      refine Go.st st65 ?_
      show Go p.tables e below PP (T65.setTop (mkF m 103 #[.val (.int p1), .val (.int p2), .val (.int (16 : Int32)), .val (.int (1 : Int32)), .val (.ref (K 16)), .val (.int (1 : Int32))] [(.int (bi ((1 : Int32) = (1 : Int32))))]))
      refine Go.st (fun t k => XS.iload X65.here hx rfl (hb hby at_103) rfl k) ?_
      show Go p.tables e below PP (T65.setTop (mkF m 105 #[.val (.int p1), .val (.int p2), .val (.int (16 : Int32)), .val (.int (1 : Int32)), .val (.ref (K 16)), .val (.int (1 : Int32))] [(.int (1 : Int32)), (.int (bi ((1 : Int32) = (1 : Int32))))]))
      refine Go.st (fun t k => XS.icmpNo X65.here hx rfl (hb hby at_105) rfl (XT.ii_ne_f (by decide)) k) ?_
      show Go p.tables e below PP (T65.setTop (mkF m 108 #[.val (.int p1), .val (.int p2), .val (.int (16 : Int32)), .val (.int (1 : Int32)), .val (.ref (K 16)), .val (.int (1 : Int32))] []))
      refine Go.st (fun t k => XS.iconst X65.here hx rfl (hb hby at_108) k) ?_
      show Go p.tables e below PP (T65.setTop (mkF m 109 #[.val (.int p1), .val (.int p2), .val (.int (16 : Int32)), .val (.int (1 : Int32)), .val (.ref (K 16)), .val (.int (1 : Int32))] [(.int (1 : Int32))]))
      refine Go.st (fun t k => XS.goto X65.here hx rfl (pc0 := 109) (pc' := 113) rfl (hb hby at_109) (by decide) (by decide) k) ?_
      show Go p.tables e below PP (T65.setTop (mkF m 113 #[.val (.int p1), .val (.int p2), .val (.int (16 : Int32)), .val (.int (1 : Int32)), .val (.ref (K 16)), .val (.int (1 : Int32))] [(.int (1 : Int32))]))
      rw [hPP]
      refine endN X65 hx hlk (t := .boolean) hret (by simp) (hb hby at_113) (w := (1 : Int32)) (rfl) ?_ (by decide) (by decide)
      show Q0 Z p1 p2 K h0 n0 (some (.int (1 : Int32))) T65.heap _
      rw [e65]
      exact ⟨rfl, N0⟩
    · --
      subst hj
      show Go p.tables e below PP (T37.setTop (mkF m 24 #[.val (.int p1), .val (.int p2), .val (.int (17 : Int32)), .val (.int (1 : Int32)), .unset, .unset] [(.ref (K 17))]))
      refine Go.st (fun t k => XS.astore X37.here hx rfl (hb hby at_24) rfl rfl (l' := #[.val (.int p1), .val (.int p2), .val (.int (17 : Int32)), .val (.int (1 : Int32)), .val (.ref (K 17)), .unset]) rfl k) ?_
      show Go p.tables e below PP (T37.setTop (mkF m 26 #[.val (.int p1), .val (.int p2), .val (.int (17 : Int32)), .val (.int (1 : Int32)), .val (.ref (K 17)), .unset] []))
      refine Go.st (fun t k => XS.aload X37.here hx rfl (hb hby at_26) rfl rfl k) ?_
      show Go p.tables e below PP (T37.setTop (mkF m 28 #[.val (.int p1), .val (.int p2), .val (.int (17 : Int32)), .val (.int (1 : Int32)), .val (.ref (K 17)), .unset] [(.ref (K 17))]))
      obtain ⟨T66, X66, e66, st66⟩ := getS2 X37 hx hZ hown (host := "") (Or.inl (hw _ (List.mem_of_getElem? (i := 8) rfl))) Via.refl e37 (ks_15 hK).1 (g := (mkF m 28 #[.val (.int p1), .val (.int p2), .val (.int (17 : Int32)), .val (.int (1 : Int32)), .val (.ref (K 17)), .unset] [(.ref (K 17))])) rfl (hb hby at_28)
      refine Go.st st66 ?_
      show Go p.tables e below PP (T66.setTop (mkF m 31 #[.val (.int p1), .val (.int p2), .val (.int (17 : Int32)), .val (.int (1 : Int32)), .val (.ref (K 17)), .unset] [(.ref (K 15)), (.ref (K 17))]))
      refine Go.st (fun t k => Jvm.RoadKit.acmp (g := (mkF m 31 #[.val (.int p1), .val (.int p2), .val (.int (17 : Int32)), .val (.int (1 : Int32)), .val (.ref (K 17)), .unset] [(.ref (K 15)), (.ref (K 17))])) X66 hx rfl rfl rfl (pc0 := 31) (pc' := 40) (same := false) rfl (hb hby at_31) rfl (decide_eq_false fun q => (ne_exa (ks_17 hK).2.1 (ks_15 hK).2.1 (by decide)) (Value.ref.inj q)) (by decide) (by decide) k) ?_
      show Go p.tables e below PP (T66.setTop (mkF m 40 #[.val (.int p1), .val (.int p2), .val (.int (17 : Int32)), .val (.int (1 : Int32)), .val (.ref (K 17)), .unset] []))
      refine Go.st (fun t k => XS.aload X66.here hx rfl (hb hby at_40) rfl rfl k) ?_
      show Go p.tables e below PP (T66.setTop (mkF m 42 #[.val (.int p1), .val (.int p2), .val (.int (17 : Int32)), .val (.int (1 : Int32)), .val (.ref (K 17)), .unset] [(.ref (K 17))]))
      obtain ⟨T67, X67, e67, st67⟩ := getS2 X66 hx hZ hown (host := "") (Or.inl (hw _ (List.mem_of_getElem? (i := 5) rfl))) Via.refl e66 (ks_0 hK).1 (g := (mkF m 42 #[.val (.int p1), .val (.int p2), .val (.int (17 : Int32)), .val (.int (1 : Int32)), .val (.ref (K 17)), .unset] [(.ref (K 17))])) rfl (hb hby at_42)
      refine Go.st st67 ?_
      show Go p.tables e below PP (T67.setTop (mkF m 45 #[.val (.int p1), .val (.int p2), .val (.int (17 : Int32)), .val (.int (1 : Int32)), .val (.ref (K 17)), .unset] [(.ref (K 0)), (.ref (K 17))]))
      refine Go.st (fun t k => Jvm.RoadKit.acmp (g := (mkF m 45 #[.val (.int p1), .val (.int p2), .val (.int (17 : Int32)), .val (.int (1 : Int32)), .val (.ref (K 17)), .unset] [(.ref (K 0)), (.ref (K 17))])) X67 hx rfl rfl rfl (pc0 := 45) (pc' := 48) (same := false) rfl (hb hby at_45) rfl (decide_eq_false fun q => (ne_exa (ks_17 hK).2.1 (ks_0 hK).2.1 (by decide)) (Value.ref.inj q)) (by decide) (by decide) k) ?_
      show Go p.tables e below PP (T67.setTop (mkF m 48 #[.val (.int p1), .val (.int p2), .val (.int (17 : Int32)), .val (.int (1 : Int32)), .val (.ref (K 17)), .unset] []))
      refine Go.st (fun t k => XS.aload X67.here hx rfl (hb hby at_48) rfl rfl k) ?_
      show Go p.tables e below PP (T67.setTop (mkF m 50 #[.val (.int p1), .val (.int p2), .val (.int (17 : Int32)), .val (.int (1 : Int32)), .val (.ref (K 17)), .unset] [(.ref (K 17))]))
      obtain ⟨T68, X68, e68, st68⟩ := getS2 X67 hx hZ hown (host := "") (Or.inl (hw _ (List.mem_of_getElem? (i := 19) rfl))) Via.refl e67 (ks_1 hK).1 (g := (mkF m 50 #[.val (.int p1), .val (.int p2), .val (.int (17 : Int32)), .val (.int (1 : Int32)), .val (.ref (K 17)), .unset] [(.ref (K 17))])) rfl (hb hby at_50)
      refine Go.st st68 ?_
      show Go p.tables e below PP (T68.setTop (mkF m 53 #[.val (.int p1), .val (.int p2), .val (.int (17 : Int32)), .val (.int (1 : Int32)), .val (.ref (K 17)), .unset] [(.ref (K 1)), (.ref (K 17))]))
      refine Go.st (fun t k => Jvm.RoadKit.acmp (g := (mkF m 53 #[.val (.int p1), .val (.int p2), .val (.int (17 : Int32)), .val (.int (1 : Int32)), .val (.ref (K 17)), .unset] [(.ref (K 1)), (.ref (K 17))])) X68 hx rfl rfl rfl (pc0 := 53) (pc' := 56) (same := false) rfl (hb hby at_53) rfl (decide_eq_false fun q => (ne_exa (ks_17 hK).2.1 (ks_1 hK).2.1 (by decide)) (Value.ref.inj q)) (by decide) (by decide) k) ?_
      show Go p.tables e below PP (T68.setTop (mkF m 56 #[.val (.int p1), .val (.int p2), .val (.int (17 : Int32)), .val (.int (1 : Int32)), .val (.ref (K 17)), .unset] []))
      refine Go.st (fun t k => XS.aload X68.here hx rfl (hb hby at_56) rfl rfl k) ?_
      show Go p.tables e below PP (T68.setTop (mkF m 58 #[.val (.int p1), .val (.int p2), .val (.int (17 : Int32)), .val (.int (1 : Int32)), .val (.ref (K 17)), .unset] [(.ref (K 17))]))
      obtain ⟨T69, X69, e69, st69⟩ := getS2 X68 hx hZ hown (host := "") (Or.inl (hw _ (List.mem_of_getElem? (i := 21) rfl))) Via.refl e68 (ks_13 hK).1 (g := (mkF m 58 #[.val (.int p1), .val (.int p2), .val (.int (17 : Int32)), .val (.int (1 : Int32)), .val (.ref (K 17)), .unset] [(.ref (K 17))])) rfl (hb hby at_58)
      refine Go.st st69 ?_
      show Go p.tables e below PP (T69.setTop (mkF m 61 #[.val (.int p1), .val (.int p2), .val (.int (17 : Int32)), .val (.int (1 : Int32)), .val (.ref (K 17)), .unset] [(.ref (K 13)), (.ref (K 17))]))
      refine Go.st (fun t k => Jvm.RoadKit.acmp (g := (mkF m 61 #[.val (.int p1), .val (.int p2), .val (.int (17 : Int32)), .val (.int (1 : Int32)), .val (.ref (K 17)), .unset] [(.ref (K 13)), (.ref (K 17))])) X69 hx rfl rfl rfl (pc0 := 61) (pc' := 64) (same := false) rfl (hb hby at_61) rfl (decide_eq_false fun q => (ne_exa (ks_17 hK).2.1 (ks_13 hK).2.1 (by decide)) (Value.ref.inj q)) (by decide) (by decide) k) ?_
      show Go p.tables e below PP (T69.setTop (mkF m 64 #[.val (.int p1), .val (.int p2), .val (.int (17 : Int32)), .val (.int (1 : Int32)), .val (.ref (K 17)), .unset] []))
      refine Go.st (fun t k => XS.aload X69.here hx rfl (hb hby at_64) rfl rfl k) ?_
      show Go p.tables e below PP (T69.setTop (mkF m 66 #[.val (.int p1), .val (.int p2), .val (.int (17 : Int32)), .val (.int (1 : Int32)), .val (.ref (K 17)), .unset] [(.ref (K 17))]))
      obtain ⟨T70, X70, e70, st70⟩ := getS2 X69 hx hZ hown (host := "") (Or.inl (hw _ (List.mem_of_getElem? (i := 23) rfl))) Via.refl e69 (ks_16 hK).1 (g := (mkF m 66 #[.val (.int p1), .val (.int p2), .val (.int (17 : Int32)), .val (.int (1 : Int32)), .val (.ref (K 17)), .unset] [(.ref (K 17))])) rfl (hb hby at_66)
      refine Go.st st70 ?_
      show Go p.tables e below PP (T70.setTop (mkF m 69 #[.val (.int p1), .val (.int p2), .val (.int (17 : Int32)), .val (.int (1 : Int32)), .val (.ref (K 17)), .unset] [(.ref (K 16)), (.ref (K 17))]))
      refine Go.st (fun t k => Jvm.RoadKit.acmp (g := (mkF m 69 #[.val (.int p1), .val (.int p2), .val (.int (17 : Int32)), .val (.int (1 : Int32)), .val (.ref (K 17)), .unset] [(.ref (K 16)), (.ref (K 17))])) X70 hx rfl rfl rfl (pc0 := 69) (pc' := 72) (same := false) rfl (hb hby at_69) rfl (decide_eq_false fun q => (ne_exa (ks_17 hK).2.1 (ks_16 hK).2.1 (by decide)) (Value.ref.inj q)) (by decide) (by decide) k) ?_
      show Go p.tables e below PP (T70.setTop (mkF m 72 #[.val (.int p1), .val (.int p2), .val (.int (17 : Int32)), .val (.int (1 : Int32)), .val (.ref (K 17)), .unset] []))
      refine Go.st (fun t k => XS.aload X70.here hx rfl (hb hby at_72) rfl rfl k) ?_
      show Go p.tables e below PP (T70.setTop (mkF m 74 #[.val (.int p1), .val (.int p2), .val (.int (17 : Int32)), .val (.int (1 : Int32)), .val (.ref (K 17)), .unset] [(.ref (K 17))]))
      obtain ⟨T71, X71, e71, st71⟩ := getS2 X70 hx hZ hown (host := "") (Or.inl (hw _ (List.mem_of_getElem? (i := 25) rfl))) Via.refl e70 (ks_17 hK).1 (g := (mkF m 74 #[.val (.int p1), .val (.int p2), .val (.int (17 : Int32)), .val (.int (1 : Int32)), .val (.ref (K 17)), .unset] [(.ref (K 17))])) rfl (hb hby at_74)
      refine Go.st st71 ?_
      show Go p.tables e below PP (T71.setTop (mkF m 77 #[.val (.int p1), .val (.int p2), .val (.int (17 : Int32)), .val (.int (1 : Int32)), .val (.ref (K 17)), .unset] [(.ref (K 17)), (.ref (K 17))]))
      refine Go.st (fun t k => Jvm.RoadKit.acmp (g := (mkF m 77 #[.val (.int p1), .val (.int p2), .val (.int (17 : Int32)), .val (.int (1 : Int32)), .val (.ref (K 17)), .unset] [(.ref (K 17)), (.ref (K 17))])) X71 hx rfl rfl rfl (pc0 := 77) (pc' := 80) (same := true) rfl (hb hby at_77) rfl (decide_eq_true rfl) (by decide) (by decide) k) ?_
      show Go p.tables e below PP (T71.setTop (mkF m 80 #[.val (.int p1), .val (.int p2), .val (.int (17 : Int32)), .val (.int (1 : Int32)), .val (.ref (K 17)), .unset] []))
      refine Go.st (fun t k => XS.iloadN X71.here hx rfl (hb hby at_80) rfl k) ?_
      show Go p.tables e below PP (T71.setTop (mkF m 81 #[.val (.int p1), .val (.int p2), .val (.int (17 : Int32)), .val (.int (1 : Int32)), .val (.ref (K 17)), .unset] [(.int (1 : Int32))]))
      refine Go.st (fun t k => XS.istore X71.here hx rfl (hb hby at_81) rfl (l' := #[.val (.int p1), .val (.int p2), .val (.int (17 : Int32)), .val (.int (1 : Int32)), .val (.ref (K 17)), .val (.int (1 : Int32))]) rfl k) ?_
      show Go p.tables e below PP (T71.setTop (mkF m 83 #[.val (.int p1), .val (.int p2), .val (.int (17 : Int32)), .val (.int (1 : Int32)), .val (.ref (K 17)), .val (.int (1 : Int32))] []))
      refine Go.st (fun t k => XS.goto X71.here hx rfl (pc0 := 83) (pc' := 97) rfl (hb hby at_83) (by decide) (by decide) k) ?_
      show Go p.tables e below PP (T71.setTop (mkF m 97 #[.val (.int p1), .val (.int p2), .val (.int (17 : Int32)), .val (.int (1 : Int32)), .val (.ref (K 17)), .val (.int (1 : Int32))] []))
      refine Go.st (fun t k => XS.aload X71.here hx rfl (hb hby at_97) rfl rfl k) ?_
      show Go p.tables e below PP (T71.setTop (mkF m 99 #[.val (.int p1), .val (.int p2), .val (.int (17 : Int32)), .val (.int (1 : Int32)), .val (.ref (K 17)), .val (.int (1 : Int32))] [(.ref (K 17))]))
      refine Go.st (fun t k => XS.iloadN X71.here hx rfl (hb hby at_99) rfl k) ?_
      show Go p.tables e below PP (T71.setTop (mkF m 100 #[.val (.int p1), .val (.int p2), .val (.int (17 : Int32)), .val (.int (1 : Int32)), .val (.ref (K 17)), .val (.int (1 : Int32))] [(.int (1 : Int32)), (.ref (K 17))]))
      obtain ⟨v72, T72, L72, X72, hQ72, st72⟩ := callVi X71 hx hZ (C := "com/example/llave/llave/model/CqlType$Kind$18") (y := (⟨"com/example/llave/llave/model/CqlType$Kind", "takesLiteral", "(Z)Z"⟩ : MethodName)) (z := (⟨"com/example/llave/llave/model/CqlType$Kind", "takesLiteral", "(Z)Z"⟩ : MethodName)) (a := (K 17)) (argsL := [(.int (1 : Int32))]) (rest := []) hown (hw _ (List.mem_of_getElem? (i := 10) rfl)) (hw _ (List.mem_of_getElem? (i := 11) rfl)) (notFace_of_selects (args := #[]) (mvT hZ (hw _ (List.mem_of_getElem? (i := 99) rfl)))) (hw _ (List.mem_of_getElem? (i := 99) rfl)) (hw _ (List.mem_of_getElem? (i := 12) rfl)) (hw _ (List.mem_of_getElem? (i := 6) rfl)) (hw _ (List.mem_of_getElem? (i := 14) rfl)) (by decide) rfl (ks_17 hK).2.1 (rm2 l Z a0 hw [] (K 17) (1 : Int32) (1 : Int32) h0 n0 Zn (ks_17 hK).2.2) e71 0 (by decide) (by decide) (by decide) (by decide) (g := (mkF m 100 #[.val (.int p1), .val (.int p2), .val (.int (17 : Int32)), .val (.int (1 : Int32)), .val (.ref (K 17)), .val (.int (1 : Int32))] [(.int (1 : Int32)), (.ref (K 17))])) rfl (by rw [hml]; rfl) (lenOf pd_1 rfl) rfl (by show 2 * 0 + _ ≤ _; exact Nat.le_of_eq rfl) (hb hby at_100)
      obtain ⟨rfl, rfl, e72⟩ := hQ72
      rw [List.append_nil] at X72
      refine Go.st st72 ?_
      show Go p.tables e below PP (T72.setTop (mkF m 103 #[.val (.int p1), .val (.int p2), .val (.int (17 : Int32)), .val (.int (1 : Int32)), .val (.ref (K 17)), .val (.int (1 : Int32))] [(.int (bi ((1 : Int32) = (1 : Int32))))]))
      refine Go.st (fun t k => XS.iload X72.here hx rfl (hb hby at_103) rfl k) ?_
      show Go p.tables e below PP (T72.setTop (mkF m 105 #[.val (.int p1), .val (.int p2), .val (.int (17 : Int32)), .val (.int (1 : Int32)), .val (.ref (K 17)), .val (.int (1 : Int32))] [(.int (1 : Int32)), (.int (bi ((1 : Int32) = (1 : Int32))))]))
      refine Go.st (fun t k => XS.icmpNo X72.here hx rfl (hb hby at_105) rfl (XT.ii_ne_f (by decide)) k) ?_
      show Go p.tables e below PP (T72.setTop (mkF m 108 #[.val (.int p1), .val (.int p2), .val (.int (17 : Int32)), .val (.int (1 : Int32)), .val (.ref (K 17)), .val (.int (1 : Int32))] []))
      refine Go.st (fun t k => XS.iconst X72.here hx rfl (hb hby at_108) k) ?_
      show Go p.tables e below PP (T72.setTop (mkF m 109 #[.val (.int p1), .val (.int p2), .val (.int (17 : Int32)), .val (.int (1 : Int32)), .val (.ref (K 17)), .val (.int (1 : Int32))] [(.int (1 : Int32))]))
      refine Go.st (fun t k => XS.goto X72.here hx rfl (pc0 := 109) (pc' := 113) rfl (hb hby at_109) (by decide) (by decide) k) ?_
      show Go p.tables e below PP (T72.setTop (mkF m 113 #[.val (.int p1), .val (.int p2), .val (.int (17 : Int32)), .val (.int (1 : Int32)), .val (.ref (K 17)), .val (.int (1 : Int32))] [(.int (1 : Int32))]))
      rw [hPP]
      refine endN X72 hx hlk (t := .boolean) hret (by simp) (hb hby at_113) (w := (1 : Int32)) (rfl) ?_ (by decide) (by decide)
      show Q0 Z p1 p2 K h0 n0 (some (.int (1 : Int32))) T72.heap _
      rw [e72]
      exact ⟨rfl, N0⟩
    · --
      subst hj
      show Go p.tables e below PP (T37.setTop (mkF m 24 #[.val (.int p1), .val (.int p2), .val (.int (18 : Int32)), .val (.int (1 : Int32)), .unset, .unset] [(.ref (K 18))]))
      exact J24 _ _ _ _ X37 e37 N0 ⟨(ks_18 hK).2.1, (hw _ (List.mem_of_getElem? (i := 81) rfl)), (ks_18 hK).2.2, ne_exa (ks_18 hK).2.1 (ks_15 hK).2.1 (by decide), ne_exa (ks_18 hK).2.1 (ks_0 hK).2.1 (by decide), ne_exa (ks_18 hK).2.1 (ks_1 hK).2.1 (by decide), ne_exa (ks_18 hK).2.1 (ks_13 hK).2.1 (by decide), ne_exa (ks_18 hK).2.1 (ks_16 hK).2.1 (by decide), ne_exa (ks_18 hK).2.1 (ks_17 hK).2.1 (by decide)⟩
    · --
      subst hj
      show Go p.tables e below PP (T37.setTop (mkF m 24 #[.val (.int p1), .val (.int p2), .val (.int (19 : Int32)), .val (.int (1 : Int32)), .unset, .unset] [(.ref (K 19))]))
      exact J24 _ _ _ _ X37 e37 N0 ⟨(ks_19 hK).2.1, (hw _ (List.mem_of_getElem? (i := 93) rfl)), (ks_19 hK).2.2, ne_exa (ks_19 hK).2.1 (ks_15 hK).2.1 (by decide), ne_exa (ks_19 hK).2.1 (ks_0 hK).2.1 (by decide), ne_exa (ks_19 hK).2.1 (ks_1 hK).2.1 (by decide), ne_exa (ks_19 hK).2.1 (ks_13 hK).2.1 (by decide), ne_exa (ks_19 hK).2.1 (ks_16 hK).2.1 (by decide), ne_exa (ks_19 hK).2.1 (ks_17 hK).2.1 (by decide)⟩
    · --
      subst hj
      show Go p.tables e below PP (T37.setTop (mkF m 24 #[.val (.int p1), .val (.int p2), .val (.int (20 : Int32)), .val (.int (1 : Int32)), .unset, .unset] [(.ref (K 20))]))
      exact J24 _ _ _ _ X37 e37 N0 ⟨(ks_20 hK).2.1, (hw _ (List.mem_of_getElem? (i := 31) rfl)), (ks_20 hK).2.2, ne_exa (ks_20 hK).2.1 (ks_15 hK).2.1 (by decide), ne_exa (ks_20 hK).2.1 (ks_0 hK).2.1 (by decide), ne_exa (ks_20 hK).2.1 (ks_1 hK).2.1 (by decide), ne_exa (ks_20 hK).2.1 (ks_13 hK).2.1 (by decide), ne_exa (ks_20 hK).2.1 (ks_16 hK).2.1 (by decide), ne_exa (ks_20 hK).2.1 (ks_17 hK).2.1 (by decide)⟩
    · --
      subst hj
      show Go p.tables e below PP (T37.setTop (mkF m 24 #[.val (.int p1), .val (.int p2), .val (.int (21 : Int32)), .val (.int (1 : Int32)), .unset, .unset] [(.ref (K 21))]))
      exact J24 _ _ _ _ X37 e37 N0 ⟨(ks_21 hK).2.1, (hw _ (List.mem_of_getElem? (i := 77) rfl)), (ks_21 hK).2.2, ne_exa (ks_21 hK).2.1 (ks_15 hK).2.1 (by decide), ne_exa (ks_21 hK).2.1 (ks_0 hK).2.1 (by decide), ne_exa (ks_21 hK).2.1 (ks_1 hK).2.1 (by decide), ne_exa (ks_21 hK).2.1 (ks_13 hK).2.1 (by decide), ne_exa (ks_21 hK).2.1 (ks_16 hK).2.1 (by decide), ne_exa (ks_21 hK).2.1 (ks_17 hK).2.1 (by decide)⟩
set_option maxRecDepth 65536 in
set_option maxHeartbeats 40000000 in
theorem comes_1 {Post : Tables → Env → Array Value → State → Outcome → State → Prop} (hpost : ∀ tb e args s v u, (limb_1_1.after args s (.returned v) u = true ∧ limb_1_2.after args s (.returned v) u = true ∧ True) → FrameEnd s (.returned v) u (Jvm.fieldLocs frame_1_writes args s ++ Jvm.arrayLocs frame_1_arrays args s ++ Jvm.staticLocs frame_1_statics s) 0 0 → Post tb e args s (.returned v) u) :
    ArmFor flags0 classFile x code maxLocals ret World_1 tables_1 room_1 Calls_1 rest_1 Pre_1 Post := by
  intro l hfl _ _ p e ha hc hk s m args below hf hA hF happ hP
  obtain ⟨hcalls, hrest, hpre⟩ := hP
  obtain ⟨-, -, -, hnamed, -, -, -, hat⟩ := (Spec.applies_iff hf).mp happ
  obtain ⟨hg, hn⟩ := and_e (Cond.before_iff.mp (show (Jvm.Cond.and given_1 narrow_1).before args s = true from hpre))
  obtain ⟨g1, g2⟩ := and_e hg
  obtain ⟨g3, g4⟩ := and_e g2
  obtain ⟨w0, w1, rfl⟩ : ∃ w0 w1 : Value, args = #[w0, w1] := by
    have hs : args.size = 2 := by simpa [Cond.value, given_1] using g1
    obtain ⟨L⟩ := args
    match L, hs with
    | [w0, w1], _ => exact ⟨w0, w1, rfl⟩
  have hw := fun d (hd : d ∈ tables_1) => atoms_spec (ws := Jvm.Cond.code x code maxLocals ret :: tables_1) hat d (List.mem_cons_of_mem _ hd)
  have hfit : Fit s := fun {y c} hc i hi => by
    obtain ⟨ha, rfl⟩ := Array.getElem?_eq_some_iff.mp hc
    have q := List.all_eq_true.mp ((Array.all_eq_true_iff_forall_mem.mp hF) _ (Array.getElem_mem ha)) i (List.mem_range.mpr hi)
    simpa [Array.getElem?_eq_getElem hi] using q
  obtain ⟨i0, ei0⟩ := is_v g3
  obtain rfl : w0 = (.int i0) := Option.some.inj ei0
  obtain ⟨i1, ei1⟩ := is_v g4
  obtain rfl : w1 = (.int i1) := Option.some.inj ei1
  obtain ⟨c0, hn⟩ := and_e hn
  obtain ⟨c1, hn⟩ := and_e hn
  obtain ⟨c2, hn⟩ := and_e hn
  obtain ⟨c3, hn⟩ := and_e hn
  obtain ⟨c4, hn⟩ := and_e hn
  obtain ⟨c5, hn⟩ := and_e hn
  obtain ⟨c6, hn⟩ := and_e hn
  obtain ⟨c7, hn⟩ := and_e hn
  obtain ⟨c8, hn⟩ := and_e hn
  obtain ⟨c9, hn⟩ := and_e hn
  obtain ⟨c10, hn⟩ := and_e hn
  obtain ⟨c11, hn⟩ := and_e hn
  obtain ⟨c12, hn⟩ := and_e hn
  obtain ⟨c13, hn⟩ := and_e hn
  obtain ⟨c14, hn⟩ := and_e hn
  obtain ⟨c15, hn⟩ := and_e hn
  obtain ⟨c16, hn⟩ := and_e hn
  obtain ⟨c17, hn⟩ := and_e hn
  obtain ⟨c18, hn⟩ := and_e hn
  obtain ⟨c19, hn⟩ := and_e hn
  obtain ⟨c20, hn⟩ := and_e hn
  obtain ⟨c21, hn⟩ := and_e hn
  obtain ⟨c22, hn⟩ := and_e hn
  obtain ⟨c23, hn⟩ := and_e hn
  obtain ⟨c24, hn⟩ := and_e hn
  obtain ⟨c25, hn⟩ := and_e hn
  obtain ⟨c26, hn⟩ := and_e hn
  obtain ⟨c27, hn⟩ := and_e hn
  obtain ⟨c28, hn⟩ := and_e hn
  obtain ⟨c29, hn⟩ := and_e hn
  obtain ⟨c30, hn⟩ := and_e hn
  obtain ⟨c31, hn⟩ := and_e hn
  obtain ⟨c32, hn⟩ := and_e hn
  obtain ⟨c33, hn⟩ := and_e hn
  obtain ⟨c34, hn⟩ := and_e hn
  obtain ⟨c35, hn⟩ := and_e hn
  obtain ⟨c36, hn⟩ := and_e hn
  obtain ⟨c37, hn⟩ := and_e hn
  obtain ⟨c38, hn⟩ := and_e hn
  obtain ⟨c39, hn⟩ := and_e hn
  obtain ⟨c40, hn⟩ := and_e hn
  obtain ⟨c41, hn⟩ := and_e hn
  obtain ⟨c42, c43⟩ := and_e hn
  obtain ⟨k0, ev0⟩ := exa_v c0
  obtain ⟨k1, ev1⟩ := exa_v c4
  obtain ⟨k2, ev2⟩ := exa_v c27
  obtain ⟨k3, ev3⟩ := exa_v c21
  obtain ⟨k4, ev4⟩ := exa_v c38
  obtain ⟨k5, ev5⟩ := exa_v c11
  obtain ⟨k6, ev6⟩ := exa_v c13
  obtain ⟨k7, ev7⟩ := exa_v c36
  obtain ⟨k8, ev8⟩ := exa_v c15
  obtain ⟨k9, ev9⟩ := exa_v c19
  obtain ⟨k10, ev10⟩ := exa_v c30
  obtain ⟨k11, ev11⟩ := exa_v c24
  obtain ⟨k12, ev12⟩ := exa_v c17
  obtain ⟨k13, ev13⟩ := exa_v c5
  obtain ⟨k14, ev14⟩ := exa_v c3
  obtain ⟨k15, ev15⟩ := exa_v c1
  obtain ⟨k16, ev16⟩ := exa_v c6
  obtain ⟨k17, ev17⟩ := exa_v c7
  obtain ⟨k18, ev18⟩ := exa_v c34
  obtain ⟨k19, ev19⟩ := exa_v c40
  obtain ⟨k20, ev20⟩ := exa_v c9
  obtain ⟨k21, ev21⟩ := exa_v c32
  have hK : KS s s.heap (fun n => [k0, k1, k2, k3, k4, k5, k6, k7, k8, k9, k10, k11, k12, k13, k14, k15, k16, k17, k18, k19, k20, k21].getD n 0) := ⟨⟨Sta.start ev0 (Or.inr ⟨(hw _ (List.mem_of_getElem? (i := 6) rfl)), (hw _ (List.mem_of_getElem? (i := 7) rfl))⟩), Exa.start ev0 c0, Fld.start ((fld_at ev0).symm.trans (eqI_v c2))⟩, ⟨Sta.start ev1 (Or.inr ⟨(hw _ (List.mem_of_getElem? (i := 6) rfl)), (hw _ (List.mem_of_getElem? (i := 20) rfl))⟩), Exa.start ev1 c4, Fld.start ((fld_at ev1).symm.trans (eqI_v c26))⟩, ⟨Sta.start ev2 (Or.inr ⟨(hw _ (List.mem_of_getElem? (i := 6) rfl)), (hw _ (List.mem_of_getElem? (i := 66) rfl))⟩), Exa.start ev2 c27, Fld.start ((fld_at ev2).symm.trans (eqI_v c28))⟩, ⟨Sta.start ev3 (Or.inr ⟨(hw _ (List.mem_of_getElem? (i := 6) rfl)), (hw _ (List.mem_of_getElem? (i := 54) rfl))⟩), Exa.start ev3 c21, Fld.start ((fld_at ev3).symm.trans (eqI_v c22))⟩, ⟨Sta.start ev4 (Or.inr ⟨(hw _ (List.mem_of_getElem? (i := 6) rfl)), (hw _ (List.mem_of_getElem? (i := 88) rfl))⟩), Exa.start ev4 c38, Fld.start ((fld_at ev4).symm.trans (eqI_v c39))⟩, ⟨Sta.start ev5 (Or.inr ⟨(hw _ (List.mem_of_getElem? (i := 6) rfl)), (hw _ (List.mem_of_getElem? (i := 34) rfl))⟩), Exa.start ev5 c11, Fld.start ((fld_at ev5).symm.trans (eqI_v c12))⟩, ⟨Sta.start ev6 (Or.inr ⟨(hw _ (List.mem_of_getElem? (i := 6) rfl)), (hw _ (List.mem_of_getElem? (i := 38) rfl))⟩), Exa.start ev6 c13, Fld.start ((fld_at ev6).symm.trans (eqI_v c14))⟩, ⟨Sta.start ev7 (Or.inr ⟨(hw _ (List.mem_of_getElem? (i := 6) rfl)), (hw _ (List.mem_of_getElem? (i := 84) rfl))⟩), Exa.start ev7 c36, Fld.start ((fld_at ev7).symm.trans (eqI_v c37))⟩, ⟨Sta.start ev8 (Or.inr ⟨(hw _ (List.mem_of_getElem? (i := 6) rfl)), (hw _ (List.mem_of_getElem? (i := 42) rfl))⟩), Exa.start ev8 c15, Fld.start ((fld_at ev8).symm.trans (eqI_v c16))⟩, ⟨Sta.start ev9 (Or.inr ⟨(hw _ (List.mem_of_getElem? (i := 6) rfl)), (hw _ (List.mem_of_getElem? (i := 50) rfl))⟩), Exa.start ev9 c19, Fld.start ((fld_at ev9).symm.trans (eqI_v c20))⟩, ⟨Sta.start ev10 (Or.inr ⟨(hw _ (List.mem_of_getElem? (i := 6) rfl)), (hw _ (List.mem_of_getElem? (i := 72) rfl))⟩), Exa.start ev10 c30, Fld.start ((fld_at ev10).symm.trans (eqI_v c31))⟩, ⟨Sta.start ev11 (Or.inr ⟨(hw _ (List.mem_of_getElem? (i := 6) rfl)), (hw _ (List.mem_of_getElem? (i := 60) rfl))⟩), Exa.start ev11 c24, Fld.start ((fld_at ev11).symm.trans (eqI_v c25))⟩, ⟨Sta.start ev12 (Or.inr ⟨(hw _ (List.mem_of_getElem? (i := 6) rfl)), (hw _ (List.mem_of_getElem? (i := 46) rfl))⟩), Exa.start ev12 c17, Fld.start ((fld_at ev12).symm.trans (eqI_v c18))⟩, ⟨Sta.start ev13 (Or.inr ⟨(hw _ (List.mem_of_getElem? (i := 6) rfl)), (hw _ (List.mem_of_getElem? (i := 22) rfl))⟩), Exa.start ev13 c5, Fld.start ((fld_at ev13).symm.trans (eqI_v c23))⟩, ⟨Sta.start ev14 (Or.inr ⟨(hw _ (List.mem_of_getElem? (i := 6) rfl)), (hw _ (List.mem_of_getElem? (i := 18) rfl))⟩), Exa.start ev14 c3, Fld.start ((fld_at ev14).symm.trans (eqI_v c8))⟩, ⟨Sta.start ev15 (Or.inr ⟨(hw _ (List.mem_of_getElem? (i := 6) rfl)), (hw _ (List.mem_of_getElem? (i := 9) rfl))⟩), Exa.start ev15 c1, Fld.start ((fld_at ev15).symm.trans (eqI_v c43))⟩, ⟨Sta.start ev16 (Or.inr ⟨(hw _ (List.mem_of_getElem? (i := 6) rfl)), (hw _ (List.mem_of_getElem? (i := 24) rfl))⟩), Exa.start ev16 c6, Fld.start ((fld_at ev16).symm.trans (eqI_v c29))⟩, ⟨Sta.start ev17 (Or.inr ⟨(hw _ (List.mem_of_getElem? (i := 6) rfl)), (hw _ (List.mem_of_getElem? (i := 26) rfl))⟩), Exa.start ev17 c7, Fld.start ((fld_at ev17).symm.trans (eqI_v c42))⟩, ⟨Sta.start ev18 (Or.inr ⟨(hw _ (List.mem_of_getElem? (i := 6) rfl)), (hw _ (List.mem_of_getElem? (i := 80) rfl))⟩), Exa.start ev18 c34, Fld.start ((fld_at ev18).symm.trans (eqI_v c35))⟩, ⟨Sta.start ev19 (Or.inr ⟨(hw _ (List.mem_of_getElem? (i := 6) rfl)), (hw _ (List.mem_of_getElem? (i := 92) rfl))⟩), Exa.start ev19 c40, Fld.start ((fld_at ev19).symm.trans (eqI_v c41))⟩, ⟨Sta.start ev20 (Or.inr ⟨(hw _ (List.mem_of_getElem? (i := 6) rfl)), (hw _ (List.mem_of_getElem? (i := 30) rfl))⟩), Exa.start ev20 c9, Fld.start ((fld_at ev20).symm.trans (eqI_v c10))⟩, ⟨Sta.start ev21 (Or.inr ⟨(hw _ (List.mem_of_getElem? (i := 6) rfl)), (hw _ (List.mem_of_getElem? (i := 76) rfl))⟩), Exa.start ev21 c32, Fld.start ((fld_at ev21).symm.trans (eqI_v c33))⟩⟩
  obtain ⟨n, o, h1, h2, h3, _, L, rfl, ⟨rfl, N⟩, hq⟩ := rm0 l s _ hw tables_1 i0 i1 _ s.heap s.heap.size (Nat.le_refl _) hK p e ha hc hk s m _ below hf ((Spec.applies_iff_loose hf).mp happ).1 ⟨rfl, State.Warmed39.refl s, rfl⟩ trivial
  refine ⟨n, _, h1, h2, h3, hpost _ _ _ _ _ _ ⟨Cond.after_iff.mpr rfl, Cond.after_iff.mpr (eq_i res_at (Term.int_eval (1)) rfl), trivial⟩ ⟨hq.1, hq.2.1, (hq.2.2.sift fun y hy => Or.inr (N y hy)).mono (by decide) (by decide)⟩⟩
theorem main_1_1 : Claimed_1_1 := comes_1 fun _ _ _ _ _ _ h hF => ⟨h.1, hF⟩
theorem main_1_2 : Claimed_1_2 := comes_1 fun _ _ _ _ _ _ h hF => ⟨h.2.1, hF⟩
end Jvm.Pilot.@@N@@
namespace Jvm.Pilot.@@N@@
open Jvm Jvm.ClassFile Sem Op Lib Jvm.Free Jvm.Stand Jvm.Pilot.@@N@@.Jvm.D
/-! MADE BY PROGRAM (witnessworld.py) out of the Statement's table words and the real class files: 34 classes; the members and pool entries that the words name. The judged class is class 1, her method 2. -/
namespace start1
open Jvm.ClassFile
def u (s : String) : CpInfo := .utf8 (stringToUtf16 s)
/-- a pool by its gaps: so many unusable entries, then the entry; so many at the end -/
def gap : Nat → List CpInfo → List CpInfo
  | 0, r => r
  | n + 1, r => .unusable :: gap n r
def poolList (es : List (Nat × CpInfo)) (last : Nat) : List CpInfo := es.foldr (fun e r => gap e.1 (e.2 :: r)) (gap last [])
def pool (es : List (Nat × CpInfo)) (last : Nat) : Array CpInfo := ⟨poolList es last⟩
def fileOf (pool : Array CpInfo) (this : Nat) (attrs : Array Attribute := #[]) (ms : Array MethodInfo := #[]) (fl : Nat := 33) (sup : Nat := 0) (ifs : Array Nat := #[]) (fds : Array FieldInfo := #[]) : ClassFile where
  minorVersion := 0
  majorVersion := 65
  constantPool := pool
  accessFlags := fl
  thisClass := this
  superClass := sup
  interfaces := ifs
  fields := fds
  methods := ms
  attributes := attrs
def plain (name : String) (sup : Option ClassId) : Class where
  name := name
  kind := .ordinary
  loader := none
  accessFlags := 33
  super := sup
  interfaces := #[]
  cf := none
  fields := #[]
  methods := #[]
  instanceTypes := #[]
  staticTypes := #[]
  resolved := #[]
  callSites := []
  init := .initialized
  statics := none
  mirror := none

def pool0 : Array CpInfo := pool [(5, u "<init>"), (0, u "()V"), (1, .class_ 10), (1, u "java/lang/Object")] 113

def k0m0 : Method := { name := "<init>", desc := "()V", sig := { parameters := [], returnType := none }, accessFlags := 1, code := none }
/-- java/lang/Object -/
def k0 : Class := { plain "java/lang/Object" none with
  accessFlags := 33
  interfaces := #[]
  cf := some (fileOf pool0 8 #[] #[{ accessFlags := 1, nameIndex := 5, descriptorIndex := 6, attributes := #[] }] 33 0 #[] #[])
  fields := #[]
  methods := #[k0m0]
  instanceTypes := #[]
  staticTypes := #[]
  resolved := Array.replicate 124 none
  statics := none }

def pool1 : Array CpInfo := pool [(2, .class_ 4), (1, u "java/lang/Object"), (0, u "<init>"), (0, u "()V"), (0, .fieldref 8 9), (0, .class_ 10), (0, .nameAndType 11 12), (0, u "com/example/llave/llave/model/CqlType$Kind"), (0, u "TEXT"), (0, u "Lcom/example/llave/llave/model/CqlType$Kind;"), (0, .fieldref 8 14), (0, .nameAndType 15 12), (0, u "ASCII"), (0, .fieldref 8 17), (0, .nameAndType 18 12), (0, u "TINYINT"), (0, .fieldref 8 20), (0, .nameAndType 21 12), (0, u "SMALLINT"), (0, .fieldref 8 23), (0, .nameAndType 24 12), (0, u "INT"), (0, .fieldref 8 26), (0, .nameAndType 27 12), (0, u "BIGINT"), (0, .fieldref 8 29), (0, .nameAndType 30 12), (0, u "VARINT"), (0, .fieldref 8 32), (0, .nameAndType 33 12), (0, u "DECIMAL"), (0, .fieldref 8 35), (0, .nameAndType 36 12), (0, u "FLOAT"), (0, .fieldref 8 38), (0, .nameAndType 39 12), (0, u "DOUBLE"), (0, .fieldref 8 41), (0, .nameAndType 42 12), (0, u "BOOLEAN"), (0, .fieldref 8 44), (0, .nameAndType 45 12), (0, u "UUID"), (0, .fieldref 8 47), (0, .nameAndType 48 12), (0, u "TIMEUUID"), (0, .fieldref 8 50), (0, .nameAndType 51 12), (0, u "INET"), (0, .fieldref 8 53), (0, .nameAndType 54 12), (0, u "BLOB"), (0, .fieldref 8 56), (0, .nameAndType 57 12), (0, u "TIMESTAMP"), (0, .fieldref 8 59), (0, .nameAndType 60 12), (0, u "DATE"), (0, .fieldref 8 62), (0, .nameAndType 63 12), (0, u "TIME"), (0, .fieldref 8 65), (0, .nameAndType 66 12), (0, u "LIST"), (0, .fieldref 8 68), (0, .nameAndType 69 12), (0, u "SET"), (0, .fieldref 8 71), (0, .nameAndType 72 12), (0, u "MAP"), (0, .fieldref 8 74), (0, .nameAndType 75 12), (0, u "USER"), (0, .integer 2147483647), (0, .methodref 78 79), (0, .class_ 80), (0, .nameAndType 81 82), (0, u "com/example/llave/llave/model/CqlTypeTakesLiteralPinLaw"), (0, u "kindAt"), (0, u "(I)Lcom/example/llave/llave/model/CqlType$Kind;"), (0, .methodref 8 84), (0, .nameAndType 85 86), (0, u "takesLiteral"), (0, u "(Z)Z"), (3, u "law"), (0, u "(II)Z")] 6

def k1m0 : Method := { name := "<init>", desc := "()V", sig := { parameters := [], returnType := none }, accessFlags := 2, code := none }
def k1c1 : Code := { maxStack := 2, maxLocals := 1, code := method_2_code, exceptionTable := #[], attributes := #[] }
def k1m1 : Method := { name := "kindAt", desc := "(I)Lcom/example/llave/llave/model/CqlType$Kind;", sig := { parameters := [.int], returnType := some (.object "com/example/llave/llave/model/CqlType$Kind") }, accessFlags := 10, code := some k1c1 }
def k1c2 : Code := { maxStack := 2, maxLocals := 6, code := code, exceptionTable := #[], attributes := #[] }
def k1m2 : Method := { name := "law", desc := "(II)Z", sig := { parameters := [.int, .int], returnType := some .boolean }, accessFlags := 9, code := some k1c2 }
/-- com/example/llave/llave/model/CqlTypeTakesLiteralPinLaw -/
def k1 : Class := { plain "com/example/llave/llave/model/CqlTypeTakesLiteralPinLaw" (some 0) with
  accessFlags := 49
  interfaces := #[]
  cf := some (fileOf pool1 78 #[] #[{ accessFlags := 2, nameIndex := 5, descriptorIndex := 6, attributes := #[] }, { accessFlags := 10, nameIndex := 81, descriptorIndex := 82, attributes := #[] }, { accessFlags := 9, nameIndex := 90, descriptorIndex := 91, attributes := #[] }] 49 2 #[] #[])
  fields := #[]
  methods := #[k1m0, k1m1, k1m2]
  instanceTypes := #[]
  staticTypes := #[]
  resolved := Array.replicate 98 none
  statics := none }

def pool2 : Array CpInfo := pool [(1, .class_ 2), (0, u "java/lang/constant/Constable"), (0, .class_ 4), (0, u "java/lang/Object")] 6

/-- java/lang/constant/Constable -/
def k2 : Class := { plain "java/lang/constant/Constable" (some 0) with
  accessFlags := 1537
  interfaces := #[]
  cf := some (fileOf pool2 1 #[] #[] 1537 3 #[] #[])
  fields := #[]
  methods := #[]
  instanceTypes := #[]
  staticTypes := #[]
  resolved := Array.replicate 11 none
  statics := none }

def pool3 : Array CpInfo := pool [(1, .class_ 2), (0, u "java/lang/Comparable"), (0, .class_ 4), (0, u "java/lang/Object")] 7

/-- java/lang/Comparable -/
def k3 : Class := { plain "java/lang/Comparable" (some 0) with
  accessFlags := 1537
  interfaces := #[]
  cf := some (fileOf pool3 1 #[] #[] 1537 3 #[] #[])
  fields := #[]
  methods := #[]
  instanceTypes := #[]
  staticTypes := #[]
  resolved := Array.replicate 12 none
  statics := none }

def pool4 : Array CpInfo := pool [(1, .class_ 2), (0, u "java/io/Serializable"), (0, .class_ 4), (0, u "java/lang/Object")] 2

/-- java/io/Serializable -/
def k4 : Class := { plain "java/io/Serializable" (some 0) with
  accessFlags := 1537
  interfaces := #[]
  cf := some (fileOf pool4 1 #[] #[] 1537 3 #[] #[])
  fields := #[]
  methods := #[]
  instanceTypes := #[]
  staticTypes := #[]
  resolved := Array.replicate 7 none
  statics := none }

def pool5 : Array CpInfo := pool [(2, .class_ 4), (1, u "java/lang/Enum"), (0, u "name"), (0, u "Ljava/lang/String;"), (2, u "ordinal"), (0, u "I"), (1, .class_ 14), (1, u "java/lang/Object"), (4, u "hash"), (86, .class_ 108), (1, u "java/lang/Enum$EnumDesc"), (2, .class_ 112), (0, u "java/lang/constant/Constable"), (0, .class_ 114), (0, u "java/lang/Comparable"), (0, .class_ 116), (0, u "java/io/Serializable")] 87

/-- java/lang/Enum -/
def k5 : Class := { plain "java/lang/Enum" (some 0) with
  accessFlags := 1057
  interfaces := #[2, 3, 4]
  cf := some (fileOf pool5 2 #[.nestMembers #[106]] #[] 1057 12 #[111, 113, 115] #[{ accessFlags := 18, nameIndex := 5, descriptorIndex := 6, attributes := #[] }, { accessFlags := 18, nameIndex := 9, descriptorIndex := 10, attributes := #[] }, { accessFlags := 2, nameIndex := 19, descriptorIndex := 10, attributes := #[] }])
  fields := #[{ name := "name", type := (.object "java/lang/String"), accessFlags := 18, slot := 0, constantValue := 0 }, { name := "ordinal", type := .int, accessFlags := 18, slot := 1, constantValue := 0 }, { name := "hash", type := .int, accessFlags := 2, slot := 2, constantValue := 0 }]
  methods := #[]
  instanceTypes := #[(.object "java/lang/String"), .int, .int]
  staticTypes := #[]
  resolved := Array.replicate 204 none
  statics := none }

def pool6 : Array CpInfo := pool [(1, .class_ 2), (0, u "com/example/llave/llave/model/CqlType$Kind"), (2, u "TEXT"), (0, u "Lcom/example/llave/llave/model/CqlType$Kind;"), (2, u "ASCII"), (2, u "TINYINT"), (2, u "SMALLINT"), (2, u "INT"), (2, u "BIGINT"), (2, u "VARINT"), (2, u "DECIMAL"), (2, u "FLOAT"), (2, u "DOUBLE"), (2, u "BOOLEAN"), (2, u "UUID"), (2, u "TIMEUUID"), (2, u "INET"), (2, u "BLOB"), (2, u "TIMESTAMP"), (2, u "DATE"), (2, u "TIME"), (2, u "LIST"), (2, u "SET"), (2, u "MAP"), (2, u "USER"), (2, u "$VALUES"), (0, u "[Lcom/example/llave/llave/model/CqlType$Kind;"), (6, .class_ 82), (1, u "java/lang/Enum"), (8, u "protocolId"), (0, u "I"), (2, u "parameterCount"), (0, .fieldref 1 97), (0, .nameAndType 98 99), (0, u "quotedLiteral"), (0, u "Z"), (8, u "names"), (0, u "Ljava/util/List;"), (16, .class_ 128), (1, u "com/example/llave/llave/model/CqlType"), (198, u "takesLiteral"), (0, u "(Z)Z")] 30

def k6c0 : Code := { maxStack := 2, maxLocals := 2, code := prog_79_method_6_code, exceptionTable := #[], attributes := #[] }
def k6m0 : Method := { name := "takesLiteral", desc := "(Z)Z", sig := { parameters := [.boolean], returnType := some .boolean }, accessFlags := 0, code := some k6c0 }
/-- com/example/llave/llave/model/CqlType$Kind -/
def k6 : Class := { plain "com/example/llave/llave/model/CqlType$Kind" (some 5) with
  accessFlags := 17441
  interfaces := #[]
  cf := some (fileOf pool6 1 #[.nestHost 126] #[{ accessFlags := 0, nameIndex := 327, descriptorIndex := 328, attributes := #[] }] 17441 80 #[] #[{ accessFlags := 16409, nameIndex := 5, descriptorIndex := 6, attributes := #[] }, { accessFlags := 16409, nameIndex := 9, descriptorIndex := 6, attributes := #[] }, { accessFlags := 16409, nameIndex := 12, descriptorIndex := 6, attributes := #[] }, { accessFlags := 16409, nameIndex := 15, descriptorIndex := 6, attributes := #[] }, { accessFlags := 16409, nameIndex := 18, descriptorIndex := 6, attributes := #[] }, { accessFlags := 16409, nameIndex := 21, descriptorIndex := 6, attributes := #[] }, { accessFlags := 16409, nameIndex := 24, descriptorIndex := 6, attributes := #[] }, { accessFlags := 16409, nameIndex := 27, descriptorIndex := 6, attributes := #[] }, { accessFlags := 16409, nameIndex := 30, descriptorIndex := 6, attributes := #[] }, { accessFlags := 16409, nameIndex := 33, descriptorIndex := 6, attributes := #[] }, { accessFlags := 16409, nameIndex := 36, descriptorIndex := 6, attributes := #[] }, { accessFlags := 16409, nameIndex := 39, descriptorIndex := 6, attributes := #[] }, { accessFlags := 16409, nameIndex := 42, descriptorIndex := 6, attributes := #[] }, { accessFlags := 16409, nameIndex := 45, descriptorIndex := 6, attributes := #[] }, { accessFlags := 16409, nameIndex := 48, descriptorIndex := 6, attributes := #[] }, { accessFlags := 16409, nameIndex := 51, descriptorIndex := 6, attributes := #[] }, { accessFlags := 16409, nameIndex := 54, descriptorIndex := 6, attributes := #[] }, { accessFlags := 16409, nameIndex := 57, descriptorIndex := 6, attributes := #[] }, { accessFlags := 16409, nameIndex := 60, descriptorIndex := 6, attributes := #[] }, { accessFlags := 16409, nameIndex := 63, descriptorIndex := 6, attributes := #[] }, { accessFlags := 16409, nameIndex := 66, descriptorIndex := 6, attributes := #[] }, { accessFlags := 16409, nameIndex := 69, descriptorIndex := 6, attributes := #[] }, { accessFlags := 18, nameIndex := 91, descriptorIndex := 92, attributes := #[] }, { accessFlags := 18, nameIndex := 95, descriptorIndex := 92, attributes := #[] }, { accessFlags := 18, nameIndex := 98, descriptorIndex := 99, attributes := #[] }, { accessFlags := 18, nameIndex := 108, descriptorIndex := 109, attributes := #[] }, { accessFlags := 4122, nameIndex := 72, descriptorIndex := 73, attributes := #[] }])
  fields := #[{ name := "TEXT", type := (.object "com/example/llave/llave/model/CqlType$Kind"), accessFlags := 16409, slot := 0, constantValue := 0 }, { name := "ASCII", type := (.object "com/example/llave/llave/model/CqlType$Kind"), accessFlags := 16409, slot := 1, constantValue := 0 }, { name := "TINYINT", type := (.object "com/example/llave/llave/model/CqlType$Kind"), accessFlags := 16409, slot := 2, constantValue := 0 }, { name := "SMALLINT", type := (.object "com/example/llave/llave/model/CqlType$Kind"), accessFlags := 16409, slot := 3, constantValue := 0 }, { name := "INT", type := (.object "com/example/llave/llave/model/CqlType$Kind"), accessFlags := 16409, slot := 4, constantValue := 0 }, { name := "BIGINT", type := (.object "com/example/llave/llave/model/CqlType$Kind"), accessFlags := 16409, slot := 5, constantValue := 0 }, { name := "VARINT", type := (.object "com/example/llave/llave/model/CqlType$Kind"), accessFlags := 16409, slot := 6, constantValue := 0 }, { name := "DECIMAL", type := (.object "com/example/llave/llave/model/CqlType$Kind"), accessFlags := 16409, slot := 7, constantValue := 0 }, { name := "FLOAT", type := (.object "com/example/llave/llave/model/CqlType$Kind"), accessFlags := 16409, slot := 8, constantValue := 0 }, { name := "DOUBLE", type := (.object "com/example/llave/llave/model/CqlType$Kind"), accessFlags := 16409, slot := 9, constantValue := 0 }, { name := "BOOLEAN", type := (.object "com/example/llave/llave/model/CqlType$Kind"), accessFlags := 16409, slot := 10, constantValue := 0 }, { name := "UUID", type := (.object "com/example/llave/llave/model/CqlType$Kind"), accessFlags := 16409, slot := 11, constantValue := 0 }, { name := "TIMEUUID", type := (.object "com/example/llave/llave/model/CqlType$Kind"), accessFlags := 16409, slot := 12, constantValue := 0 }, { name := "INET", type := (.object "com/example/llave/llave/model/CqlType$Kind"), accessFlags := 16409, slot := 13, constantValue := 0 }, { name := "BLOB", type := (.object "com/example/llave/llave/model/CqlType$Kind"), accessFlags := 16409, slot := 14, constantValue := 0 }, { name := "TIMESTAMP", type := (.object "com/example/llave/llave/model/CqlType$Kind"), accessFlags := 16409, slot := 15, constantValue := 0 }, { name := "DATE", type := (.object "com/example/llave/llave/model/CqlType$Kind"), accessFlags := 16409, slot := 16, constantValue := 0 }, { name := "TIME", type := (.object "com/example/llave/llave/model/CqlType$Kind"), accessFlags := 16409, slot := 17, constantValue := 0 }, { name := "LIST", type := (.object "com/example/llave/llave/model/CqlType$Kind"), accessFlags := 16409, slot := 18, constantValue := 0 }, { name := "SET", type := (.object "com/example/llave/llave/model/CqlType$Kind"), accessFlags := 16409, slot := 19, constantValue := 0 }, { name := "MAP", type := (.object "com/example/llave/llave/model/CqlType$Kind"), accessFlags := 16409, slot := 20, constantValue := 0 }, { name := "USER", type := (.object "com/example/llave/llave/model/CqlType$Kind"), accessFlags := 16409, slot := 21, constantValue := 0 }, { name := "protocolId", type := .int, accessFlags := 18, slot := 3, constantValue := 0 }, { name := "parameterCount", type := .int, accessFlags := 18, slot := 4, constantValue := 0 }, { name := "quotedLiteral", type := .boolean, accessFlags := 18, slot := 5, constantValue := 0 }, { name := "names", type := (.object "java/util/List"), accessFlags := 18, slot := 6, constantValue := 0 }, { name := "$VALUES", type := (.array (.object "com/example/llave/llave/model/CqlType$Kind")), accessFlags := 4122, slot := 22, constantValue := 0 }]
  methods := #[k6m0]
  instanceTypes := #[(.object "java/lang/String"), .int, .int, .int, .int, .boolean, (.object "java/util/List")]
  staticTypes := #[(.object "com/example/llave/llave/model/CqlType$Kind"), (.object "com/example/llave/llave/model/CqlType$Kind"), (.object "com/example/llave/llave/model/CqlType$Kind"), (.object "com/example/llave/llave/model/CqlType$Kind"), (.object "com/example/llave/llave/model/CqlType$Kind"), (.object "com/example/llave/llave/model/CqlType$Kind"), (.object "com/example/llave/llave/model/CqlType$Kind"), (.object "com/example/llave/llave/model/CqlType$Kind"), (.object "com/example/llave/llave/model/CqlType$Kind"), (.object "com/example/llave/llave/model/CqlType$Kind"), (.object "com/example/llave/llave/model/CqlType$Kind"), (.object "com/example/llave/llave/model/CqlType$Kind"), (.object "com/example/llave/llave/model/CqlType$Kind"), (.object "com/example/llave/llave/model/CqlType$Kind"), (.object "com/example/llave/llave/model/CqlType$Kind"), (.object "com/example/llave/llave/model/CqlType$Kind"), (.object "com/example/llave/llave/model/CqlType$Kind"), (.object "com/example/llave/llave/model/CqlType$Kind"), (.object "com/example/llave/llave/model/CqlType$Kind"), (.object "com/example/llave/llave/model/CqlType$Kind"), (.object "com/example/llave/llave/model/CqlType$Kind"), (.object "com/example/llave/llave/model/CqlType$Kind"), (.array (.object "com/example/llave/llave/model/CqlType$Kind"))]
  resolved := Array.replicate 359 none
  statics := some 0 }

def pool7 : Array CpInfo := pool [(2, .class_ 4), (1, u "com/example/llave/llave/model/CqlType$Kind"), (21, .class_ 28), (1, u "com/example/llave/llave/model/CqlType"), (22, .class_ 52), (0, u "com/example/llave/llave/model/CqlType$Kind$1")] 17

/-- com/example/llave/llave/model/CqlType$Kind$1 -/
def k7 : Class := { plain "com/example/llave/llave/model/CqlType$Kind$1" (some 6) with
  accessFlags := 16432
  interfaces := #[]
  cf := some (fileOf pool7 51 #[.nestHost 26] #[] 16432 2 #[] #[])
  fields := #[]
  methods := #[]
  instanceTypes := #[(.object "java/lang/String"), .int, .int, .int, .int, .boolean, (.object "java/util/List")]
  staticTypes := #[]
  resolved := Array.replicate 70 none
  statics := none }

def pool8 : Array CpInfo := pool [(2, .class_ 4), (1, u "com/example/llave/llave/model/CqlType$Kind"), (3, .class_ 10), (1, u "com/example/llave/llave/model/CqlType"), (62, .class_ 74), (0, u "com/example/llave/llave/model/CqlType$Kind$15")] 34

/-- com/example/llave/llave/model/CqlType$Kind$15 -/
def k8 : Class := { plain "com/example/llave/llave/model/CqlType$Kind$15" (some 6) with
  accessFlags := 16432
  interfaces := #[]
  cf := some (fileOf pool8 73 #[.nestHost 8] #[] 16432 2 #[] #[])
  fields := #[]
  methods := #[]
  instanceTypes := #[(.object "java/lang/String"), .int, .int, .int, .int, .boolean, (.object "java/util/List")]
  staticTypes := #[]
  resolved := Array.replicate 109 none
  statics := none }

def pool9 : Array CpInfo := pool [(2, .class_ 4), (1, u "com/example/llave/llave/model/CqlType$Kind"), (7, .class_ 14), (1, u "com/example/llave/llave/model/CqlType"), (2, .class_ 18), (0, u "com/example/llave/llave/model/CqlType$Kind$21")] 11

/-- com/example/llave/llave/model/CqlType$Kind$21 -/
def k9 : Class := { plain "com/example/llave/llave/model/CqlType$Kind$21" (some 6) with
  accessFlags := 16432
  interfaces := #[]
  cf := some (fileOf pool9 17 #[.nestHost 12] #[] 16432 2 #[] #[])
  fields := #[]
  methods := #[]
  instanceTypes := #[(.object "java/lang/String"), .int, .int, .int, .int, .boolean, (.object "java/util/List")]
  staticTypes := #[]
  resolved := Array.replicate 30 none
  statics := none }

def pool10 : Array CpInfo := pool [(2, .class_ 4), (1, u "com/example/llave/llave/model/CqlType$Kind"), (34, .class_ 40), (0, u "com/example/llave/llave/model/CqlType$Kind$6"), (15, .class_ 57), (0, u "com/example/llave/llave/model/CqlType")] 2

/-- com/example/llave/llave/model/CqlType$Kind$6 -/
def k10 : Class := { plain "com/example/llave/llave/model/CqlType$Kind$6" (some 6) with
  accessFlags := 16432
  interfaces := #[]
  cf := some (fileOf pool10 39 #[.nestHost 56] #[] 16432 2 #[] #[])
  fields := #[]
  methods := #[]
  instanceTypes := #[(.object "java/lang/String"), .int, .int, .int, .int, .boolean, (.object "java/util/List")]
  staticTypes := #[]
  resolved := Array.replicate 60 none
  statics := none }

def pool11 : Array CpInfo := pool [(2, .class_ 4), (1, u "com/example/llave/llave/model/CqlType$Kind"), (3, .class_ 10), (1, u "com/example/llave/llave/model/CqlType"), (51, .class_ 63), (0, u "com/example/llave/llave/model/CqlType$Kind$7")] 32

/-- com/example/llave/llave/model/CqlType$Kind$7 -/
def k11 : Class := { plain "com/example/llave/llave/model/CqlType$Kind$7" (some 6) with
  accessFlags := 16432
  interfaces := #[]
  cf := some (fileOf pool11 62 #[.nestHost 8] #[] 16432 2 #[] #[])
  fields := #[]
  methods := #[]
  instanceTypes := #[(.object "java/lang/String"), .int, .int, .int, .int, .boolean, (.object "java/util/List")]
  staticTypes := #[]
  resolved := Array.replicate 96 none
  statics := none }

def pool12 : Array CpInfo := pool [(2, .class_ 4), (1, u "com/example/llave/llave/model/CqlType$Kind"), (3, .class_ 10), (1, u "com/example/llave/llave/model/CqlType"), (48, .class_ 60), (0, u "com/example/llave/llave/model/CqlType$Kind$9")] 31

/-- com/example/llave/llave/model/CqlType$Kind$9 -/
def k12 : Class := { plain "com/example/llave/llave/model/CqlType$Kind$9" (some 6) with
  accessFlags := 16432
  interfaces := #[]
  cf := some (fileOf pool12 59 #[.nestHost 8] #[] 16432 2 #[] #[])
  fields := #[]
  methods := #[]
  instanceTypes := #[(.object "java/lang/String"), .int, .int, .int, .int, .boolean, (.object "java/util/List")]
  staticTypes := #[]
  resolved := Array.replicate 92 none
  statics := none }

def pool13 : Array CpInfo := pool [(2, .class_ 4), (1, u "com/example/llave/llave/model/CqlType$Kind"), (3, .class_ 10), (1, u "com/example/llave/llave/model/CqlType"), (3, .class_ 16), (1, u "com/example/llave/llave/model/CqlType$Kind$13")] 70

/-- com/example/llave/llave/model/CqlType$Kind$13 -/
def k13 : Class := { plain "com/example/llave/llave/model/CqlType$Kind$13" (some 6) with
  accessFlags := 16432
  interfaces := #[]
  cf := some (fileOf pool13 14 #[.nestHost 8] #[] 16432 2 #[] #[])
  fields := #[]
  methods := #[]
  instanceTypes := #[(.object "java/lang/String"), .int, .int, .int, .int, .boolean, (.object "java/util/List")]
  staticTypes := #[]
  resolved := Array.replicate 87 none
  statics := none }

def pool14 : Array CpInfo := pool [(2, .class_ 4), (1, u "com/example/llave/llave/model/CqlType$Kind"), (11, .class_ 18), (1, u "com/example/llave/llave/model/CqlType"), (22, .class_ 42), (0, u "com/example/llave/llave/model/CqlType$Kind$10")] 17

/-- com/example/llave/llave/model/CqlType$Kind$10 -/
def k14 : Class := { plain "com/example/llave/llave/model/CqlType$Kind$10" (some 6) with
  accessFlags := 16432
  interfaces := #[]
  cf := some (fileOf pool14 41 #[.nestHost 16] #[] 16432 2 #[] #[])
  fields := #[]
  methods := #[]
  instanceTypes := #[(.object "java/lang/String"), .int, .int, .int, .int, .boolean, (.object "java/util/List")]
  staticTypes := #[]
  resolved := Array.replicate 60 none
  statics := none }

def pool15 : Array CpInfo := pool [(2, .class_ 4), (1, u "com/example/llave/llave/model/CqlType$Kind"), (34, .class_ 40), (0, u "com/example/llave/llave/model/CqlType$Kind$4"), (15, .class_ 57), (0, u "com/example/llave/llave/model/CqlType")] 2

/-- com/example/llave/llave/model/CqlType$Kind$4 -/
def k15 : Class := { plain "com/example/llave/llave/model/CqlType$Kind$4" (some 6) with
  accessFlags := 16432
  interfaces := #[]
  cf := some (fileOf pool15 39 #[.nestHost 56] #[] 16432 2 #[] #[])
  fields := #[]
  methods := #[]
  instanceTypes := #[(.object "java/lang/String"), .int, .int, .int, .int, .boolean, (.object "java/util/List")]
  staticTypes := #[]
  resolved := Array.replicate 60 none
  statics := none }

def pool16 : Array CpInfo := pool [(2, .class_ 4), (1, u "com/example/llave/llave/model/CqlType$Kind"), (3, .class_ 10), (1, u "com/example/llave/llave/model/CqlType"), (73, .class_ 85), (0, u "com/example/llave/llave/model/CqlType$Kind$14")] 37

/-- com/example/llave/llave/model/CqlType$Kind$14 -/
def k16 : Class := { plain "com/example/llave/llave/model/CqlType$Kind$14" (some 6) with
  accessFlags := 16432
  interfaces := #[]
  cf := some (fileOf pool16 84 #[.nestHost 8] #[] 16432 2 #[] #[])
  fields := #[]
  methods := #[]
  instanceTypes := #[(.object "java/lang/String"), .int, .int, .int, .int, .boolean, (.object "java/util/List")]
  staticTypes := #[]
  resolved := Array.replicate 123 none
  statics := none }

def pool17 : Array CpInfo := pool [(2, .class_ 4), (1, u "com/example/llave/llave/model/CqlType$Kind"), (3, .class_ 10), (1, u "com/example/llave/llave/model/CqlType"), (27, .class_ 39), (0, u "com/example/llave/llave/model/CqlType$Kind$12")] 18

/-- com/example/llave/llave/model/CqlType$Kind$12 -/
def k17 : Class := { plain "com/example/llave/llave/model/CqlType$Kind$12" (some 6) with
  accessFlags := 16432
  interfaces := #[]
  cf := some (fileOf pool17 38 #[.nestHost 8] #[] 16432 2 #[] #[])
  fields := #[]
  methods := #[]
  instanceTypes := #[(.object "java/lang/String"), .int, .int, .int, .int, .boolean, (.object "java/util/List")]
  staticTypes := #[]
  resolved := Array.replicate 58 none
  statics := none }

def pool18 : Array CpInfo := pool [(2, .class_ 4), (1, u "com/example/llave/llave/model/CqlType$Kind"), (40, .class_ 47), (1, u "com/example/llave/llave/model/CqlType"), (20, .class_ 69), (0, u "com/example/llave/llave/model/CqlType$Kind$2")] 18

/-- com/example/llave/llave/model/CqlType$Kind$2 -/
def k18 : Class := { plain "com/example/llave/llave/model/CqlType$Kind$2" (some 6) with
  accessFlags := 16432
  interfaces := #[]
  cf := some (fileOf pool18 68 #[.nestHost 45] #[] 16432 2 #[] #[])
  fields := #[]
  methods := #[]
  instanceTypes := #[(.object "java/lang/String"), .int, .int, .int, .int, .boolean, (.object "java/util/List")]
  staticTypes := #[]
  resolved := Array.replicate 88 none
  statics := none }

def pool19 : Array CpInfo := pool [(2, .class_ 4), (1, u "com/example/llave/llave/model/CqlType$Kind"), (34, .class_ 40), (0, u "com/example/llave/llave/model/CqlType$Kind$3"), (15, .class_ 57), (0, u "com/example/llave/llave/model/CqlType")] 2

/-- com/example/llave/llave/model/CqlType$Kind$3 -/
def k19 : Class := { plain "com/example/llave/llave/model/CqlType$Kind$3" (some 6) with
  accessFlags := 16432
  interfaces := #[]
  cf := some (fileOf pool19 39 #[.nestHost 56] #[] 16432 2 #[] #[])
  fields := #[]
  methods := #[]
  instanceTypes := #[(.object "java/lang/String"), .int, .int, .int, .int, .boolean, (.object "java/util/List")]
  staticTypes := #[]
  resolved := Array.replicate 60 none
  statics := none }

def pool20 : Array CpInfo := pool [(2, .class_ 4), (1, u "com/example/llave/llave/model/CqlType$Kind"), (36, .class_ 42), (0, u "com/example/llave/llave/model/CqlType$Kind$17"), (16, .class_ 60), (0, u "com/example/llave/llave/model/CqlType")] 2

/-- com/example/llave/llave/model/CqlType$Kind$17 -/
def k20 : Class := { plain "com/example/llave/llave/model/CqlType$Kind$17" (some 6) with
  accessFlags := 16432
  interfaces := #[]
  cf := some (fileOf pool20 41 #[.nestHost 59] #[] 16432 2 #[] #[])
  fields := #[]
  methods := #[]
  instanceTypes := #[(.object "java/lang/String"), .int, .int, .int, .int, .boolean, (.object "java/util/List")]
  staticTypes := #[]
  resolved := Array.replicate 63 none
  statics := none }

def pool21 : Array CpInfo := pool [(2, .class_ 4), (1, u "com/example/llave/llave/model/CqlType$Kind"), (45, .class_ 51), (0, u "com/example/llave/llave/model/CqlType$Kind$11"), (6, .class_ 59), (0, u "com/example/llave/llave/model/CqlType")] 27

/-- com/example/llave/llave/model/CqlType$Kind$11 -/
def k21 : Class := { plain "com/example/llave/llave/model/CqlType$Kind$11" (some 6) with
  accessFlags := 16432
  interfaces := #[]
  cf := some (fileOf pool21 50 #[.nestHost 58] #[] 16432 2 #[] #[])
  fields := #[]
  methods := #[]
  instanceTypes := #[(.object "java/lang/String"), .int, .int, .int, .int, .boolean, (.object "java/util/List")]
  staticTypes := #[]
  resolved := Array.replicate 87 none
  statics := none }

def pool22 : Array CpInfo := pool [(2, .class_ 4), (1, u "com/example/llave/llave/model/CqlType$Kind"), (3, .class_ 10), (1, u "com/example/llave/llave/model/CqlType"), (61, .class_ 73), (0, u "com/example/llave/llave/model/CqlType$Kind$22")] 28

/-- com/example/llave/llave/model/CqlType$Kind$22 -/
def k22 : Class := { plain "com/example/llave/llave/model/CqlType$Kind$22" (some 6) with
  accessFlags := 16432
  interfaces := #[]
  cf := some (fileOf pool22 72 #[.nestHost 8] #[] 16432 2 #[] #[])
  fields := #[]
  methods := #[]
  instanceTypes := #[(.object "java/lang/String"), .int, .int, .int, .int, .boolean, (.object "java/util/List")]
  staticTypes := #[]
  resolved := Array.replicate 102 none
  statics := none }

def pool23 : Array CpInfo := pool [(2, .class_ 4), (1, u "com/example/llave/llave/model/CqlType$Kind"), (7, .class_ 14), (1, u "com/example/llave/llave/model/CqlType"), (2, .class_ 18), (0, u "com/example/llave/llave/model/CqlType$Kind$19")] 11

/-- com/example/llave/llave/model/CqlType$Kind$19 -/
def k23 : Class := { plain "com/example/llave/llave/model/CqlType$Kind$19" (some 6) with
  accessFlags := 16432
  interfaces := #[]
  cf := some (fileOf pool23 17 #[.nestHost 12] #[] 16432 2 #[] #[])
  fields := #[]
  methods := #[]
  instanceTypes := #[(.object "java/lang/String"), .int, .int, .int, .int, .boolean, (.object "java/util/List")]
  staticTypes := #[]
  resolved := Array.replicate 30 none
  statics := none }

def pool24 : Array CpInfo := pool [(2, .class_ 4), (1, u "com/example/llave/llave/model/CqlType$Kind"), (3, .class_ 10), (1, u "com/example/llave/llave/model/CqlType"), (71, .class_ 83), (0, u "com/example/llave/llave/model/CqlType$Kind$8")] 32

/-- com/example/llave/llave/model/CqlType$Kind$8 -/
def k24 : Class := { plain "com/example/llave/llave/model/CqlType$Kind$8" (some 6) with
  accessFlags := 16432
  interfaces := #[]
  cf := some (fileOf pool24 82 #[.nestHost 8] #[] 16432 2 #[] #[])
  fields := #[]
  methods := #[]
  instanceTypes := #[(.object "java/lang/String"), .int, .int, .int, .int, .boolean, (.object "java/util/List")]
  staticTypes := #[]
  resolved := Array.replicate 116 none
  statics := none }

def pool25 : Array CpInfo := pool [(2, .class_ 4), (1, u "com/example/llave/llave/model/CqlType$Kind"), (34, .class_ 40), (0, u "com/example/llave/llave/model/CqlType$Kind$5"), (15, .class_ 57), (0, u "com/example/llave/llave/model/CqlType")] 2

/-- com/example/llave/llave/model/CqlType$Kind$5 -/
def k25 : Class := { plain "com/example/llave/llave/model/CqlType$Kind$5" (some 6) with
  accessFlags := 16432
  interfaces := #[]
  cf := some (fileOf pool25 39 #[.nestHost 56] #[] 16432 2 #[] #[])
  fields := #[]
  methods := #[]
  instanceTypes := #[(.object "java/lang/String"), .int, .int, .int, .int, .boolean, (.object "java/util/List")]
  staticTypes := #[]
  resolved := Array.replicate 60 none
  statics := none }

def pool26 : Array CpInfo := pool [(2, .class_ 4), (1, u "com/example/llave/llave/model/CqlType$Kind"), (7, .class_ 14), (1, u "com/example/llave/llave/model/CqlType"), (2, .class_ 18), (0, u "com/example/llave/llave/model/CqlType$Kind$20")] 11

/-- com/example/llave/llave/model/CqlType$Kind$20 -/
def k26 : Class := { plain "com/example/llave/llave/model/CqlType$Kind$20" (some 6) with
  accessFlags := 16432
  interfaces := #[]
  cf := some (fileOf pool26 17 #[.nestHost 12] #[] 16432 2 #[] #[])
  fields := #[]
  methods := #[]
  instanceTypes := #[(.object "java/lang/String"), .int, .int, .int, .int, .boolean, (.object "java/util/List")]
  staticTypes := #[]
  resolved := Array.replicate 30 none
  statics := none }

def pool27 : Array CpInfo := pool [(2, .class_ 4), (1, u "com/example/llave/llave/model/CqlType$Kind"), (3, .class_ 10), (1, u "com/example/llave/llave/model/CqlType"), (51, .class_ 63), (0, u "com/example/llave/llave/model/CqlType$Kind$16"), (3, u "takesLiteral"), (0, u "(Z)Z")] 14

def k27c0 : Code := { maxStack := 1, maxLocals := 2, code := prog_87_method_2_code, exceptionTable := #[], attributes := #[] }
def k27m0 : Method := { name := "takesLiteral", desc := "(Z)Z", sig := { parameters := [.boolean], returnType := some .boolean }, accessFlags := 0, code := some k27c0 }
/-- com/example/llave/llave/model/CqlType$Kind$16 -/
def k27 : Class := { plain "com/example/llave/llave/model/CqlType$Kind$16" (some 6) with
  accessFlags := 16432
  interfaces := #[]
  cf := some (fileOf pool27 62 #[.nestHost 8] #[{ accessFlags := 0, nameIndex := 67, descriptorIndex := 68, attributes := #[] }] 16432 2 #[] #[])
  fields := #[]
  methods := #[k27m0]
  instanceTypes := #[(.object "java/lang/String"), .int, .int, .int, .int, .boolean, (.object "java/util/List")]
  staticTypes := #[]
  resolved := Array.replicate 83 none
  statics := none }

def pool28 : Array CpInfo := pool [(2, .class_ 4), (1, u "com/example/llave/llave/model/CqlType$Kind"), (43, .class_ 49), (0, u "com/example/llave/llave/model/CqlType$Kind$18"), (15, .class_ 66), (0, u "com/example/llave/llave/model/CqlType")] 2

/-- com/example/llave/llave/model/CqlType$Kind$18 -/
def k28 : Class := { plain "com/example/llave/llave/model/CqlType$Kind$18" (some 6) with
  accessFlags := 16432
  interfaces := #[]
  cf := some (fileOf pool28 48 #[.nestHost 65] #[] 16432 2 #[] #[])
  fields := #[]
  methods := #[]
  instanceTypes := #[(.object "java/lang/String"), .int, .int, .int, .int, .boolean, (.object "java/util/List")]
  staticTypes := #[]
  resolved := Array.replicate 69 none
  statics := none }

def pool29 : Array CpInfo := pool [(1, u "java/lang/Cloneable"), (0, .class_ 1), (0, u "java/lang/Object"), (0, .class_ 3)] 3

/-- java/lang/Cloneable -/
def k29 : Class := { plain "java/lang/Cloneable" (some 0) with
  accessFlags := 1537
  interfaces := #[]
  cf := some (fileOf pool29 2 #[] #[] 1537 4 #[] #[])
  fields := #[]
  methods := #[]
  instanceTypes := #[]
  staticTypes := #[]
  resolved := Array.replicate 8 none
  statics := none }

/-- the primitive byte -/
def k30 : Class := { plain "byte" none with kind := .primitive 'B', accessFlags := 0x411 }
/-- [B -/
def k31 : Class := { plain "[B" (some 0) with kind := .array 30 .byte, interfaces := #[29, 4], accessFlags := 1041 }

/-- the primitive int -/
def k32 : Class := { plain "int" none with kind := .primitive 'I', accessFlags := 0x411 }
/-- [I -/
def k33 : Class := { plain "[I" (some 0) with kind := .array 32 .int, interfaces := #[29, 4], accessFlags := 1041 }

def heap : Heap := #[{ cls := 6, slots := #[.ref 1, .ref 2, .ref 3, .ref 4, .ref 5, .ref 6, .ref 7, .ref 8, .ref 9, .ref 10, .ref 11, .ref 12, .ref 13, .ref 14, .ref 15, .ref 16, .ref 17, .ref 18, .ref 19, .ref 20, .ref 21, .ref 22, .null], vm := .statics 6 },
  { cls := 7, slots := #[.null, .int 0, .int 0, .int 0, .int 0, .int 1, .null], vm := .none },
  { cls := 18, slots := #[.null, .int 1, .int 0, .int 0, .int 0, .int 1, .null], vm := .none },
  { cls := 19, slots := #[.null, .int 2, .int 0, .int 0, .int 0, .int 0, .null], vm := .none },
  { cls := 15, slots := #[.null, .int 3, .int 0, .int 0, .int 0, .int 0, .null], vm := .none },
  { cls := 25, slots := #[.null, .int 4, .int 0, .int 0, .int 0, .int 0, .null], vm := .none },
  { cls := 10, slots := #[.null, .int 5, .int 0, .int 0, .int 0, .int 0, .null], vm := .none },
  { cls := 11, slots := #[.null, .int 6, .int 0, .int 0, .int 0, .int 0, .null], vm := .none },
  { cls := 24, slots := #[.null, .int 7, .int 0, .int 0, .int 0, .int 0, .null], vm := .none },
  { cls := 12, slots := #[.null, .int 8, .int 0, .int 0, .int 0, .int 0, .null], vm := .none },
  { cls := 14, slots := #[.null, .int 9, .int 0, .int 0, .int 0, .int 0, .null], vm := .none },
  { cls := 21, slots := #[.null, .int 10, .int 0, .int 0, .int 0, .int 0, .null], vm := .none },
  { cls := 17, slots := #[.null, .int 11, .int 0, .int 0, .int 0, .int 0, .null], vm := .none },
  { cls := 13, slots := #[.null, .int 12, .int 0, .int 0, .int 0, .int 0, .null], vm := .none },
  { cls := 16, slots := #[.null, .int 13, .int 0, .int 0, .int 0, .int 1, .null], vm := .none },
  { cls := 8, slots := #[.null, .int 14, .int 0, .int 0, .int 0, .int 0, .null], vm := .none },
  { cls := 27, slots := #[.null, .int 15, .int 0, .int 0, .int 0, .int 1, .null], vm := .none },
  { cls := 20, slots := #[.null, .int 16, .int 0, .int 0, .int 0, .int 1, .null], vm := .none },
  { cls := 28, slots := #[.null, .int 17, .int 0, .int 0, .int 0, .int 1, .null], vm := .none },
  { cls := 23, slots := #[.null, .int 18, .int 0, .int 0, .int 0, .int 0, .null], vm := .none },
  { cls := 26, slots := #[.null, .int 19, .int 0, .int 0, .int 0, .int 0, .null], vm := .none },
  { cls := 9, slots := #[.null, .int 20, .int 0, .int 0, .int 0, .int 0, .null], vm := .none },
  { cls := 22, slots := #[.null, .int 21, .int 0, .int 0, .int 0, .int 0, .null], vm := .none }]
def classes : Array Class := #[k0, k1, k2, k3, k4, k5, k6, k7, k8, k9, k10, k11, k12, k13, k14, k15, k16, k17, k18, k19, k20, k21, k22, k23, k24, k25, k26, k27, k28, k29, k30, k31, k32, k33]
def interned : List (Array UInt16 × Addr) := []
def slotsUsed : Nat := 177
def theMethod : MethodId := ⟨1, 2⟩
def args0 : Array Value := #[.int 5, .int 1]
def aboutOver (below : List Frame) : State where
  vm := { classes := classes, interned := interned.toArray }
  heap := heap
  slotsUsed := slotsUsed
  threads := #[{ frames := .invoking theMethod args0 :: below }]
def below0 : List Frame := [.native { method := ⟨0, 0⟩, args := #[] }]
def about1 : State := aboutOver below0
def p0 : Program := .bare "" "" ""
def e0 : Env := launch0.env 0 0 0
theorem w_frames : about1.frames = Frame.invoking theMethod args0 :: below0 := rfl
set_option maxRecDepth 65536 in
theorem w_args : argsFit about1.vm theMethod args0 = true := by decide +kernel
set_option maxRecDepth 65536 in
theorem w_heap : heapFits about1 = true := by decide +kernel
set_option maxRecDepth 65536 in
theorem w_runnable : about1.curStatus? = some .runnable := by decide +kernel
set_option maxRecDepth 65536 in
theorem w_alone : about1.alone = true := by decide +kernel
set_option maxRecDepth 65536 in
theorem w_named : about1.methodNamed? x = some theMethod := by decide +kernel
set_option maxRecDepth 65536 in
theorem w_hears : about1.hears theMethod below0 = true := by decide +kernel
set_option maxRecDepth 65536 in
theorem w_ripe : about1.ripe theMethod args0 below0 = true := by decide +kernel
theorem w_running : about1.status = .running := rfl
set_option maxRecDepth 65536 in
theorem w_room : about1.hasRoom e0.platform room_1 = true :=
  launch0.hasRoom_least _ room_1 (by decide +kernel) (by decide +kernel) (by decide +kernel) (by decide +kernel) (by decide +kernel) (by decide +kernel)
theorem allAtoms_all (ts : List Jvm.Cond) (a : Array Jvm.Value) (st : Jvm.State) : (allAtoms ts).before a st = ts.all (fun c => c.before a st) := by
  induction ts with
  | nil => rfl
  | cons c t ih =>
    show (Jvm.Cond.and c (allAtoms t)).before a st = _
    rw [Jvm.Cond.before_and, ih, List.all_cons]
def words1 : List Jvm.Cond := Jvm.Cond.code x code maxLocals ret :: tables_1
/-- a 'code' word, met by the world's own term for the bytes: nothing is compared byte by byte -/
theorem code_word {y : MethodName} {bytes : ByteArray} {mx : Nat} {rt : Option FieldType} {a : Array Value} {s : State} {m : MethodId} {meth : Method} {c : Code} (h1 : s.methodNamed? y = some m) (h2 : s.vm.method? m = some meth) (h3 : meth.code = some c) (h4 : c.code = bytes)
    (h5 : (c.maxLocals == mx && c.exceptionTable.isEmpty && decide (c.maxStack ≤ mostOperands) && decide (meth.sig.returnType = rt) && !meth.locks && decide (parseMethodDescriptor y.desc = some meth.sig)) = true) : (Jvm.Cond.code y bytes mx rt).before a s = true := by
  simp only [Bool.and_eq_true, beq_iff_eq, Bool.not_eq_true', decide_eq_true_eq] at h5
  obtain ⟨⟨⟨⟨⟨g1, g2⟩, g3⟩, g4⟩, g5⟩, g6⟩ := h5
  simp [Cond.before, Cond.holds, Cond.value, h1, h2, h3, h4, g1, g2, g3, g4, g5, g6]
def isCode : Jvm.Cond → Bool
  | .code _ _ _ _ => true
  | _ => false
theorem all_split {L : List Jvm.Cond} {P : Jvm.Cond → Bool} (h1 : L.all (fun c => isCode c || P c) = true) (h2 : ∀ c ∈ L.filter isCode, P c = true) : L.all P = true := by
  refine List.all_eq_true.mpr fun c hc => ?_
  have h := List.all_eq_true.mp h1 c hc
  rcases Bool.eq_false_or_eq_true (isCode c) with hi | hi
  · exact h2 c (List.mem_filter.mpr ⟨hc, hi⟩)
  · simpa [hi] using h
set_option maxRecDepth 65536 in
theorem w_c0 : (Jvm.Cond.code x code maxLocals ret).before args0 about1 = true := code_word (m := ⟨1, 2⟩) (meth := k1m2) (c := k1c2) (by decide +kernel) rfl rfl rfl (by decide +kernel)
set_option maxRecDepth 65536 in
theorem w_c1 : (Jvm.Cond.code ({ cls := "com/example/llave/llave/model/CqlTypeTakesLiteralPinLaw", name := "kindAt", desc := "(I)Lcom/example/llave/llave/model/CqlType$Kind;" } : Jvm.MethodName) method_2_code (1 : Nat) (Option.some (Jvm.ClassFile.FieldType.object "com/example/llave/llave/model/CqlType$Kind"))).before args0 about1 = true := code_word (m := ⟨1, 1⟩) (meth := k1m1) (c := k1c1) (by decide +kernel) rfl rfl rfl (by decide +kernel)
set_option maxRecDepth 65536 in
theorem w_c2 : (Jvm.Cond.code ({ cls := "com/example/llave/llave/model/CqlType$Kind", name := "takesLiteral", desc := "(Z)Z" } : Jvm.MethodName) prog_79_method_6_code (2 : Nat) (Option.some Jvm.ClassFile.FieldType.boolean)).before args0 about1 = true := code_word (m := ⟨6, 0⟩) (meth := k6m0) (c := k6c0) (by decide +kernel) rfl rfl rfl (by decide +kernel)
set_option maxRecDepth 65536 in
theorem w_c3 : (Jvm.Cond.code ({ cls := "com/example/llave/llave/model/CqlType$Kind$16", name := "takesLiteral", desc := "(Z)Z" } : Jvm.MethodName) prog_87_method_2_code (2 : Nat) (Option.some Jvm.ClassFile.FieldType.boolean)).before args0 about1 = true := code_word (m := ⟨27, 0⟩) (meth := k27m0) (c := k27c0) (by decide +kernel) rfl rfl rfl (by decide +kernel)
def codes1 : List Jvm.Cond := [Jvm.Cond.code x code maxLocals ret, Jvm.Cond.code ({ cls := "com/example/llave/llave/model/CqlTypeTakesLiteralPinLaw", name := "kindAt", desc := "(I)Lcom/example/llave/llave/model/CqlType$Kind;" } : Jvm.MethodName) method_2_code (1 : Nat) (Option.some (Jvm.ClassFile.FieldType.object "com/example/llave/llave/model/CqlType$Kind")), Jvm.Cond.code ({ cls := "com/example/llave/llave/model/CqlType$Kind", name := "takesLiteral", desc := "(Z)Z" } : Jvm.MethodName) prog_79_method_6_code (2 : Nat) (Option.some Jvm.ClassFile.FieldType.boolean), Jvm.Cond.code ({ cls := "com/example/llave/llave/model/CqlType$Kind$16", name := "takesLiteral", desc := "(Z)Z" } : Jvm.MethodName) prog_87_method_2_code (2 : Nat) (Option.some Jvm.ClassFile.FieldType.boolean)]
set_option maxRecDepth 65536 in
theorem codes_eq : words1.filter isCode = codes1 := rfl
theorem w_codes : ∀ c ∈ words1.filter isCode, c.before args0 about1 = true := by
  rw [codes_eq]
  intro c hc
  simp only [codes1, List.mem_cons, List.not_mem_nil, or_false] at hc
  rcases hc with rfl | rfl | rfl | rfl
  · exact w_c0
  · exact w_c1
  · exact w_c2
  · exact w_c3
set_option maxRecDepth 65536 in
theorem w_t1 : (words1.take 24).all (fun c => isCode c || c.before args0 about1) = true := by decide +kernel
set_option maxRecDepth 65536 in
theorem w_t2 : ((words1.drop 24).take 24).all (fun c => isCode c || c.before args0 about1) = true := by decide +kernel
set_option maxRecDepth 65536 in
theorem w_t3 : (((words1.drop 24).drop 24).take 24).all (fun c => isCode c || c.before args0 about1) = true := by decide +kernel
set_option maxRecDepth 65536 in
theorem w_t4 : ((((words1.drop 24).drop 24).drop 24).take 24).all (fun c => isCode c || c.before args0 about1) = true := by decide +kernel
set_option maxRecDepth 65536 in
theorem w_t5 : ((((words1.drop 24).drop 24).drop 24).drop 24).all (fun c => isCode c || c.before args0 about1) = true := by decide +kernel
theorem w_tables : (allAtoms (Jvm.Cond.code x code maxLocals ret :: tables_1)).before args0 about1 = true := by
  rw [allAtoms_all]
  show words1.all (fun c => c.before args0 about1) = true
  refine all_split ?_ w_codes
  rw [← List.take_append_drop 24 words1, List.all_append, w_t1, ← List.take_append_drop 24 (words1.drop 24), List.all_append, w_t2, ← List.take_append_drop 24 ((words1.drop 24).drop 24), List.all_append, w_t3, ← List.take_append_drop 24 (((words1.drop 24).drop 24).drop 24), List.all_append, w_t4, w_t5]
  rfl
set_option maxRecDepth 65536 in
theorem w_case : (Jvm.Cond.and given_1 narrow_1).before args0 about1 = true := by decide +kernel
theorem w_applies : (headSpec (Jvm.Cond.code x code maxLocals ret :: tables_1) room_1).applies x e0.platform about1 = true :=
  (Spec.applies_iff w_frames).mpr ⟨w_running, w_runnable, w_alone, w_named, w_hears, w_ripe, w_room, w_tables⟩
theorem atStart : AtStart classFile x code maxLocals ret World_1 tables_1 room_1 Calls_1 rest_1 Pre_1 launch0 p0 e0 about1 theMethod args0 below0 :=
  ⟨lists_1, trivial, launch0.admits_env _ _ _, launch0.least_env, fairChoices_fair.cas, fairChoices_fair.clock, w_frames, w_args, w_heap, w_applies, trivial, trivial, w_case⟩
end start1
theorem witness_1 : WitnessClaimed_1 := ⟨start1.p0, start1.e0, start1.about1, start1.theMethod, start1.args0, start1.below0, start1.atStart⟩
end Jvm.Pilot.@@N@@
