import JvmDerived
import JvmDerived.Pilot.@@N@@Statement
import JvmDerived.Pilot.@@N@@Code
set_option linter.unusedVariables false
set_option linter.unusedSimpArgs false
namespace Jvm.RoadKit
open Sem ClassFile Op Lib Jvm.Stand Jvm.Free Jvm.LawKit
section New
variable {p : Program} {l : Launch} {e : Env} {R : Room} {s : State} {m : MethodId} {args : Array Value} {below : List Frame} {meth : Method} {c : Code} {T : State} {locs : List Loc} {cells slots : Nat}
theorem retI (X : Stand p l e R s m args below meth c T locs cells slots) (hx : p.tables.exec = Jvm.exec) {pc : Nat} {Ls : Array Slot} {z : Int32} {rest : List Value} (hret : meth.sig.returnType = some .int) (hd : decode c.code pc = .ok (.ireturn, 1)) {fs : List Frame}
    (hl : ∀ (f : JFrame) (acts : List Action), f.method = m → f.locked = none → f.entered = [] → (doReturn e (T.setTop f) acts (some (.int z))).1 = T.setFrames fs) : Steps p.tables e below (T.setTop (mkF m pc Ls (.int z :: rest))) (T.setFrames fs) := by
  have hm' : T.vm.method? m = some meth := X.method'
  have hn : narrow .int (.int z) = .int z := rfl
  show Steps p.tables e below (T.setTop { method := m, pc := pc, locals := Ls, stack := _ :: rest, locked := none }) _
  jvm_step X.here [X.here.top, hx, hd, hm', hret, hn]
  first | (intro acts; rw [hl _ acts rfl rfl rfl]) | rw [hl _ _ rfl rfl rfl]
  exact Steps.refl _
end New
end Jvm.RoadKit
namespace Jvm.Pilot.@@N@@
open Jvm Jvm.ClassFile Sem Op Lib Jvm.Free Jvm.Stand Jvm.LawKit Jvm.RoadKit Bundle Jvm.Pilot.@@N@@.Jvm.D

/-! the walk's goal: from this frame the run comes to its end, and Q holds of what it returns, of the heap and of the places written -/
def Fini (p : Program) (e : Env) (below : List Frame) (s : State) (Q : Option Value → Heap → List Loc → Prop) (C S : Nat) (T : State) (g : JFrame) : Prop :=
  ∃ s₂ o, Steps p.tables e below (T.setTop g) s₂ ∧ s₂.status = .running ∧ Ended s₂ below o ∧ ∃ v L, o = .returned v ∧ Q v s₂.heap L ∧ FrameEnd s o s₂ L C S
abbrev Cmet (l : Launch) (Z : State) (y : MethodName) (bytes : ByteArray) (ml : Nat) (ret : Option FieldType) (ws : List Jvm.Cond) (rm : Room) (as : Array Value) (h0 : Heap) (Q : Option Value → Heap → List Loc → Prop) : Prop :=
  MetFree l y (head1 (Jvm.Cond.code y bytes ml ret :: ws) rm) (fun a U => a = as ∧ Z.Warmed39 U.vm ∧ U.heap = h0) (fun _ _ _ _ _ => True) (fun _ U o U' => ∃ v L, o = .returned v ∧ Q v U'.heap L ∧ FrameEnd U o U' L rm.cells rm.slots)
section Own
variable {p : Program} {l : Launch} {e : Env} {R : Room} {s : State} {m : MethodId} {args : Array Value} {below : List Frame} {meth : Method} {c : Code} {T T' : State} {locs : List Loc} {cells slots : Nat} {Q : Option Value → Heap → List Loc → Prop} {C S : Nat} {g g' : JFrame} {Z : State} {a0 : Array Value} {h : Heap}
theorem Fini.st (k : ∀ t, Steps p.tables e below (T'.setTop g') t → Steps p.tables e below (T.setTop g) t) (f : Fini p e below s Q C S T' g') : Fini p e below s Q C S T g := by
  obtain ⟨s2, o, h1, r⟩ := f
  exact ⟨s2, o, k _ h1, r⟩
theorem Fini.cast (q : g = g') (f : Fini p e below s Q C S T g') : Fini p e below s Q C S T g := q ▸ f
theorem Fini.retI (X : Stand p l e R s m args below meth c T locs cells slots) (hx : p.tables.exec = Jvm.exec) (hl : meth.locks = false) (hret : meth.sig.returnType = some .int) {pc : Nat} {Ls : Array Slot} {z : Int32} {rest : List Value} (hd : decode c.code pc = .ok (.ireturn, 1))
    (hC : cells ≤ C) (hS : slots ≤ S) (hQ : Q (some (.int z)) T.heap locs) : Fini p e below s Q C S T (mkF m pc Ls (.int z :: rest)) := by
  obtain ⟨fs, hr, hrun, hended, hW, hsame⟩ := X.leave (v := some (.int z)) (fun h => by rw [hret] at h; cases h) hl
  exact ⟨_, _, Jvm.RoadKit.retI X hx hret hd hr, hrun, hended, _, _, rfl, hQ, ⟨_, rfl⟩, hW, hsame.mono hC hS⟩
theorem Fini.retN (X : Stand p l e R s m args below meth c T locs cells slots) (hx : p.tables.exec = Jvm.exec) (hl : meth.locks = false) {t : FieldType} (hret : meth.sig.returnType = some t) (ht : t = .boolean ∨ t = .byte ∨ t = .char ∨ t = .short) {pc : Nat} {Ls : Array Slot} {z z' : Int32} {rest : List Value} (hd : decode c.code pc = .ok (.ireturn, 1))
    (hz : nar t z = z') (hC : cells ≤ C) (hS : slots ≤ S) (hQ : Q (some (.int z')) T.heap locs) : Fini p e below s Q C S T (mkF m pc Ls (.int z :: rest)) := by
  subst hz
  obtain ⟨fs, hr, hrun, hended, hW, hsame⟩ := X.leave (v := some (.int (nar t z))) (fun h => by rw [hret] at h; cases h) hl
  exact ⟨_, _, Jvm.RoadKit.retN X hx hret ht hd hr, hrun, hended, _, _, rfl, hQ, ⟨_, rfl⟩, hW, hsame.mono hC hS⟩
theorem Fini.retJ (X : Stand p l e R s m args below meth c T locs cells slots) (hx : p.tables.exec = Jvm.exec) (hl : meth.locks = false) (hret : meth.sig.returnType = some .long) {pc : Nat} {Ls : Array Slot} {z : Int64} {rest : List Value} (hd : decode c.code pc = .ok (.lreturn, 1))
    (hC : cells ≤ C) (hS : slots ≤ S) (hQ : Q (some (.long z)) T.heap locs) : Fini p e below s Q C S T (mkF m pc Ls (.long z :: rest)) := by
  obtain ⟨fs, hr, hrun, hended, hW, hsame⟩ := X.leave (v := some (.long z)) (fun h => by rw [hret] at h; cases h) hl
  exact ⟨_, _, retOut X hx hret rfl (Or.inr (Or.inl ⟨rfl, rfl, z, rfl⟩)) hd hr, hrun, hended, _, _, rfl, hQ, ⟨_, rfl⟩, hW, hsame.mono hC hS⟩
theorem Fini.retA (X : Stand p l e R s m args below meth c T locs cells slots) (hx : p.tables.exec = Jvm.exec) (hl : meth.locks = false) {t : FieldType} (hret : meth.sig.returnType = some t) (ht : t.isReference = true) {pc : Nat} {Ls : Array Slot} {w : Value} {rest : List Value} (hd : decode c.code pc = .ok (.areturn, 1)) (hw : w.isRef = true) (hn : narrow t w = w)
    (hC : cells ≤ C) (hS : slots ≤ S) (hQ : Q (some w) T.heap locs) : Fini p e below s Q C S T (mkF m pc Ls (w :: rest)) := by
  obtain ⟨fs, hr, hrun, hended, hW, hsame⟩ := X.leave (v := some w) (fun h => by rw [hret] at h; cases h) hl
  exact ⟨_, _, retOut X hx hret hn (Or.inr (Or.inr (Or.inr (Or.inr ⟨rfl, ht, hw⟩)))) hd hr, hrun, hended, _, _, rfl, hQ, ⟨_, rfl⟩, hW, hsame.mono hC hS⟩
theorem Fini.ret0 (X : Stand p l e R s m args below meth c T locs cells slots) (hx : p.tables.exec = Jvm.exec) (hl : meth.locks = false) (hret : meth.sig.returnType = none) {pc : Nat} {Ls : Array Slot} (hd : decode c.code pc = .ok (.return_, 1))
    (hC : cells ≤ C) (hS : slots ≤ S) (hQ : Q none T.heap locs) : Fini p e below s Q C S T (mkF m pc Ls []) := by
  obtain ⟨fs, hr, hrun, hended, hW, hsame⟩ := X.leave (v := none) (fun _ => rfl) hl
  exact ⟨_, _, X.returnOut hx hret hd hr, hrun, hended, _, _, rfl, hQ, ⟨_, rfl⟩, hW, hsame.mono hC hS⟩
/-- a static call by its contract -/
theorem callQ (X : Stand p l e R s m args below meth c T locs cells slots) (hx : p.tables.exec = Jvm.exec) (hZ : Z.Warmed39 s.vm) {own : String} {index : Nat} {y : MethodName} {bytes : ByteArray} {maxL : Nat} {ret : Option FieldType} {rm : Room} {as : Array Value}
    (hown : s.vm.findClass own = some m.cls) (w1 : (Cond.methodLink own index y).before a0 Z = true) (w2 : (Cond.static y).before a0 Z = true) (w3 : (Cond.initialized y.cls).before a0 Z = true) (w4 : (Cond.code y bytes maxL ret).before a0 Z = true)
    (hy : y.cls ≠ "java/lang/invoke/MethodHandle" ∧ y.cls ≠ "java/lang/invoke/VarHandle") (M : Cmet l Z y bytes maxL ret [] rm as h Q) (eT : T.heap = h) {W : Nat} (hf : rm.frames + 1 ≤ R.frames) (hl : W + (maxL + 11) + rm.locals ≤ R.locals) (hc : cells + rm.cells ≤ R.cells) (hs : slots + rm.slots ≤ R.slots)
    (hg : g.method = m) (hsize : g.locals.size = c.maxLocals) {argsL rest : List Value} (has : argsL.toArray = as) (hlen : ∀ sig, parseMethodDescriptor y.desc = some sig → argsL.length = sig.parameters.length)
    (hstack : g.stack = argsL.reverse ++ rest) (hW : 2 * g.monitorRoom + (rest.map fun v => v.category).sum ≤ W) (hdg : decode c.code g.pc = .ok (.invokestatic index, 3)) :
    ∃ (v : Option Value) (T' : State) (L : List Loc), Stand p l e R s m args below meth c T' (locs ++ L) (cells + rm.cells) (slots + rm.slots) ∧ Q v T'.heap L ∧
      ∀ target, Steps p.tables e below (T'.setTop { g with pc := g.pc + 3, stack := v.toList ++ rest }) target → Steps p.tables e below (T.setTop g) target := by
  obtain ⟨v, vm1, ⟨T', L', c', n'⟩, -, X', ⟨L, hQ, q1, q2, q3⟩, st⟩ := Jvm.LawKit.callS X hx hown (mvT hZ w1) (mvT hZ w2) (mvT hZ w3) (mvT hZ w4) hy (backOf (W := W) M hZ w4 w3 hf hl) hg hsize hlen hstack hW hdg (fun _ _ => ⟨has, eT, hc, hs⟩)
  dsimp only [Pt.U, Pt.locs, Pt.cells, Pt.slots] at X' q1 q2 q3 st hQ
  subst q1 q2 q3
  exact ⟨v, T', L, X', hQ, st⟩
/-- a static call that leaves the heap as it was -/
theorem pureS (X : Stand p l e R s m args below meth c T locs cells slots) (hx : p.tables.exec = Jvm.exec) (hZ : Z.Warmed39 s.vm) {own : String} {index : Nat} {y : MethodName} {bytes : ByteArray} {maxL : Nat} {ret : Option FieldType} {fr lo : Nat} {as : Array Value} {w : Option Value}
    (hown : s.vm.findClass own = some m.cls) (w1 : (Cond.methodLink own index y).before a0 Z = true) (w2 : (Cond.static y).before a0 Z = true) (w3 : (Cond.initialized y.cls).before a0 Z = true) (w4 : (Cond.code y bytes maxL ret).before a0 Z = true)
    (hy : y.cls ≠ "java/lang/invoke/MethodHandle" ∧ y.cls ≠ "java/lang/invoke/VarHandle") (M : Cmet l Z y bytes maxL ret [] ({ frames := fr, cells := 0, slots := 0, locals := lo } : Room) as h (fun v h' L => v = w ∧ h' = h ∧ L = [])) (eT : T.heap = h) {W : Nat} (hf : fr + 1 ≤ R.frames) (hl : W + (maxL + 11) + lo ≤ R.locals) (hc : cells ≤ R.cells) (hs : slots ≤ R.slots)
    (hg : g.method = m) (hsize : g.locals.size = c.maxLocals) {argsL rest : List Value} (has : argsL.toArray = as) (hlen : ∀ sig, parseMethodDescriptor y.desc = some sig → argsL.length = sig.parameters.length)
    (hstack : g.stack = argsL.reverse ++ rest) (hW : 2 * g.monitorRoom + (rest.map fun v => v.category).sum ≤ W) (hdg : decode c.code g.pc = .ok (.invokestatic index, 3)) :
    ∃ (T' : State), Stand p l e R s m args below meth c T' locs cells slots ∧ T'.heap = h ∧
      ∀ target, Steps p.tables e below (T'.setTop { g with pc := g.pc + 3, stack := w.toList ++ rest }) target → Steps p.tables e below (T.setTop g) target := by
  obtain ⟨v, T', L, X', ⟨rfl, q, rfl⟩, st⟩ := callQ X hx hZ hown w1 w2 w3 w4 hy M eT (W := W) hf hl hc hs hg hsize has hlen hstack hW hdg
  rw [List.append_nil] at X'
  exact ⟨T', X', q, st⟩
/-- an instance method by the contract of the body that the receiver's class selects -/
theorem callV (X : Stand p l e R s m args below meth c T locs cells slots) (hx : p.tables.exec = Jvm.exec) (hZ : Z.Warmed39 s.vm) {own C' : String} {index : Nat} {y z : MethodName} {bytes : ByteArray} {maxL : Nat} {ret : Option FieldType} {rm : Room} {as : Array Value} {b : Addr}
    (hown : s.vm.findClass own = some m.cls) (w1 : (Cond.methodLink own index y).before a0 Z = true) (w2 : (Cond.declares y).before a0 Z = true) (w3 : (Cond.selects C' y z).before a0 Z = true) (w4 : (Cond.instanceMethod z).before a0 Z = true) (w5 : (Cond.initialized z.cls).before a0 Z = true) (w6 : (Cond.code z bytes maxL ret).before a0 Z = true)
    (nf : NotFace s y) (E : Exa Z h b C') (hy : y.cls ≠ "java/lang/invoke/MethodHandle" ∧ y.cls ≠ "java/lang/invoke/VarHandle") (M : Cmet l Z z bytes maxL ret [] rm as h Q) (eT : T.heap = h) {W : Nat} (hf : rm.frames + 1 ≤ R.frames) (hl : W + (maxL + 11) + rm.locals ≤ R.locals) (hc : cells + rm.cells ≤ R.cells) (hs : slots + rm.slots ≤ R.slots)
    (hg : g.method = m) (hsize : g.locals.size = c.maxLocals) {argsL rest : List Value} (has : (Value.ref b :: argsL).toArray = as) (hlen : ∀ sig, parseMethodDescriptor y.desc = some sig → argsL.length = sig.parameters.length)
    (hstack : g.stack = argsL.reverse ++ .ref b :: rest) (hW : 2 * g.monitorRoom + (rest.map fun v => v.category).sum ≤ W) (hdg : decode c.code g.pc = .ok (.invokevirtual index, 3)) :
    ∃ (v : Option Value) (T' : State) (L : List Loc), Stand p l e R s m args below meth c T' (locs ++ L) (cells + rm.cells) (slots + rm.slots) ∧ Q v T'.heap L ∧
      ∀ target, Steps p.tables e below (T'.setTop { g with pc := g.pc + 3, stack := v.toList ++ rest }) target → Steps p.tables e below (T.setTop g) target := by
  obtain ⟨cB, kB, q1, q2, q3⟩ := isOf hZ eT E
  obtain ⟨v, vm1, ⟨T', L', c', n'⟩, -, X', ⟨L, hQ, r1, r2, r3⟩, st⟩ := X.virtualBack hx hown (mvT hZ w1) (mvT hZ w2) nf (mvT hZ w3) (mvT hZ w4) hy (backOf (W := W) M hZ w6 w5 hf hl) q1 q3 hg hsize (Steps.refl _) hlen hstack hW hdg (fun _ _ => ⟨has, eT, hc, hs⟩)
  dsimp only [Pt.U, Pt.locs, Pt.cells, Pt.slots] at X' r1 r2 r3 st hQ
  subst r1 r2 r3
  exact ⟨v, T', L, X', hQ, fun _ k => st.trans k⟩
theorem pureV (X : Stand p l e R s m args below meth c T locs cells slots) (hx : p.tables.exec = Jvm.exec) (hZ : Z.Warmed39 s.vm) {own C' : String} {index : Nat} {y z : MethodName} {bytes : ByteArray} {maxL : Nat} {ret : Option FieldType} {fr lo : Nat} {as : Array Value} {b : Addr} {w : Option Value}
    (hown : s.vm.findClass own = some m.cls) (w1 : (Cond.methodLink own index y).before a0 Z = true) (w2 : (Cond.declares y).before a0 Z = true) (w3 : (Cond.selects C' y z).before a0 Z = true) (w4 : (Cond.instanceMethod z).before a0 Z = true) (w5 : (Cond.initialized z.cls).before a0 Z = true) (w6 : (Cond.code z bytes maxL ret).before a0 Z = true)
    (nf : NotFace s y) (E : Exa Z h b C') (hy : y.cls ≠ "java/lang/invoke/MethodHandle" ∧ y.cls ≠ "java/lang/invoke/VarHandle") (M : Cmet l Z z bytes maxL ret [] ({ frames := fr, cells := 0, slots := 0, locals := lo } : Room) as h (fun v h' L => v = w ∧ h' = h ∧ L = [])) (eT : T.heap = h) {W : Nat} (hf : fr + 1 ≤ R.frames) (hl : W + (maxL + 11) + lo ≤ R.locals) (hc : cells ≤ R.cells) (hs : slots ≤ R.slots)
    (hg : g.method = m) (hsize : g.locals.size = c.maxLocals) {argsL rest : List Value} (has : (Value.ref b :: argsL).toArray = as) (hlen : ∀ sig, parseMethodDescriptor y.desc = some sig → argsL.length = sig.parameters.length)
    (hstack : g.stack = argsL.reverse ++ .ref b :: rest) (hW : 2 * g.monitorRoom + (rest.map fun v => v.category).sum ≤ W) (hdg : decode c.code g.pc = .ok (.invokevirtual index, 3)) :
    ∃ (T' : State), Stand p l e R s m args below meth c T' locs cells slots ∧ T'.heap = h ∧
      ∀ target, Steps p.tables e below (T'.setTop { g with pc := g.pc + 3, stack := w.toList ++ rest }) target → Steps p.tables e below (T.setTop g) target := by
  obtain ⟨v, T', L, X', ⟨rfl, q, rfl⟩, st⟩ := callV X hx hZ hown w1 w2 w3 w4 w5 w6 nf E hy M eT (W := W) hf hl hc hs hg hsize has hlen hstack hW hdg
  rw [List.append_nil] at X'
  exact ⟨T', X', q, st⟩
/-- a constructor by its contract -/
theorem callNew (X : Stand p l e R s m args below meth c T locs cells slots) (hx : p.tables.exec = Jvm.exec) (hZ : Z.Warmed39 s.vm) {own : String} {index : Nat} {y : MethodName} {bytes : ByteArray} {maxL : Nat} {rm : Room} {as : Array Value} {b : Addr}
    (hown : s.vm.findClass own = some m.cls) (hy1 : y.name = "<init>") (w1 : (Cond.methodLink own index y).before a0 Z = true) (w2 : (Cond.instanceMethod y).before a0 Z = true) (w3 : (Cond.initialized y.cls).before a0 Z = true) (w4 : (Cond.code y bytes maxL none).before a0 Z = true)
    (hy : y.cls ≠ "java/lang/invoke/MethodHandle" ∧ y.cls ≠ "java/lang/invoke/VarHandle") (M : Cmet l Z y bytes maxL none [] rm as h Q) (eT : T.heap = h) {W : Nat} (hf : rm.frames + 1 ≤ R.frames) (hl : W + (maxL + 11) + rm.locals ≤ R.locals) (hc : cells + rm.cells ≤ R.cells) (hs : slots + rm.slots ≤ R.slots)
    (hg : g.method = m) (hsize : g.locals.size = c.maxLocals) {argsL rest : List Value} (has : (Value.ref b :: argsL).toArray = as) (hlen : ∀ sig, parseMethodDescriptor y.desc = some sig → argsL.length = sig.parameters.length)
    (hstack : g.stack = argsL.reverse ++ .ref b :: rest) (hW : 2 * g.monitorRoom + (rest.map fun v => v.category).sum ≤ W) (hdg : decode c.code g.pc = .ok (.invokespecial index, 3)) :
    ∃ (v : Option Value) (T' : State) (L : List Loc), Stand p l e R s m args below meth c T' (locs ++ L) (cells + rm.cells) (slots + rm.slots) ∧ Q v T'.heap L ∧
      ∀ target, Steps p.tables e below (T'.setTop { g with pc := g.pc + 3, stack := v.toList ++ rest }) target → Steps p.tables e below (T.setTop g) target := by
  obtain ⟨v, vm1, ⟨T', L', c', n'⟩, -, X', ⟨L, hQ, r1, r2, r3⟩, st⟩ := X.specialBack hx hy1 hown (mvT hZ w1) (mvT hZ w2) (mvT hZ w4) hy (backOf (W := W) M hZ w4 w3 hf hl) hg hsize (Steps.refl _) hlen hstack hW hdg (fun _ _ => ⟨has, eT, hc, hs⟩)
  dsimp only [Pt.U, Pt.locs, Pt.cells, Pt.slots] at X' r1 r2 r3 st hQ
  subst r1 r2 r3
  exact ⟨v, T', L, X', hQ, fun _ k => st.trans k⟩
theorem narrowR {C' : String} {v : Value} (hv : v.isRef = true) : narrow (.object C') v = v := by rcases ref_cases hv with rfl | ⟨a, rfl⟩ <;> rfl
theorem fitsR {C' : String} {v : Value} (hv : v.isRef = true) : fits (.object C') v = true := by rcases ref_cases hv with rfl | ⟨a, rfl⟩ <;> rfl
theorem nb0 : nar .boolean (0 : Int32) = 0 := by decide
theorem nb1 : nar .boolean (1 : Int32) = 1 := by decide
end Own
section Arrays
variable {p : Program} {l : Launch} {e : Env} {R : Room} {s : State} {m : MethodId} {args : Array Value} {below : List Frame} {meth : Method} {c : Code} {T T' : State} {locs : List Loc} {cells slots : Nat} {g : JFrame} {Z : State} {a0 : Array Value} {h h' : Heap} {a b : Addr} {ty : FieldType} {n j x : Int32} {rest : List Value} {ws : List Addr} {sl : Nat} {v : Value} {target : State}
/-- an array of ints (bytes, chars, ..), of longs, of references: its length and what lies at each place -/
def AryI (Z : State) (h : Heap) (a : Addr) (ty : FieldType) (n : Int32) (u : Nat → Int32) : Prop := ∃ cl : Cell, Arr Z h a cl ty ∧ cl.slots.size = n.toNatClampNeg ∧ ¬ n < 0 ∧ ∀ i, i < n.toNatClampNeg → cl.slots[i]? = some (.int (u i))
def AryJ (Z : State) (h : Heap) (a : Addr) (n : Int32) (u : Nat → Int64) : Prop := ∃ cl : Cell, Arr Z h a cl .long ∧ cl.slots.size = n.toNatClampNeg ∧ ¬ n < 0 ∧ ∀ i, i < n.toNatClampNeg → cl.slots[i]? = some (.long (u i))
def AryR (Z : State) (h : Heap) (a : Addr) (C : String) (n : Int32) (u : Nat → Value) : Prop := ∃ cl : Cell, Arr Z h a cl (.object C) ∧ cl.slots.size = n.toNatClampNeg ∧ ¬ n < 0 ∧ Ovr Z cl.cls C ∧ ∀ i, i < n.toNatClampNeg → cl.slots[i]? = some (u i)
def upd {A : Type} (u : Nat → A) (k : Nat) (x : A) : Nat → A := fun i => if i = k then x else u i
theorem upd_eq {A : Type} {u : Nat → A} {k i : Nat} {x : A} (q : i = k) : upd u k x i = x := if_pos q
theorem upd_ne {A : Type} {u : Nat → A} {k i : Nat} {x : A} (q : i ≠ k) : upd u k x i = u i := if_neg q
theorem nat_lt {j n : Int32} (q : ¬ j < 0 ∧ j < n) : j.toNatClampNeg < n.toNatClampNeg := by
  have h1 := nat_of q.1
  have h2 : j.toInt < n.toInt := Int32.lt_iff_toInt_lt.mp q.2
  have h3 : ¬ n < 0 := fun r => by
    have r' : n.toInt < 0 := Int32.lt_iff_toInt_lt.mp r
    omega
  have h4 := nat_of h3
  omega
theorem AryI.lt {u : Nat → Int32} (F : AryI Z h a ty n u) : a < h.size := by obtain ⟨_, A, -⟩ := F; exact A.lt
theorem AryJ.lt {u : Nat → Int64} (F : AryJ Z h a n u) : a < h.size := by obtain ⟨_, A, -⟩ := F; exact A.lt
theorem AryR.lt {C : String} {u : Nat → Value} (F : AryR Z h a C n u) : a < h.size := by obtain ⟨_, A, -⟩ := F; exact A.lt
theorem AryI.ext {u : Nat → Int32} (E : Ext h h') (F : AryI Z h a ty n u) : AryI Z h' a ty n u := by obtain ⟨cl, A, r⟩ := F; exact ⟨cl, A.ext E, r⟩
theorem AryJ.ext {u : Nat → Int64} (E : Ext h h') (F : AryJ Z h a n u) : AryJ Z h' a n u := by obtain ⟨cl, A, r⟩ := F; exact ⟨cl, A.ext E, r⟩
theorem AryR.ext {C : String} {u : Nat → Value} (E : Ext h h') (F : AryR Z h a C n u) : AryR Z h' a C n u := by obtain ⟨cl, A, r⟩ := F; exact ⟨cl, A.ext E, r⟩
theorem AryI.other {u : Nat → Int32} (W : Wr h h' b sl v) (F : AryI Z h a ty n u) (q : a ≠ b) : AryI Z h' a ty n u := by obtain ⟨cl, A, r⟩ := F; exact ⟨cl, A.other W q, r⟩
theorem AryJ.other {u : Nat → Int64} (W : Wr h h' b sl v) (F : AryJ Z h a n u) (q : a ≠ b) : AryJ Z h' a n u := by obtain ⟨cl, A, r⟩ := F; exact ⟨cl, A.other W q, r⟩
theorem AryR.other {C : String} {u : Nat → Value} (W : Wr h h' b sl v) (F : AryR Z h a C n u) (q : a ≠ b) : AryR Z h' a C n u := by obtain ⟨cl, A, r⟩ := F; exact ⟨cl, A.other W q, r⟩
theorem AryI.keep {u : Nat → Int32} (F : AryI Z h a ty n u) (K : Keep h h' ws) (q : a ∉ ws) : AryI Z h' a ty n u := by obtain ⟨cl, A, r⟩ := F; exact ⟨cl, ⟨K.2.1 a cl A.1 q, A.2⟩, r⟩
theorem AryJ.keep {u : Nat → Int64} (F : AryJ Z h a n u) (K : Keep h h' ws) (q : a ∉ ws) : AryJ Z h' a n u := by obtain ⟨cl, A, r⟩ := F; exact ⟨cl, ⟨K.2.1 a cl A.1 q, A.2⟩, r⟩
theorem AryR.keep {C : String} {u : Nat → Value} (F : AryR Z h a C n u) (K : Keep h h' ws) (q : a ∉ ws) : AryR Z h' a C n u := by obtain ⟨cl, A, r⟩ := F; exact ⟨cl, ⟨K.2.1 a cl A.1 q, A.2⟩, r⟩
theorem AryI.cast {u u' : Nat → Int32} (F : AryI Z h a ty n u) (q : ∀ i, i < n.toNatClampNeg → u i = u' i) : AryI Z h a ty n u' := by obtain ⟨cl, A, r1, r2, r3⟩ := F; exact ⟨cl, A, r1, r2, fun i hi => by rw [r3 i hi, q i hi]⟩
theorem AryJ.cast {u u' : Nat → Int64} (F : AryJ Z h a n u) (q : ∀ i, i < n.toNatClampNeg → u i = u' i) : AryJ Z h a n u' := by obtain ⟨cl, A, r1, r2, r3⟩ := F; exact ⟨cl, A, r1, r2, fun i hi => by rw [r3 i hi, q i hi]⟩
theorem AryI.new {cA : ClassId} (A : Arr Z h a (newA cA ty n) ty) (q : ¬ n < 0) (d : defaultValue ty = .int 0) : AryI Z h a ty n (fun _ => 0) := ⟨_, A, sz_new _ _ _, q, fun i hi => by simp [newA, d, hi]⟩
theorem AryJ.new {cA : ClassId} (A : Arr Z h a (newA cA .long n) .long) (q : ¬ n < 0) : AryJ Z h a n (fun _ => 0) := ⟨_, A, sz_new _ _ _, q, fun i hi => by
  have d : defaultValue .long = .long 0 := rfl
  simp [newA, d, hi]⟩
theorem AryR.new {C : String} {cA : ClassId} (A : Arr Z h a (newA cA (.object C) n) (.object C)) (O : Ovr Z cA C) (q : ¬ n < 0) : AryR Z h a C n (fun _ => .null) := ⟨_, A, sz_new _ _ _, q, O, fun i hi => by
  have d : defaultValue (.object C) = .null := rfl
  simp [newA, d, hi]⟩
theorem set_at {cl : Cell} {k i : Nat} {w : Value} (hk : k < cl.slots.size) : (cl.setSlot k w).slots[i]? = if i = k then some w else cl.slots[i]? := by
  by_cases q : i = k
  · subst q; simp [Cell.setSlot, hk]
  · rw [if_neg q]; simp [Cell.setSlot, Array.getElem?_setIfInBounds_ne (Ne.symm q)]
theorem AryI.len {u : Nat → Int32} (F : AryI Z h a ty n u) (X : Stand p l e R s m args below meth c T locs cells slots) (hx : p.tables.exec = Jvm.exec) (hZ : Z.Warmed39 s.vm) (eT : T.heap = h) (hg : g.method = m) (hs : g.stack = .ref a :: rest) (hd : decode c.code g.pc = .ok (.arraylength, 1)) (hr : Steps p.tables e below (T.setTop { g with pc := g.pc + 1, stack := .int n :: rest }) target) : Steps p.tables e below (T.setTop g) target := by
  obtain ⟨cl, A, S, N, H⟩ := F
  refine X.arraylength hx (by rw [eT]; exact A.1) (State.isArrayOf_alike hZ.alike A.2.1) hg hs hd _ ?_
  rw [len_of S N]; exact hr
theorem AryJ.len {u : Nat → Int64} (F : AryJ Z h a n u) (X : Stand p l e R s m args below meth c T locs cells slots) (hx : p.tables.exec = Jvm.exec) (hZ : Z.Warmed39 s.vm) (eT : T.heap = h) (hg : g.method = m) (hs : g.stack = .ref a :: rest) (hd : decode c.code g.pc = .ok (.arraylength, 1)) (hr : Steps p.tables e below (T.setTop { g with pc := g.pc + 1, stack := .int n :: rest }) target) : Steps p.tables e below (T.setTop g) target := by
  obtain ⟨cl, A, S, N, H⟩ := F
  refine X.arraylength hx (by rw [eT]; exact A.1) (State.isArrayOf_alike hZ.alike A.2.1) hg hs hd _ ?_
  rw [len_of S N]; exact hr
theorem AryI.loadI {u : Nat → Int32} (F : AryI Z h a .int n u) (X : Stand p l e R s m args below meth c T locs cells slots) (hx : p.tables.exec = Jvm.exec) (hZ : Z.Warmed39 s.vm) (eT : T.heap = h) (q : ¬ j < 0 ∧ j < n) (hg : g.method = m) (hs : g.stack = .int j :: .ref a :: rest) (hd : decode c.code g.pc = .ok (.iaload, 1)) (hr : Steps p.tables e below (T.setTop { g with pc := g.pc + 1, stack := .int (u j.toNatClampNeg) :: rest }) target) : Steps p.tables e below (T.setTop g) target := by
  obtain ⟨cl, A, S, N, H⟩ := F
  exact X.iaload hx (by rw [eT]; exact A.1) (State.isArrayOf_alike hZ.alike A.2.1) A.2.2 (inb_of S q) (H _ (nat_lt q)) hg hs hd _ hr
theorem AryI.loadB {u : Nat → Int32} (F : AryI Z h a .byte n u) (X : Stand p l e R s m args below meth c T locs cells slots) (hx : p.tables.exec = Jvm.exec) (hZ : Z.Warmed39 s.vm) (eT : T.heap = h) (q : ¬ j < 0 ∧ j < n) (hg : g.method = m) (hs : g.stack = .int j :: .ref a :: rest) (hd : decode c.code g.pc = .ok (.baload, 1)) (hr : Steps p.tables e below (T.setTop { g with pc := g.pc + 1, stack := .int (u j.toNatClampNeg) :: rest }) target) : Steps p.tables e below (T.setTop g) target := by
  obtain ⟨cl, A, S, N, H⟩ := F
  exact X.baloadBytes hx (by rw [eT]; exact A.1) (State.isArrayOf_alike hZ.alike A.2.1) A.2.2 (inb_of S q) (H _ (nat_lt q)) hg hs hd _ hr
theorem AryI.loadZ {u : Nat → Int32} (F : AryI Z h a .boolean n u) (X : Stand p l e R s m args below meth c T locs cells slots) (hx : p.tables.exec = Jvm.exec) (hZ : Z.Warmed39 s.vm) (eT : T.heap = h) (q : ¬ j < 0 ∧ j < n) (hg : g.method = m) (hs : g.stack = .int j :: .ref a :: rest) (hd : decode c.code g.pc = .ok (.baload, 1)) (hr : Steps p.tables e below (T.setTop { g with pc := g.pc + 1, stack := .int (u j.toNatClampNeg) :: rest }) target) : Steps p.tables e below (T.setTop g) target := by
  obtain ⟨cl, A, S, N, H⟩ := F
  exact X.baloadBooleans hx (by rw [eT]; exact A.1) (State.isArrayOf_alike hZ.alike A.2.1) A.2.2 (inb_of S q) (H _ (nat_lt q)) hg hs hd _ hr
theorem AryJ.load {u : Nat → Int64} (F : AryJ Z h a n u) (X : Stand p l e R s m args below meth c T locs cells slots) (hx : p.tables.exec = Jvm.exec) (hZ : Z.Warmed39 s.vm) (eT : T.heap = h) (q : ¬ j < 0 ∧ j < n) (hg : g.method = m) (hs : g.stack = .int j :: .ref a :: rest) (hd : decode c.code g.pc = .ok (.laload, 1)) (hr : Steps p.tables e below (T.setTop { g with pc := g.pc + 1, stack := .long (u j.toNatClampNeg) :: rest }) target) : Steps p.tables e below (T.setTop g) target := by
  obtain ⟨cl, A, S, N, H⟩ := F
  exact X.laload hx (by rw [eT]; exact A.1) (State.isArrayOf_alike hZ.alike A.2.1) A.2.2 (inb_of S q) (H _ (nat_lt q)) hg hs hd _ hr
theorem AryR.load {C : String} {u : Nat → Value} (F : AryR Z h a C n u) (X : Stand p l e R s m args below meth c T locs cells slots) (hx : p.tables.exec = Jvm.exec) (hZ : Z.Warmed39 s.vm) (eT : T.heap = h) (q : ¬ j < 0 ∧ j < n) (hg : g.method = m) (hs : g.stack = .int j :: .ref a :: rest) (hd : decode c.code g.pc = .ok (.aaload, 1)) (hr : Steps p.tables e below (T.setTop { g with pc := g.pc + 1, stack := u j.toNatClampNeg :: rest }) target) : Steps p.tables e below (T.setTop g) target := by
  obtain ⟨cl, A, S, N, O, H⟩ := F
  exact X.aaload hx (by rw [eT]; exact A.1) (State.isArrayOf_alike hZ.alike A.2.1) rfl A.2.2 (inb_of S q) (H _ (nat_lt q)) hg hs hd _ hr
theorem AryI.put {u : Nat → Int32} {cl : Cell} (A : Arr Z h a cl ty) (S : cl.slots.size = n.toNatClampNeg) (N : ¬ n < 0) (H : ∀ i, i < n.toNatClampNeg → cl.slots[i]? = some (.int (u i))) (q : ¬ j < 0 ∧ j < n) (W : Wr h h' a j.toNatClampNeg (.int x)) : AryI Z h' a ty n (upd u j.toNatClampNeg x) := by
  refine ⟨_, A.same W, by rw [sz_set]; exact S, N, fun i hi => ?_⟩
  rw [set_at (by rw [S]; exact nat_lt q)]
  by_cases r : i = j.toNatClampNeg
  · rw [if_pos r, upd_eq r]
  · rw [if_neg r, upd_ne r]; exact H i hi
theorem AryI.stI {u : Nat → Int32} (F : AryI Z h a .int n u) (X : Stand p l e R s m args below meth c T locs cells slots) (hx : p.tables.exec = Jvm.exec) (hZ : Z.Warmed39 s.vm) (eT : T.heap = h) (q : ¬ j < 0 ∧ j < n) (hg : g.method = m) (hs : g.stack = .int x :: .int j :: .ref a :: rest) (hd : decode c.code g.pc = .ok (.iastore, 1)) :
    ∃ T' h', Stand p l e R s m args below meth c T' (locs ++ [⟨a, j.toNatClampNeg⟩]) cells slots ∧ T'.heap = h' ∧ Wr h h' a j.toNatClampNeg (.int x) ∧ AryI Z h' a .int n (upd u j.toNatClampNeg x) ∧ ∀ target, Steps p.tables e below (T'.setTop { g with pc := g.pc + 1, stack := rest }) target → Steps p.tables e below (T.setTop g) target := by
  obtain ⟨cl, A, S, N, H⟩ := F
  obtain ⟨T', h', X', e', W, st⟩ := Jvm.RoadKit.stI X hx hZ eT A (inb_of S q) hg hs hd
  exact ⟨T', h', X', e', W, AryI.put A S N H q W, st⟩
theorem AryI.stB {u : Nat → Int32} (F : AryI Z h a .byte n u) (X : Stand p l e R s m args below meth c T locs cells slots) (hx : p.tables.exec = Jvm.exec) (hZ : Z.Warmed39 s.vm) (eT : T.heap = h) (q : ¬ j < 0 ∧ j < n) (hg : g.method = m) (hs : g.stack = .int x :: .int j :: .ref a :: rest) (hd : decode c.code g.pc = .ok (.bastore, 1)) :
    ∃ T' h', Stand p l e R s m args below meth c T' (locs ++ [⟨a, j.toNatClampNeg⟩]) cells slots ∧ T'.heap = h' ∧ Wr h h' a j.toNatClampNeg (.int (nar .byte x)) ∧ AryI Z h' a .byte n (upd u j.toNatClampNeg (nar .byte x)) ∧ ∀ target, Steps p.tables e below (T'.setTop { g with pc := g.pc + 1, stack := rest }) target → Steps p.tables e below (T.setTop g) target := by
  obtain ⟨cl, A, S, N, H⟩ := F
  obtain ⟨T', h', X', e', W, st⟩ := Jvm.RoadKit.stB X hx hZ eT A (inb_of S q) hg hs hd
  exact ⟨T', h', X', e', W, AryI.put A S N H q W, st⟩
theorem AryJ.st {u : Nat → Int64} {y : Int64} (F : AryJ Z h a n u) (X : Stand p l e R s m args below meth c T locs cells slots) (hx : p.tables.exec = Jvm.exec) (hZ : Z.Warmed39 s.vm) (eT : T.heap = h) (q : ¬ j < 0 ∧ j < n) (hg : g.method = m) (hs : g.stack = .long y :: .int j :: .ref a :: rest) (hd : decode c.code g.pc = .ok (.lastore, 1)) :
    ∃ T' h', Stand p l e R s m args below meth c T' (locs ++ [⟨a, j.toNatClampNeg⟩]) cells slots ∧ T'.heap = h' ∧ Wr h h' a j.toNatClampNeg (.long y) ∧ AryJ Z h' a n (upd u j.toNatClampNeg y) ∧ ∀ target, Steps p.tables e below (T'.setTop { g with pc := g.pc + 1, stack := rest }) target → Steps p.tables e below (T.setTop g) target := by
  obtain ⟨cl, A, S, N, H⟩ := F
  obtain ⟨T', h', X', e', W, st⟩ := Jvm.RoadKit.stJ X hx hZ eT A (inb_of S q) hg hs hd
  refine ⟨T', h', X', e', W, ⟨_, A.same W, by rw [sz_set]; exact S, N, fun i hi => ?_⟩, st⟩
  rw [set_at (by rw [S]; exact nat_lt q)]
  by_cases r : i = j.toNatClampNeg
  · rw [if_pos r, upd_eq r]
  · rw [if_neg r, upd_ne r]; exact H i hi
theorem AryR.st {C : String} {u : Nat → Value} (F : AryR Z h a C n u) (X : Stand p l e R s m args below meth c T locs cells slots) (hx : p.tables.exec = Jvm.exec) (hZ : Z.Warmed39 s.vm) (eT : T.heap = h) (q : ¬ j < 0 ∧ j < n) (hI : v = .null ∨ ∃ y, v = .ref y ∧ Ins Z h y C true) (hg : g.method = m) (hs : g.stack = v :: .int j :: .ref a :: rest) (hd : decode c.code g.pc = .ok (.aastore, 1)) :
    ∃ T' h', Stand p l e R s m args below meth c T' (locs ++ [⟨a, j.toNatClampNeg⟩]) cells slots ∧ T'.heap = h' ∧ Wr h h' a j.toNatClampNeg v ∧ AryR Z h' a C n (upd u j.toNatClampNeg v) ∧ ∀ target, Steps p.tables e below (T'.setTop { g with pc := g.pc + 1, stack := rest }) target → Steps p.tables e below (T.setTop g) target := by
  obtain ⟨cl, A, S, N, O, H⟩ := F
  have hS : Sto Z h a v := by
    rcases hI with r | ⟨y, rfl, r⟩
    · exact Or.inl r
    · exact Sto.of A O r
  obtain ⟨T', h', X', e', W, st⟩ := Jvm.RoadKit.stR X hx hZ eT A (inb_of S q) rfl hS hg hs hd
  refine ⟨T', h', X', e', W, ⟨_, A.same W, by rw [sz_set]; exact S, N, O, fun i hi => ?_⟩, st⟩
  rw [set_at (by rw [S]; exact nat_lt q)]
  by_cases r : i = j.toNatClampNeg
  · rw [if_pos r, upd_eq r]
  · rw [if_neg r, upd_ne r]; exact H i hi
end Arrays
/-! the same, where a String constant may have been resolved meanwhile: the walk stands over s with later tables -/
def FiniW (p : Program) (e : Env) (below : List Frame) (s : State) (Q : Option Value → Heap → List Loc → Prop) (C S : Nat) (T : State) (g : JFrame) : Prop :=
  ∃ s₂ o, Steps p.tables e below (T.setTop g) s₂ ∧ s₂.status = .running ∧ Ended s₂ below o ∧ ∃ v L, o = .returned v ∧ Q v s₂.heap L ∧ ReturnedEndW s o s₂ L C S
abbrev CmetW (l : Launch) (Z : State) (y : MethodName) (bytes : ByteArray) (ml : Nat) (ret : Option FieldType) (ws : List Jvm.Cond) (rm : Room) (as : Array Value) (h0 : Heap) (Q : Option Value → Heap → List Loc → Prop) : Prop :=
  MetFree l y (head1 (Jvm.Cond.code y bytes ml ret :: ws) rm) (fun a U => a = as ∧ Z.Warmed39 U.vm ∧ U.heap = h0) (fun _ _ _ _ _ => True) (fun _ U o U' => ∃ v L, o = .returned v ∧ Q v U'.heap L ∧ ReturnedEndW U o U' L rm.cells rm.slots)
section Wide
variable {p : Program} {l : Launch} {e : Env} {R : Room} {s : State} {m : MethodId} {args : Array Value} {below : List Frame} {meth : Method} {c : Code} {T T' : State} {locs : List Loc} {cells slots : Nat} {Q : Option Value → Heap → List Loc → Prop} {C S n : Nat} {g g' : JFrame} {Z : State} {a0 : Array Value} {h : Heap} {vm1 : Vm}
theorem FiniW.st (k : ∀ t, Steps p.tables e below (T'.setTop g') t → Steps p.tables e below (T.setTop g) t) (f : FiniW p e below s Q C S T' g') : FiniW p e below s Q C S T g := by
  obtain ⟨s2, o, h1, r⟩ := f
  exact ⟨s2, o, k _ h1, r⟩
theorem FiniW.cast (q : g = g') (f : FiniW p e below s Q C S T g') : FiniW p e below s Q C S T g := q ▸ f
theorem endW_mono {s t : State} {o : Outcome} {L : List Loc} {k n k' n' : Nat} (h : ReturnedEndW s o t L k n) (hk : k ≤ k') (hn : n ≤ n') : ReturnedEndW s o t L k' n' := ⟨h.1, h.2.1, h.2.2.1, h.2.2.2.mono hk hn⟩
theorem FiniW.retN (X : Stand p l e R (s.setVm vm1) m args below meth c T locs cells slots) (hx : p.tables.exec = Jvm.exec) (hl : meth.locks = false) {t : FieldType} (hret : meth.sig.returnType = some t) (ht : t = .boolean ∨ t = .byte ∨ t = .char ∨ t = .short) {pc : Nat} {Ls : Array Slot} {z z' : Int32} {rest : List Value} (hd : decode c.code pc = .ok (.ireturn, 1))
    (hz : nar t z = z') (hS : s.Since vm1 n) (hn : n ≤ T.heap.size) (hC : cells ≤ C) (hs : slots ≤ S) (hQ : Q (some (.int z')) T.heap locs) : FiniW p e below s Q C S T (mkF m pc Ls (.int z :: rest)) := by
  subst hz
  obtain ⟨fs, hr, hrun, hended, hW⟩ := X.leaveW hS hn (v := some (.int (nar t z))) (fun h => by rw [hret] at h; cases h) hl
  exact ⟨_, _, Jvm.RoadKit.retN X hx hret ht hd hr, hrun, hended, _, _, rfl, hQ, endW_mono hW hC hs⟩
theorem FiniW.ret0 (X : Stand p l e R (s.setVm vm1) m args below meth c T locs cells slots) (hx : p.tables.exec = Jvm.exec) (hl : meth.locks = false) (hret : meth.sig.returnType = none) {pc : Nat} {Ls : Array Slot} (hd : decode c.code pc = .ok (.return_, 1))
    (hS : s.Since vm1 n) (hn : n ≤ T.heap.size) (hC : cells ≤ C) (hs : slots ≤ S) (hQ : Q none T.heap locs) : FiniW p e below s Q C S T (mkF m pc Ls []) := by
  obtain ⟨fs, hr, hrun, hended, hW⟩ := X.leaveW hS hn (v := none) (fun _ => rfl) hl
  exact ⟨_, _, X.returnOut hx hret hd hr, hrun, hended, _, _, rfl, hQ, endW_mono hW hC hs⟩
/-- a constructor that may resolve a String constant -/
theorem callNewW (X : Stand p l e R (s.setVm vm1) m args below meth c T locs cells slots) (hx : p.tables.exec = Jvm.exec) (hZ : Z.Warmed39 (s.setVm vm1).vm) {own : String} {index : Nat} {y : MethodName} {bytes : ByteArray} {maxL : Nat} {rm : Room} {as : Array Value} {b : Addr}
    (hown : (s.setVm vm1).vm.findClass own = some m.cls) (hS : s.Since vm1 n) (hn : n ≤ h.size) (hy1 : y.name = "<init>") (w1 : (Cond.methodLink own index y).before a0 Z = true) (w2 : (Cond.instanceMethod y).before a0 Z = true) (w3 : (Cond.initialized y.cls).before a0 Z = true) (w4 : (Cond.code y bytes maxL none).before a0 Z = true)
    (hy : y.cls ≠ "java/lang/invoke/MethodHandle" ∧ y.cls ≠ "java/lang/invoke/VarHandle") (M : CmetW l Z y bytes maxL none [] rm as h Q) (eT : T.heap = h) {W : Nat} (hf : rm.frames + 1 ≤ R.frames) (hl : W + (maxL + 11) + rm.locals ≤ R.locals) (hc : cells + rm.cells ≤ R.cells) (hs : slots + rm.slots ≤ R.slots)
    (hg : g.method = m) (hsize : g.locals.size = c.maxLocals) {argsL rest : List Value} (has : (Value.ref b :: argsL).toArray = as) (hlen : ∀ sig, parseMethodDescriptor y.desc = some sig → argsL.length = sig.parameters.length)
    (hstack : g.stack = argsL.reverse ++ .ref b :: rest) (hW : 2 * g.monitorRoom + (rest.map fun v => v.category).sum ≤ W) (hdg : decode c.code g.pc = .ok (.invokespecial index, 3)) :
    ∃ (v : Option Value) (T' : State) (L : List Loc), Stand p l e R (s.setVm T'.vm) m args below meth c T' (locs ++ L) (cells + rm.cells) (slots + rm.slots) ∧ s.Since T'.vm T'.heap.size ∧ Z.Warmed39 (s.setVm T'.vm).vm ∧ (s.setVm T'.vm).vm.findClass own = some m.cls ∧ Q v T'.heap L ∧
      ∀ target, Steps p.tables e below (T'.setTop { g with pc := g.pc + 3, stack := v.toList ++ rest }) target → Steps p.tables e below (T.setTop g) target := by
  obtain ⟨v, vm2, ⟨T', L', c', n'⟩, -, X', hS', hgr, ⟨L, hQ, r1, r2, r3⟩, st⟩ := X.specialBackS hx hy1 hown (mvT hZ w1) (mvT hZ w2) (mvT hZ w4) hy (backOfS (W := W) M hZ w4 w3 hf hl) hg hsize (Steps.refl _) hlen hstack hW hdg (fun _ _ => ⟨has, eT, hc, hs⟩)
  dsimp only [Pt.U, Pt.locs, Pt.cells, Pt.slots] at X' r1 r2 r3 st hQ hS' hgr
  subst r1 r2 r3
  obtain ⟨Y, q1, q2, q3⟩ := rebS (n1 := T.heap.size) hS (by rw [eT]; exact hn) X' hS' hgr hZ hown
  exact ⟨v, T', L, Y, q1, q2, q3, hQ, fun _ k => st.trans k⟩
end Wide
section Iface
variable {p : Program} {l : Launch} {e : Env} {R : Room} {s : State} {m : MethodId} {args : Array Value} {below : List Frame} {meth : Method} {c : Code} {T T' : State} {locs : List Loc} {cells slots : Nat} {Q : Option Value → Heap → List Loc → Prop} {g : JFrame} {Z : State} {a0 : Array Value} {h h' : Heap}
/-- an interface's method that leaves the heap as it was -/
theorem pureI (X : Stand p l e R s m args below meth c T locs cells slots) (hx : p.tables.exec = Jvm.exec) (hZ : Z.Warmed39 s.vm) {own C' : String} {index count : Nat} {y z : MethodName} {bytes : ByteArray} {maxL : Nat} {ret : Option FieldType} {fr lo : Nat} {as : Array Value} {b : Addr} {w : Option Value}
    (hown : s.vm.findClass own = some m.cls) (w1 : (Cond.methodLink own index y).before a0 Z = true) (w2 : (Cond.declares y).before a0 Z = true) (wf : (Cond.interfaceMethod y.cls y.cls y.name y.desc).before a0 Z = true) (w3 : (Cond.selects C' y z).before a0 Z = true) (w4 : (Cond.instanceMethod z).before a0 Z = true) (wp : (Cond.publicMethod z).before a0 Z = true) (wu : (Cond.unhidden C' y.name y.desc).before a0 Z = true) (wk : (Cond.castable C' y.cls).before a0 Z = true) (w5 : (Cond.initialized z.cls).before a0 Z = true) (w6 : (Cond.code z bytes maxL ret).before a0 Z = true)
    (E : Exa Z h b C') (hy : y.cls ≠ "java/lang/invoke/MethodHandle" ∧ y.cls ≠ "java/lang/invoke/VarHandle") (M : Cmet l Z z bytes maxL ret [] ({ frames := fr, cells := 0, slots := 0, locals := lo } : Room) as h (fun v h' L => v = w ∧ h' = h ∧ L = [])) (eT : T.heap = h) {W : Nat} (hf : fr + 1 ≤ R.frames) (hl : W + (maxL + 11) + lo ≤ R.locals) (hc : cells ≤ R.cells) (hs : slots ≤ R.slots)
    (hg : g.method = m) (hsize : g.locals.size = c.maxLocals) {argsL rest : List Value} (has : (Value.ref b :: argsL).toArray = as) (hlen : ∀ sig, parseMethodDescriptor y.desc = some sig → argsL.length = sig.parameters.length)
    (hstack : g.stack = argsL.reverse ++ .ref b :: rest) (hW : 2 * g.monitorRoom + (rest.map fun v => v.category).sum ≤ W) (hdg : decode c.code g.pc = .ok (.invokeinterface index count, 5)) :
    ∃ (T' : State), Stand p l e R s m args below meth c T' locs cells slots ∧ T'.heap = h ∧
      ∀ target, Steps p.tables e below (T'.setTop { g with pc := g.pc + 5, stack := w.toList ++ rest }) target → Steps p.tables e below (T.setTop g) target := by
  obtain ⟨cB, kB, q1, q2, q3⟩ := isOf hZ eT E
  obtain ⟨v, vm1, ⟨T', L', c', n'⟩, -, X', ⟨L, ⟨rfl, q, rfl⟩, r1, r2, r3⟩, st⟩ := X.interfaceBack hx hown (mvT hZ w1) (mvT hZ w2) (mvT hZ wf (by simp [Cond.onTables, Cond.keepsFace, Cond.keeps, Cond.faceAtom, hy.1, hy.2])) (mvT hZ w3) (mvT hZ w4) (mvT hZ wp) (mvT hZ wu) (mvT hZ wk) hy (backOf (W := W) (Q := fun v h' L => v = w ∧ h' = h ∧ L = []) (rm := ({ frames := fr, cells := 0, slots := 0, locals := lo } : Room)) M hZ w6 w5 hf hl) q1 q2 q3 hg hsize (Steps.refl _) hlen hstack hW hdg (fun _ _ => ⟨has, eT, hc, hs⟩)
  dsimp only [Pt.U, Pt.locs, Pt.cells, Pt.slots] at X' r1 r2 r3 st q
  rw [List.append_nil] at r1
  subst r1 r2 r3
  exact ⟨T', X', q, fun _ k => st.trans k⟩
theorem AryJ.arh0 {a : Addr} {u : Nat → Int64} (F : AryJ Z h a (0 : Int32) u) : ∃ k, Arh Z h a k .long (0 : Int32) [] [] (.long 0) := by
  obtain ⟨cl, A, S, N, H⟩ := F
  have z : cl.slots.size = 0 := S
  exact ⟨cl.cls, cl, A, rfl, S, N, fun i hi => absurd hi (by omega), fun i hi => absurd hi (by omega)⟩
end Iface
theorem own_wS {a0 : Array Value} {Z : State} (hw : ∀ d ∈ tables_1, d.before a0 Z = true) : ∀ d ∈ Bundle.stringAtoms, d.before a0 Z = true := fun d hd => by
  have hd' : d ∈ ([.initialized "java/lang/String", .instantiable "java/lang/String" 4, .arrayClass .byte, .laysFinal "java/lang/String" "java/lang/String" "value" "[B", .laysFinal "java/lang/String" "java/lang/String" "coder" "B", .soleField "java/lang/String" "value", .soleField "java/lang/String" "coder"] : List Jvm.Cond) := hd
  simp only [List.mem_cons, List.not_mem_nil, or_false] at hd'
  rcases hd' with rfl | rfl | rfl | rfl | rfl | rfl | rfl
  · exact (hw _ (List.mem_of_getElem? (i := 77) rfl))
  · exact (hw _ (List.mem_of_getElem? (i := 78) rfl))
  · exact (hw _ (List.mem_of_getElem? (i := 79) rfl))
  · exact (hw _ (List.mem_of_getElem? (i := 80) rfl))
  · exact (hw _ (List.mem_of_getElem? (i := 81) rfl))
  · exact (hw _ (List.mem_of_getElem? (i := 82) rfl))
  · exact (hw _ (List.mem_of_getElem? (i := 83) rfl))
theorem d3_0 : decode jdk_22_method_1_code 0 = .ok (.aload_n 0, 1) := by decide +kernel
theorem d3_1 : decode jdk_22_method_1_code 1 = .ok (.invokespecial 1, 3) := by decide +kernel
theorem d3_4 : decode jdk_22_method_1_code 4 = .ok (.return_, 1) := by decide +kernel
theorem pn_0 : plainName "java/util/AbstractCollection" = true := by first | (simp [plainName, overriddenIn]; done) | decide +kernel
theorem ef3 (m : MethodId) (x0 : Addr) : entryFrame m #[(.ref x0)] 1 = mkF m 0 #[.val (.ref x0)] [] := by first | (simp [entryFrame, mkF, argsToLocals, Value.category]; done) | rfl
set_option maxRecDepth 65536 in
set_option maxHeartbeats 40000000 in
theorem rm3 (l : Launch) (Z : State) (a0 : Array Value) (hw : ∀ d ∈ tables_1, d.before a0 Z = true) (ws : List Jvm.Cond) (o0 : Addr) (h0 : Heap) (n0 : Nat) (Z0 : n0 ≤ h0.size) :
    Cmet l Z (⟨"java/util/AbstractCollection", "<init>", "()V"⟩ : MethodName) jdk_22_method_1_code 1 none ws ({ frames := 1, cells := 0, slots := 0, locals := 12 } : Room) #[(.ref o0)] h0 (fun v h' L => v = none ∧ h' = h0 ∧ L = []) := by
  refine MetFree.of_bodySF (plainFor_of_name pn_0) hisR ?_
  intro p e s m args below meth c s₁ Bd hml0 hP hK
  obtain ⟨rfl, hZ, hh⟩ := hP
  have hx := Bd.exec
  have hlk : meth.locks = false := BodyLoose.notSynchronized Bd
  have hby := Bd.bytes
  have hml : c.maxLocals = 1 := hml0
  have hown : s.vm.findClass "java/util/AbstractCollection" = some m.cls := findClass_of_methodNamed Bd.named
  have hnm := (name_of_methodNamed Bd.named Bd.method).1
  have X0 : Stand p l e ({ frames := 1, cells := 0, slots := 0, locals := 12 } : Room) s m #[(.ref o0)] below meth c s₁ [] 0 0 := Stand.of_body Bd
  have e0 : s₁.heap = h0 := by rw [← hh, Bd.state]; rfl
  have N0 := Fr.nil n0
  show Fini p e below s (fun v h' L => v = none ∧ h' = h0 ∧ L = []) _ _ s₁ (entryFrame m #[(.ref o0)] 1)
  refine Fini.cast (ef3 m o0) ?_
  show Fini p e below s _ _ _ s₁ (mkF m 0 #[.val (.ref o0)] [])
  refine Fini.st (fun _ k => XS.aloadN X0.here hx rfl (hb hby d3_0) rfl rfl k) ?_
  show Fini p e below s _ _ _ s₁ (mkF m 1 #[.val (.ref o0)] [(.ref o0)])
  obtain ⟨T1, X1, e1, st1⟩ := initO X0 hx hZ hown (hw _ (List.mem_of_getElem? (i := 22) rfl)) (hw _ (List.mem_of_getElem? (i := 23) rfl)) (hw _ (List.mem_of_getElem? (i := 24) rfl)) e0 (g := (mkF m 1 #[.val (.ref o0)] [(.ref o0)])) rfl (by rw [hml]; rfl) rfl (hb hby d3_1) (by decide) (W := 0) (by show 2 * 0 + _ ≤ _; exact Nat.le_of_eq rfl) (by decide)
  refine Fini.st st1 ?_
  show Fini p e below s _ _ _ T1 (mkF m 4 #[.val (.ref o0)] [])
  exact Fini.ret0 X1 hx hlk Bd.returns (hb hby d3_4) (by decide) (by decide) ⟨rfl, e1, rfl⟩
theorem pd_0 : parseMethodDescriptor "()V" = some ⟨[], none⟩ := by decide +kernel
theorem d2_0 : decode jdk_39_method_1_code 0 = .ok (.aload_n 0, 1) := by decide +kernel
theorem d2_1 : decode jdk_39_method_1_code 1 = .ok (.invokespecial 1, 3) := by decide +kernel
theorem d2_4 : decode jdk_39_method_1_code 4 = .ok (.aload_n 0, 1) := by decide +kernel
theorem d2_5 : decode jdk_39_method_1_code 5 = .ok (.iconst 0, 1) := by decide +kernel
theorem d2_6 : decode jdk_39_method_1_code 6 = .ok (.putfield 7, 3) := by decide +kernel
theorem d2_9 : decode jdk_39_method_1_code 9 = .ok (.return_, 1) := by decide +kernel
theorem pn_1 : plainName "java/util/AbstractList" = true := by first | (simp [plainName, overriddenIn]; done) | decide +kernel
theorem ef2 (m : MethodId) (x0 : Addr) : entryFrame m #[(.ref x0)] 1 = mkF m 0 #[.val (.ref x0)] [] := by first | (simp [entryFrame, mkF, argsToLocals, Value.category]; done) | rfl
set_option maxRecDepth 65536 in
set_option maxHeartbeats 40000000 in
theorem rm2 (l : Launch) (Z : State) (a0 : Array Value) (hw : ∀ d ∈ tables_1, d.before a0 Z = true) (ws : List Jvm.Cond) (o0 : Addr) (mc : Int32) (sz : Int32) (h0 : Heap) (n0 : Nat) (Z0 : n0 ≤ h0.size) (E_o0 : Exa Z h0 o0 "java/util/ArrayList") (F_mod : Fld Z h0 o0 "java/util/AbstractList" "modCount" "I" (.int mc)) (F_sz : Fld Z h0 o0 "java/util/ArrayList" "size" "I" (.int sz)) (F_el : Fld Z h0 o0 "java/util/ArrayList" "elementData" "[Ljava/lang/Object;" .null) (g0 : n0 ≤ o0) :
    Cmet l Z (⟨"java/util/AbstractList", "<init>", "()V"⟩ : MethodName) jdk_39_method_1_code 1 none ws ({ frames := 2, cells := 0, slots := 0, locals := 24 } : Room) #[(.ref o0)] h0 (fun v h' L => v = none ∧ Fr n0 L ∧ Keep h0 h' [o0] ∧ Fld Z h' o0 "java/util/ArrayList" "size" "I" (.int sz) ∧ Fld Z h' o0 "java/util/ArrayList" "elementData" "[Ljava/lang/Object;" .null) := by
  refine MetFree.of_bodySF (plainFor_of_name pn_1) hisR ?_
  intro p e s m args below meth c s₁ Bd hml0 hP hK
  obtain ⟨rfl, hZ, hh⟩ := hP
  have hx := Bd.exec
  have hlk : meth.locks = false := BodyLoose.notSynchronized Bd
  have hby := Bd.bytes
  have hml : c.maxLocals = 1 := hml0
  have hown : s.vm.findClass "java/util/AbstractList" = some m.cls := findClass_of_methodNamed Bd.named
  have hnm := (name_of_methodNamed Bd.named Bd.method).1
  have X0 : Stand p l e ({ frames := 2, cells := 0, slots := 0, locals := 24 } : Room) s m #[(.ref o0)] below meth c s₁ [] 0 0 := Stand.of_body Bd
  have e0 : s₁.heap = h0 := by rw [← hh, Bd.state]; rfl
  have N0 := Fr.nil n0
  show Fini p e below s (fun v h' L => v = none ∧ Fr n0 L ∧ Keep h0 h' [o0] ∧ Fld Z h' o0 "java/util/ArrayList" "size" "I" (.int sz) ∧ Fld Z h' o0 "java/util/ArrayList" "elementData" "[Ljava/lang/Object;" .null) _ _ s₁ (entryFrame m #[(.ref o0)] 1)
  refine Fini.cast (ef2 m o0) ?_
  show Fini p e below s _ _ _ s₁ (mkF m 0 #[.val (.ref o0)] [])
  refine Fini.st (fun _ k => XS.aloadN X0.here hx rfl (hb hby d2_0) rfl rfl k) ?_
  show Fini p e below s _ _ _ s₁ (mkF m 1 #[.val (.ref o0)] [(.ref o0)])
  obtain ⟨v1, T1, L1, X1, hQ1, st1⟩ := callNew X0 hx hZ hown rfl (hw _ (List.mem_of_getElem? (i := 16) rfl)) (hw _ (List.mem_of_getElem? (i := 17) rfl)) (hw _ (List.mem_of_getElem? (i := 20) rfl)) (hw _ (List.mem_of_getElem? (i := 21) rfl)) (by decide) (rm3 l Z a0 hw [] o0 h0 n0 Z0) e0 (W := 0) (by decide) (by decide) (by decide) (by decide) (g := (mkF m 1 #[.val (.ref o0)] [(.ref o0)])) rfl (by rw [hml]; rfl) (argsL := []) (rest := []) rfl (lenOf pd_0 rfl) rfl (by show 2 * 0 + _ ≤ _; exact Nat.le_of_eq rfl) (hb hby d2_1)
  obtain ⟨rfl, hh1, rfl⟩ := hQ1
  have K1 : Keep h0 T1.heap [] := by rw [hh1]; exact Keep.refl _ _
  have Nq1 := Fr.nil n0
  have N1 := Fr.app N0 Nq1
  refine Fini.st st1 ?_
  show Fini p e below s _ _ _ T1 (mkF m 4 #[.val (.ref o0)] [])
  refine Fini.st (fun _ k => XS.aloadN X1.here hx rfl (hb hby d2_4) rfl rfl k) ?_
  show Fini p e below s _ _ _ T1 (mkF m 5 #[.val (.ref o0)] [(.ref o0)])
  refine Fini.st (fun _ k => XS.iconst X1.here hx rfl (hb hby d2_5) k) ?_
  show Fini p e below s _ _ _ T1 (mkF m 6 #[.val (.ref o0)] [(.int (0 : Int32)), (.ref o0)])
  have F_3 : Fld Z T1.heap o0 "java/util/AbstractList" "modCount" "I" (.int mc) := (F_mod.keep K1 nin0)
  have Ex_4 : Exa Z T1.heap o0 "java/util/ArrayList" := (E_o0.keep K1)
  obtain ⟨T2, h2, X2, e2, W2, st2⟩ := putF X1 hx hZ hown (host := "") (Or.inl (hw _ (List.mem_of_getElem? (i := 25) rfl))) Via.refl rfl F_3 Ex_4 (Or.inl (hw _ (List.mem_of_getElem? (i := 26) rfl))) (hw _ (List.mem_of_getElem? (i := 5) rfl)) (ty := .int) (by decide) rfl rfl (g := (mkF m 6 #[.val (.ref o0)] [(.int (0 : Int32)), (.ref o0)])) rfl rfl (hb hby d2_6)
  have Fw2 : Fld Z h2 o0 "java/util/AbstractList" "modCount" "I" (.int (0 : Int32)) := F_3.same W2
  refine Fini.st st2 ?_
  have N2 := Fr.snoc X2 N1 g0
  show Fini p e below s _ _ _ T2 (mkF m 9 #[.val (.ref o0)] [])
  have Kp_5 : Keep h0 h2 [o0] := (Keep.wr (Keep.trans (Keep.refl h0 [o0]) K1 all0) W2 (Or.inl (List.mem_of_getElem? (i := 0) rfl)))
  have F_6 : Fld Z h2 o0 "java/util/ArrayList" "size" "I" (.int sz) := ((F_sz.keep K1 nin0).other W2 (Or.inr (slot_ne (Or.inl (hw _ (List.mem_of_getElem? (i := 67) rfl))) (Or.inl (hw _ (List.mem_of_getElem? (i := 26) rfl))) (by decide) (t := .int) (t' := .int) (by decide) (by decide))))
  have F_7 : Fld Z h2 o0 "java/util/ArrayList" "elementData" "[Ljava/lang/Object;" .null := ((F_el.keep K1 nin0).other W2 (Or.inr (slot_ne (Or.inl (hw _ (List.mem_of_getElem? (i := 29) rfl))) (Or.inl (hw _ (List.mem_of_getElem? (i := 26) rfl))) (by decide) (t := (.array (.object "java/lang/Object"))) (t' := .int) (by decide) (by decide))))
  exact Fini.ret0 X2 hx hlk Bd.returns (hb hby d2_9) (by decide) (by decide) ⟨rfl, N2, (by rw [e2]; exact Kp_5), (by rw [e2]; exact F_6), (by rw [e2]; exact F_7)⟩
theorem d1_0 : decode jdk_38_method_2_code 0 = .ok (.aload_n 0, 1) := by decide +kernel
theorem d1_1 : decode jdk_38_method_2_code 1 = .ok (.invokespecial 1, 3) := by decide +kernel
theorem d1_4 : decode jdk_38_method_2_code 4 = .ok (.aload_n 0, 1) := by decide +kernel
theorem d1_5 : decode jdk_38_method_2_code 5 = .ok (.getstatic 39, 3) := by decide +kernel
theorem d1_8 : decode jdk_38_method_2_code 8 = .ok (.putfield 9, 3) := by decide +kernel
theorem d1_11 : decode jdk_38_method_2_code 11 = .ok (.return_, 1) := by decide +kernel
theorem pn_2 : plainName "java/util/ArrayList" = true := by first | (simp [plainName, overriddenIn]; done) | decide +kernel
theorem ef1 (m : MethodId) (x0 : Addr) : entryFrame m #[(.ref x0)] 1 = mkF m 0 #[.val (.ref x0)] [] := by first | (simp [entryFrame, mkF, argsToLocals, Value.category]; done) | rfl
set_option maxRecDepth 65536 in
set_option maxHeartbeats 40000000 in
theorem rm1 (l : Launch) (Z : State) (a0 : Array Value) (hw : ∀ d ∈ tables_1, d.before a0 Z = true) (ws : List Jvm.Cond) (o0 : Addr) (dd : Addr) (mc : Int32) (sz : Int32) (h0 : Heap) (n0 : Nat) (Z0 : n0 ≤ h0.size) (E_o0 : Exa Z h0 o0 "java/util/ArrayList") (F_mod : Fld Z h0 o0 "java/util/AbstractList" "modCount" "I" (.int mc)) (F_sz : Fld Z h0 o0 "java/util/ArrayList" "size" "I" (.int sz)) (F_el : Fld Z h0 o0 "java/util/ArrayList" "elementData" "[Ljava/lang/Object;" .null) (D0 : Old Z n0 h0) (S_dd : Sta Z Z.heap "java/util/ArrayList" "DEFAULTCAPACITY_EMPTY_ELEMENTDATA" "[Ljava/lang/Object;" (.ref dd)) (g0 : n0 ≤ o0) :
    Cmet l Z (⟨"java/util/ArrayList", "<init>", "()V"⟩ : MethodName) jdk_38_method_2_code 1 none ws ({ frames := 3, cells := 0, slots := 0, locals := 36 } : Room) #[(.ref o0)] h0 (fun v h' L => v = none ∧ Fr n0 L ∧ Keep h0 h' [o0] ∧ Fld Z h' o0 "java/util/ArrayList" "size" "I" (.int sz)) := by
  refine MetFree.of_bodySF (plainFor_of_name pn_2) hisR ?_
  intro p e s m args below meth c s₁ Bd hml0 hP hK
  obtain ⟨rfl, hZ, hh⟩ := hP
  have hx := Bd.exec
  have hlk : meth.locks = false := BodyLoose.notSynchronized Bd
  have hby := Bd.bytes
  have hml : c.maxLocals = 1 := hml0
  have hown : s.vm.findClass "java/util/ArrayList" = some m.cls := findClass_of_methodNamed Bd.named
  have hnm := (name_of_methodNamed Bd.named Bd.method).1
  have X0 : Stand p l e ({ frames := 3, cells := 0, slots := 0, locals := 36 } : Room) s m #[(.ref o0)] below meth c s₁ [] 0 0 := Stand.of_body Bd
  have e0 : s₁.heap = h0 := by rw [← hh, Bd.state]; rfl
  have N0 := Fr.nil n0
  show Fini p e below s (fun v h' L => v = none ∧ Fr n0 L ∧ Keep h0 h' [o0] ∧ Fld Z h' o0 "java/util/ArrayList" "size" "I" (.int sz)) _ _ s₁ (entryFrame m #[(.ref o0)] 1)
  refine Fini.cast (ef1 m o0) ?_
  show Fini p e below s _ _ _ s₁ (mkF m 0 #[.val (.ref o0)] [])
  refine Fini.st (fun _ k => XS.aloadN X0.here hx rfl (hb hby d1_0) rfl rfl k) ?_
  show Fini p e below s _ _ _ s₁ (mkF m 1 #[.val (.ref o0)] [(.ref o0)])
  obtain ⟨v1, T1, L1, X1, hQ1, st1⟩ := callNew X0 hx hZ hown rfl (hw _ (List.mem_of_getElem? (i := 10) rfl)) (hw _ (List.mem_of_getElem? (i := 11) rfl)) (hw _ (List.mem_of_getElem? (i := 14) rfl)) (hw _ (List.mem_of_getElem? (i := 15) rfl)) (by decide) (rm2 l Z a0 hw [] o0 mc sz h0 n0 Z0 E_o0 F_mod F_sz F_el g0) e0 (W := 0) (by decide) (by decide) (by decide) (by decide) (g := (mkF m 1 #[.val (.ref o0)] [(.ref o0)])) rfl (by rw [hml]; rfl) (argsL := []) (rest := []) rfl (lenOf pd_0 rfl) rfl (by show 2 * 0 + _ ≤ _; exact Nat.le_of_eq rfl) (hb hby d1_1)
  obtain ⟨rfl, Nq1, K1, Fs1, Fe1⟩ := hQ1
  have N1 := Fr.app N0 Nq1
  refine Fini.st st1 ?_
  show Fini p e below s _ _ _ T1 (mkF m 4 #[.val (.ref o0)] [])
  refine Fini.st (fun _ k => XS.aloadN X1.here hx rfl (hb hby d1_4) rfl rfl k) ?_
  show Fini p e below s _ _ _ T1 (mkF m 5 #[.val (.ref o0)] [(.ref o0)])
  have Od_3 : Old Z n0 T1.heap := (Old.keep D0 K1 (allS (P := fun x => n0 ≤ x) g0 all0))
  obtain ⟨T2, X2, e2, st2⟩ := getS2 X1 hx hZ hown (host := "") (Or.inl (hw _ (List.mem_of_getElem? (i := 27) rfl))) Via.refl rfl (Sta.ext Od_3.2 S_dd) (g := (mkF m 5 #[.val (.ref o0)] [(.ref o0)])) rfl (hb hby d1_5)
  refine Fini.st st2 ?_
  show Fini p e below s _ _ _ T2 (mkF m 8 #[.val (.ref o0)] [(.ref dd), (.ref o0)])
  have Ex_5 : Exa Z T1.heap o0 "java/util/ArrayList" := (E_o0.keep K1)
  obtain ⟨T4, h4, X4, e4, W4, st4⟩ := putF X2 hx hZ hown (host := "") (Or.inl (hw _ (List.mem_of_getElem? (i := 28) rfl))) Via.refl e2 Fe1 Ex_5 (Or.inl (hw _ (List.mem_of_getElem? (i := 29) rfl))) (hw _ (List.mem_of_getElem? (i := 5) rfl)) (ty := (.array (.object "java/lang/Object"))) (by decide) rfl rfl (g := (mkF m 8 #[.val (.ref o0)] [(.ref dd), (.ref o0)])) rfl rfl (hb hby d1_8)
  have Fw4 : Fld Z h4 o0 "java/util/ArrayList" "elementData" "[Ljava/lang/Object;" (.ref dd) := Fe1.same W4
  refine Fini.st st4 ?_
  have N4 := Fr.snoc X4 N1 g0
  show Fini p e below s _ _ _ T4 (mkF m 11 #[.val (.ref o0)] [])
  have Kp_6 : Keep h0 h4 [o0] := (Keep.wr (Keep.trans (Keep.refl h0 [o0]) K1 (allS (P := fun x => x ∈ _ ∨ _ ≤ x) (Or.inl (List.mem_of_getElem? (i := 0) rfl)) all0)) W4 (Or.inl (List.mem_of_getElem? (i := 0) rfl)))
  have F_7 : Fld Z h4 o0 "java/util/ArrayList" "size" "I" (.int sz) := (Fs1.other W4 (Or.inr (slot_ne (Or.inl (hw _ (List.mem_of_getElem? (i := 67) rfl))) (Or.inl (hw _ (List.mem_of_getElem? (i := 29) rfl))) (by decide) (t := .int) (t' := (.array (.object "java/lang/Object"))) (by decide) (by decide))))
  exact Fini.ret0 X4 hx hlk Bd.returns (hb hby d1_11) (by decide) (by decide) ⟨rfl, N4, (by rw [e4]; exact Kp_6), (by rw [e4]; exact F_7)⟩
theorem d8_0 : decode jdk_38_method_8_code 0 = .ok (.aload_n 0, 1) := by decide +kernel
theorem d8_1 : decode jdk_38_method_8_code 1 = .ok (.getfield 48, 3) := by decide +kernel
theorem d8_4 : decode jdk_38_method_8_code 4 = .ok (.ireturn, 1) := by decide +kernel
theorem ef8 (m : MethodId) (x0 : Addr) : entryFrame m #[(.ref x0)] 1 = mkF m 0 #[.val (.ref x0)] [] := by first | (simp [entryFrame, mkF, argsToLocals, Value.category]; done) | rfl
def f8 (x : Int32) : Int32 := x
set_option maxRecDepth 65536 in
set_option maxHeartbeats 40000000 in
theorem rm8 (l : Launch) (Z : State) (a0 : Array Value) (hw : ∀ d ∈ tables_1, d.before a0 Z = true) (ws : List Jvm.Cond) (o0 : Addr) (x : Int32) (h0 : Heap) (F_x : Fld Z h0 o0 "java/util/ArrayList" "size" "I" (.int x)) :
    Cmet l Z (⟨"java/util/ArrayList", "size", "()I"⟩ : MethodName) jdk_38_method_8_code 1 (some .int) ws ({ frames := 0, cells := 0, slots := 0, locals := 0 } : Room) #[(.ref o0)] h0 (fun v h' L => v = some (.int (f8 x)) ∧ h' = h0 ∧ L = []) := by
  refine MetFree.of_bodySF (plainFor_of_name pn_2) hisR ?_
  intro p e s m args below meth c s₁ Bd hml0 hP hK
  obtain ⟨rfl, hZ, hh⟩ := hP
  have hx := Bd.exec
  have hlk : meth.locks = false := BodyLoose.notSynchronized Bd
  have hby := Bd.bytes
  have hml : c.maxLocals = 1 := hml0
  have hown : s.vm.findClass "java/util/ArrayList" = some m.cls := findClass_of_methodNamed Bd.named
  have hnm := (name_of_methodNamed Bd.named Bd.method).1
  have X0 : Stand p l e ({ frames := 0, cells := 0, slots := 0, locals := 0 } : Room) s m #[(.ref o0)] below meth c s₁ [] 0 0 := Stand.of_body Bd
  have e0 : s₁.heap = h0 := by rw [← hh, Bd.state]; rfl
  have hv0 : f8 x = f8 x := rfl
  show Fini p e below s (fun v h' L => v = some (.int (f8 x)) ∧ h' = h0 ∧ L = []) _ _ s₁ (entryFrame m #[(.ref o0)] 1)
  refine Fini.cast (ef8 m o0) ?_
  show Fini p e below s _ _ _ s₁ (mkF m 0 #[.val (.ref o0)] [])
  refine Fini.st (fun _ k => XS.aloadN X0.here hx rfl (hb hby d8_0) rfl rfl k) ?_
  show Fini p e below s _ _ _ s₁ (mkF m 1 #[.val (.ref o0)] [(.ref o0)])
  obtain ⟨T1, X1, e1, st1⟩ := getF X0 hx hZ hown (host := "") (Or.inl (hw _ (List.mem_of_getElem? (i := 66) rfl))) Via.refl e0 F_x (g := (mkF m 1 #[.val (.ref o0)] [(.ref o0)])) rfl rfl (hb hby d8_1)
  refine Fini.st st1 ?_
  show Fini p e below s _ _ _ T1 (mkF m 4 #[.val (.ref o0)] [(.int x)])
  exact Fini.retI X1 hx hlk Bd.returns (hb hby d8_4) (by decide) (by decide) ⟨congrArg (fun z => some (Value.int z)) hv0.symm, e1, rfl⟩
theorem d9_0 : decode jdk_40_method_36_code 0 = .ok (.getstatic 90, 3) := by decide +kernel
theorem d9_3 : decode jdk_40_method_36_code 3 = .ok (.areturn, 1) := by decide +kernel
theorem pn_3 : plainName "java/util/List" = true := by first | (simp [plainName, overriddenIn]; done) | decide +kernel
theorem ef9 (m : MethodId)  : entryFrame m #[] 0 = mkF m 0 #[] [] := by first | (simp [entryFrame, mkF, argsToLocals, Value.category]; done) | rfl
set_option maxRecDepth 65536 in
set_option maxHeartbeats 40000000 in
theorem rm9 (l : Launch) (Z : State) (a0 : Array Value) (hw : ∀ d ∈ tables_1, d.before a0 Z = true) (ws : List Jvm.Cond)  (el : Addr) (h0 : Heap) (n0 : Nat) (Z0 : n0 ≤ h0.size) (D0 : Old Z n0 h0) (S_el : Sta Z Z.heap "java/util/ImmutableCollections" "EMPTY_LIST" "Ljava/util/ImmutableCollections$ListN;" (.ref el)) :
    Cmet l Z (⟨"java/util/List", "of", "()Ljava/util/List;"⟩ : MethodName) jdk_40_method_36_code 0 (some (.object "java/util/List")) ws ({ frames := 0, cells := 0, slots := 0, locals := 0 } : Room) #[] h0 (fun v h' L => v = some (.ref el) ∧ h' = h0 ∧ L = []) := by
  refine MetFree.of_bodySF (plainFor_of_name pn_3) hisR ?_
  intro p e s m args below meth c s₁ Bd hml0 hP hK
  obtain ⟨rfl, hZ, hh⟩ := hP
  have hx := Bd.exec
  have hlk : meth.locks = false := BodyLoose.notSynchronized Bd
  have hby := Bd.bytes
  have hml : c.maxLocals = 0 := hml0
  have hown : s.vm.findClass "java/util/List" = some m.cls := findClass_of_methodNamed Bd.named
  have hnm := (name_of_methodNamed Bd.named Bd.method).1
  have X0 : Stand p l e ({ frames := 0, cells := 0, slots := 0, locals := 0 } : Room) s m #[] below meth c s₁ [] 0 0 := Stand.of_body Bd
  have e0 : s₁.heap = h0 := by rw [← hh, Bd.state]; rfl
  have N0 := Fr.nil n0
  show Fini p e below s (fun v h' L => v = some (.ref el) ∧ h' = h0 ∧ L = []) _ _ s₁ (entryFrame m #[] 0)
  refine Fini.cast (ef9 m ) ?_
  show Fini p e below s _ _ _ s₁ (mkF m 0 #[] [])
  obtain ⟨T1, X1, e1, st1⟩ := getS2 X0 hx hZ hown (host := "") (Or.inl (hw _ (List.mem_of_getElem? (i := 72) rfl))) Via.refl e0 (Sta.ext D0.2 S_el) (g := (mkF m 0 #[] [])) rfl (hb hby d9_0)
  refine Fini.st st1 ?_
  show Fini p e below s _ _ _ T1 (mkF m 3 #[] [(.ref el)])
  exact Fini.retA X1 hx hlk Bd.returns rfl (hb hby d9_3) rfl rfl (by decide) (by decide) ⟨rfl, e1, rfl⟩
theorem pd_1 : parseMethodDescriptor "()I" = some ⟨[], some .int⟩ := by decide +kernel
theorem pd_2 : parseMethodDescriptor "()Ljava/util/List;" = some ⟨[], some (.object "java/util/List")⟩ := by decide +kernel
theorem d7_0 : decode prog_26_method_4_code 0 = .ok (.aload_n 0, 1) := by decide +kernel
theorem d7_1 : decode prog_26_method_4_code 1 = .ok (.invokeinterface 36 1, 5) := by decide +kernel
theorem d7_6 : decode prog_26_method_4_code 6 = .ok (.tableswitch 65 0 2 #[26, 32, 45], 26) := by decide +kernel
theorem d7_32 : decode prog_26_method_4_code 32 = .ok (.invokestatic 42, 3) := by decide +kernel
theorem d7_35 : decode prog_26_method_4_code 35 = .ok (.goto 40, 3) := by decide +kernel
theorem d7_75 : decode prog_26_method_4_code 75 = .ok (.areturn, 1) := by decide +kernel
theorem pn_4 : plainName "com/example/mapcodex/mapcodex/osm/ObjectList" = true := by first | (simp [plainName, overriddenIn]; done) | decide +kernel
theorem ef7 (m : MethodId) (x0 : Addr) : entryFrame m #[(.ref x0)] 1 = mkF m 0 #[.val (.ref x0)] [] := by first | (simp [entryFrame, mkF, argsToLocals, Value.category]; done) | rfl
set_option maxRecDepth 65536 in
set_option maxHeartbeats 40000000 in
theorem rm7 (l : Launch) (Z : State) (a0 : Array Value) (hw : ∀ d ∈ tables_1, d.before a0 Z = true) (ws : List Jvm.Cond) (o0 : Addr) (el : Addr) (h0 : Heap) (n0 : Nat) (Z0 : n0 ≤ h0.size) (E_o0 : Exa Z h0 o0 "java/util/ArrayList") (F_x : Fld Z h0 o0 "java/util/ArrayList" "size" "I" (.int (0 : Int32))) (D0 : Old Z n0 h0) (S_el : Sta Z Z.heap "java/util/ImmutableCollections" "EMPTY_LIST" "Ljava/util/ImmutableCollections$ListN;" (.ref el)) :
    Cmet l Z (⟨"com/example/mapcodex/mapcodex/osm/ObjectList", "copyOf", "(Ljava/util/List;)Ljava/util/List;"⟩ : MethodName) prog_26_method_4_code 1 (some (.object "java/util/List")) ws ({ frames := 1, cells := 0, slots := 0, locals := 12 } : Room) #[(.ref o0)] h0 (fun v h' L => v = some (.ref el) ∧ Keep h0 h' [] ∧ Fr n0 L) := by
  refine MetFree.of_bodySF (plainFor_of_name pn_4) hisR ?_
  intro p e s m args below meth c s₁ Bd hml0 hP hK
  obtain ⟨rfl, hZ, hh⟩ := hP
  have hx := Bd.exec
  have hlk : meth.locks = false := BodyLoose.notSynchronized Bd
  have hby := Bd.bytes
  have hml : c.maxLocals = 1 := hml0
  have hown : s.vm.findClass "com/example/mapcodex/mapcodex/osm/ObjectList" = some m.cls := findClass_of_methodNamed Bd.named
  have hnm := (name_of_methodNamed Bd.named Bd.method).1
  have X0 : Stand p l e ({ frames := 1, cells := 0, slots := 0, locals := 12 } : Room) s m #[(.ref o0)] below meth c s₁ [] 0 0 := Stand.of_body Bd
  have e0 : s₁.heap = h0 := by rw [← hh, Bd.state]; rfl
  have N0 := Fr.nil n0
  show Fini p e below s (fun v h' L => v = some (.ref el) ∧ Keep h0 h' [] ∧ Fr n0 L) _ _ s₁ (entryFrame m #[(.ref o0)] 1)
  refine Fini.cast (ef7 m o0) ?_
  show Fini p e below s _ _ _ s₁ (mkF m 0 #[.val (.ref o0)] [])
  refine Fini.st (fun _ k => XS.aloadN X0.here hx rfl (hb hby d7_0) rfl rfl k) ?_
  show Fini p e below s _ _ _ s₁ (mkF m 1 #[.val (.ref o0)] [(.ref o0)])
  obtain ⟨T1, X1, e1, st1⟩ := pureI X0 hx hZ hown (hw _ (List.mem_of_getElem? (i := 57) rfl)) (hw _ (List.mem_of_getElem? (i := 58) rfl)) (hw _ (List.mem_of_getElem? (i := 59) rfl)) (hw _ (List.mem_of_getElem? (i := 60) rfl)) (hw _ (List.mem_of_getElem? (i := 61) rfl)) (hw _ (List.mem_of_getElem? (i := 62) rfl)) (hw _ (List.mem_of_getElem? (i := 63) rfl)) (hw _ (List.mem_of_getElem? (i := 64) rfl)) (hw _ (List.mem_of_getElem? (i := 6) rfl)) (hw _ (List.mem_of_getElem? (i := 65) rfl)) E_o0 (by decide) (rm8 l Z a0 hw [] o0 (0 : Int32) h0 F_x) e0 (W := 0) (by decide) (by decide) (by decide) (by decide) (g := (mkF m 1 #[.val (.ref o0)] [(.ref o0)])) rfl (by rw [hml]; rfl) (argsL := []) (rest := []) rfl (lenOf pd_1 rfl) rfl (by show 2 * 0 + _ ≤ _; exact Nat.le_of_eq rfl) (hb hby d7_1)
  refine Fini.st st1 ?_
  show Fini p e below s _ _ _ T1 (mkF m 6 #[.val (.ref o0)] [(.int (0 : Int32))])
  refine Fini.st (fun _ k => XS.tswIn X1.here hx rfl (pc0 := 6) (pc' := 32) rfl (hb hby d7_6) rfl (by decide) rfl (by decide) (by decide) k) ?_
  show Fini p e below s _ _ _ T1 (mkF m 32 #[.val (.ref o0)] [])
  obtain ⟨v2, T2, L2, X2, hQ2, st2⟩ := callQ X1 hx hZ hown (hw _ (List.mem_of_getElem? (i := 68) rfl)) (hw _ (List.mem_of_getElem? (i := 69) rfl)) (hw _ (List.mem_of_getElem? (i := 70) rfl)) (hw _ (List.mem_of_getElem? (i := 71) rfl)) (by decide) (rm9 l Z a0 hw [] el h0 n0 Z0 D0 S_el) e1 (W := 0) (by decide) (by decide) (by decide) (by decide) (g := (mkF m 32 #[.val (.ref o0)] [])) rfl (by rw [hml]; rfl) (argsL := []) (rest := []) rfl (lenOf pd_2 rfl) rfl (by show 2 * 0 + _ ≤ _; exact Nat.le_of_eq rfl) (hb hby d7_32)
  obtain ⟨rfl, hh2, rfl⟩ := hQ2
  have K2 : Keep h0 T2.heap [] := by rw [hh2]; exact Keep.refl _ _
  have Nq2 := Fr.nil n0
  have N2 := Fr.app N0 Nq2
  refine Fini.st st2 ?_
  show Fini p e below s _ _ _ T2 (mkF m 35 #[.val (.ref o0)] [(.ref el)])
  refine Fini.st (fun _ k => XS.goto X2.here hx rfl (pc0 := 35) (pc' := 75) rfl (hb hby d7_35) (by decide) (by decide) k) ?_
  show Fini p e below s _ _ _ T2 (mkF m 75 #[.val (.ref o0)] [(.ref el)])
  have Kp_3 : Keep h0 T2.heap [] := (Keep.trans (Keep.refl h0 []) K2 all0)
  exact Fini.retA X2 hx hlk Bd.returns rfl (hb hby d7_75) rfl rfl (by decide) (by decide) ⟨rfl, Kp_3, N2⟩
theorem d10_0 : decode jdk_31_method_11_code 0 = .ok (.aload_n 0, 1) := by decide +kernel
theorem d10_1 : decode jdk_31_method_11_code 1 = .ok (.ifnonnull 12, 3) := by decide +kernel
theorem d10_13 : decode jdk_31_method_11_code 13 = .ok (.aload_n 0, 1) := by decide +kernel
theorem d10_14 : decode jdk_31_method_11_code 14 = .ok (.areturn, 1) := by decide +kernel
theorem pn_5 : plainName "java/util/Objects" = true := by first | (simp [plainName, overriddenIn]; done) | decide +kernel
theorem ef10 (m : MethodId) (x0 : Addr) (x1 : Addr) : entryFrame m #[(.ref x0), (.ref x1)] 2 = mkF m 0 #[.val (.ref x0), .val (.ref x1)] [] := by first | (simp [entryFrame, mkF, argsToLocals, Value.category]; done) | rfl
set_option maxRecDepth 65536 in
set_option maxHeartbeats 40000000 in
theorem rm10 (l : Launch) (Z : State) (a0 : Array Value) (hw : ∀ d ∈ tables_1, d.before a0 Z = true) (ws : List Jvm.Cond) (o0 : Addr) (o1 : Addr) (h0 : Heap) (n0 : Nat) (Z0 : n0 ≤ h0.size) :
    Cmet l Z (⟨"java/util/Objects", "requireNonNull", "(Ljava/lang/Object;Ljava/lang/String;)Ljava/lang/Object;"⟩ : MethodName) jdk_31_method_11_code 2 (some (.object "java/lang/Object")) ws ({ frames := 0, cells := 0, slots := 0, locals := 0 } : Room) #[(.ref o0), (.ref o1)] h0 (fun v h' L => v = some (.ref o0) ∧ h' = h0 ∧ L = []) := by
  refine MetFree.of_bodySF (plainFor_of_name pn_5) hisR ?_
  intro p e s m args below meth c s₁ Bd hml0 hP hK
  obtain ⟨rfl, hZ, hh⟩ := hP
  have hx := Bd.exec
  have hlk : meth.locks = false := BodyLoose.notSynchronized Bd
  have hby := Bd.bytes
  have hml : c.maxLocals = 2 := hml0
  have hown : s.vm.findClass "java/util/Objects" = some m.cls := findClass_of_methodNamed Bd.named
  have hnm := (name_of_methodNamed Bd.named Bd.method).1
  have X0 : Stand p l e ({ frames := 0, cells := 0, slots := 0, locals := 0 } : Room) s m #[(.ref o0), (.ref o1)] below meth c s₁ [] 0 0 := Stand.of_body Bd
  have e0 : s₁.heap = h0 := by rw [← hh, Bd.state]; rfl
  have N0 := Fr.nil n0
  show Fini p e below s (fun v h' L => v = some (.ref o0) ∧ h' = h0 ∧ L = []) _ _ s₁ (entryFrame m #[(.ref o0), (.ref o1)] 2)
  refine Fini.cast (ef10 m o0 o1) ?_
  show Fini p e below s _ _ _ s₁ (mkF m 0 #[.val (.ref o0), .val (.ref o1)] [])
  refine Fini.st (fun _ k => XS.aloadN X0.here hx rfl (hb hby d10_0) rfl rfl k) ?_
  show Fini p e below s _ _ _ s₁ (mkF m 1 #[.val (.ref o0), .val (.ref o1)] [(.ref o0)])
  refine Fini.st (fun _ k => XS.ifnonnullYes X0.here hx rfl (pc0 := 1) (pc' := 13) rfl (hb hby d10_1) rfl (by decide) (by decide) k) ?_
  show Fini p e below s _ _ _ s₁ (mkF m 13 #[.val (.ref o0), .val (.ref o1)] [])
  refine Fini.st (fun _ k => XS.aloadN X0.here hx rfl (hb hby d10_13) rfl rfl k) ?_
  show Fini p e below s _ _ _ s₁ (mkF m 14 #[.val (.ref o0), .val (.ref o1)] [(.ref o0)])
  exact Fini.retA X0 hx hlk Bd.returns rfl (hb hby d10_14) rfl rfl (by decide) (by decide) ⟨rfl, e0, rfl⟩
theorem pd_3 : parseMethodDescriptor "(Ljava/util/List;)Ljava/util/List;" = some ⟨[(.object "java/util/List")], some (.object "java/util/List")⟩ := by decide +kernel
theorem pd_4 : parseMethodDescriptor "(Ljava/lang/Object;Ljava/lang/String;)Ljava/lang/Object;" = some ⟨[(.object "java/lang/Object"), (.object "java/lang/String")], some (.object "java/lang/Object")⟩ := by decide +kernel
theorem d6_0 : decode prog_35_method_3_code 0 = .ok (.aload_n 0, 1) := by decide +kernel
theorem d6_1 : decode prog_35_method_3_code 1 = .ok (.invokespecial 19, 3) := by decide +kernel
theorem d6_4 : decode prog_35_method_3_code 4 = .ok (.aload_n 0, 1) := by decide +kernel
theorem d6_5 : decode prog_35_method_3_code 5 = .ok (.lload_n 2, 1) := by decide +kernel
theorem d6_6 : decode prog_35_method_3_code 6 = .ok (.putfield 24, 3) := by decide +kernel
theorem d6_9 : decode prog_35_method_3_code 9 = .ok (.aload_n 0, 1) := by decide +kernel
theorem d6_10 : decode prog_35_method_3_code 10 = .ok (.aload_n 1, 1) := by decide +kernel
theorem d6_11 : decode prog_35_method_3_code 11 = .ok (.putfield 28, 3) := by decide +kernel
theorem d6_14 : decode prog_35_method_3_code 14 = .ok (.aload_n 0, 1) := by decide +kernel
theorem d6_15 : decode prog_35_method_3_code 15 = .ok (.aload 4, 2) := by decide +kernel
theorem d6_17 : decode prog_35_method_3_code 17 = .ok (.invokestatic 31, 3) := by decide +kernel
theorem d6_20 : decode prog_35_method_3_code 20 = .ok (.putfield 37, 3) := by decide +kernel
theorem d6_23 : decode prog_35_method_3_code 23 = .ok (.aload_n 0, 1) := by decide +kernel
theorem d6_24 : decode prog_35_method_3_code 24 = .ok (.aload 5, 2) := by decide +kernel
theorem d6_26 : decode prog_35_method_3_code 26 = .ok (.ldc 41, 2) := by decide +kernel
theorem d6_28 : decode prog_35_method_3_code 28 = .ok (.invokestatic 43, 3) := by decide +kernel
theorem d6_31 : decode prog_35_method_3_code 31 = .ok (.checkcast 49, 3) := by decide +kernel
theorem d6_34 : decode prog_35_method_3_code 34 = .ok (.putfield 51, 3) := by decide +kernel
theorem d6_37 : decode prog_35_method_3_code 37 = .ok (.return_, 1) := by decide +kernel
theorem pn_6 : plainName "com/example/mapcodex/mapcodex/osm/Way" = true := by first | (simp [plainName, overriddenIn]; done) | decide +kernel
theorem ef6 (m : MethodId) (x0 : Addr) (x1 : Addr) (x2 : Int64) (x3 : Addr) (x4 : Addr) : entryFrame m #[(.ref x0), (.ref x1), (.long x2), (.ref x3), (.ref x4)] 6 = mkF m 0 #[.val (.ref x0), .val (.ref x1), .val (.long x2), .second, .val (.ref x3), .val (.ref x4)] [] := by first | (simp [entryFrame, mkF, argsToLocals, Value.category]; done) | rfl
set_option maxRecDepth 65536 in
set_option maxHeartbeats 40000000 in
theorem rm6 (l : Launch) (Z : State) (a0 : Array Value) (hw : ∀ d ∈ tables_1, d.before a0 Z = true) (ws : List Jvm.Cond) (o0 : Addr) (o1 : Addr) (q2 : Int64) (o3 : Addr) (o4 : Addr) (el : Addr) (h0 : Heap) (n0 : Nat) (Z0 : n0 ≤ h0.size) (E_o0 : Exa Z h0 o0 "com/example/mapcodex/mapcodex/osm/Way") (F_id : Fld Z h0 o0 "com/example/mapcodex/mapcodex/osm/Way" "id" "J" (.long (0 : Int64))) (F_nodes : Fld Z h0 o0 "com/example/mapcodex/mapcodex/osm/Way" "nodes" "[J" .null) (F_tags : Fld Z h0 o0 "com/example/mapcodex/mapcodex/osm/Way" "tags" "Ljava/util/List;" .null) (F_md : Fld Z h0 o0 "com/example/mapcodex/mapcodex/osm/Way" "metadata" "Lcom/example/mapcodex/mapcodex/osm/Metadata;" .null) (E_o3 : Exa Z h0 o3 "java/util/ArrayList") (F_sz : Fld Z h0 o3 "java/util/ArrayList" "size" "I" (.int (0 : Int32))) (E_o4 : Exa Z h0 o4 "com/example/mapcodex/mapcodex/osm/Metadata") (D0 : Old Z n0 h0) (S_el : Sta Z Z.heap "java/util/ImmutableCollections" "EMPTY_LIST" "Ljava/util/ImmutableCollections$ListN;" (.ref el)) (g0 : n0 ≤ o0) (ne3 : o3 ≠ o0) :
    CmetW l Z (⟨"com/example/mapcodex/mapcodex/osm/Way", "<init>", "([JJLjava/util/List;Lcom/example/mapcodex/mapcodex/osm/Metadata;)V"⟩ : MethodName) prog_35_method_3_code 6 none ws ({ frames := 2, cells := 2, slots := 36, locals := 25 } : Room) #[(.ref o0), (.ref o1), (.long q2), (.ref o3), (.ref o4)] h0 (fun v h' L => v = none ∧ Fr n0 L ∧ Keep h0 h' [o0]) := by
  refine MetFree.of_bodySF (plainFor_of_name pn_6) hisR ?_
  intro p e s m args below meth c s₁ Bd hml0 hP hK
  obtain ⟨rfl, hZ, hh⟩ := hP
  have hx := Bd.exec
  have hlk : meth.locks = false := BodyLoose.notSynchronized Bd
  have hby := Bd.bytes
  have hml : c.maxLocals = 6 := hml0
  have hown : s.vm.findClass "com/example/mapcodex/mapcodex/osm/Way" = some m.cls := findClass_of_methodNamed Bd.named
  have hnm := (name_of_methodNamed Bd.named Bd.method).1
  have X0 : Stand p l e ({ frames := 2, cells := 2, slots := 36, locals := 25 } : Room) (s.setVm s.vm) m #[(.ref o0), (.ref o1), (.long q2), (.ref o3), (.ref o4)] below meth c s₁ [] 0 0 := Stand.of_body Bd
  have e0 : s₁.heap = h0 := by rw [← hh, Bd.state]; rfl
  have N0 := Fr.nil n0
  have hS0 : s.Since s.vm 0 := (State.WarmedH.refl s).since 0
  show FiniW p e below s (fun v h' L => v = none ∧ Fr n0 L ∧ Keep h0 h' [o0]) _ _ s₁ (entryFrame m #[(.ref o0), (.ref o1), (.long q2), (.ref o3), (.ref o4)] 6)
  refine FiniW.cast (ef6 m o0 o1 q2 o3 o4) ?_
  show FiniW p e below s _ _ _ s₁ (mkF m 0 #[.val (.ref o0), .val (.ref o1), .val (.long q2), .second, .val (.ref o3), .val (.ref o4)] [])
  refine FiniW.st (fun _ k => XS.aloadN X0.here hx rfl (hb hby d6_0) rfl rfl k) ?_
  show FiniW p e below s _ _ _ s₁ (mkF m 1 #[.val (.ref o0), .val (.ref o1), .val (.long q2), .second, .val (.ref o3), .val (.ref o4)] [(.ref o0)])
  obtain ⟨T1, X1, e1, st1⟩ := initO X0 hx hZ hown (hw _ (List.mem_of_getElem? (i := 48) rfl)) (hw _ (List.mem_of_getElem? (i := 23) rfl)) (hw _ (List.mem_of_getElem? (i := 24) rfl)) e0 (g := (mkF m 1 #[.val (.ref o0), .val (.ref o1), .val (.long q2), .second, .val (.ref o3), .val (.ref o4)] [(.ref o0)])) rfl (by rw [hml]; rfl) rfl (hb hby d6_1) (by decide) (W := 0) (by show 2 * 0 + _ ≤ _; exact Nat.le_of_eq rfl) (by decide)
  refine FiniW.st st1 ?_
  show FiniW p e below s _ _ _ T1 (mkF m 4 #[.val (.ref o0), .val (.ref o1), .val (.long q2), .second, .val (.ref o3), .val (.ref o4)] [])
  refine FiniW.st (fun _ k => XS.aloadN X1.here hx rfl (hb hby d6_4) rfl rfl k) ?_
  show FiniW p e below s _ _ _ T1 (mkF m 5 #[.val (.ref o0), .val (.ref o1), .val (.long q2), .second, .val (.ref o3), .val (.ref o4)] [(.ref o0)])
  refine FiniW.st (fun _ k => XS.lloadN X1.here hx rfl (hb hby d6_5) rfl k) ?_
  show FiniW p e below s _ _ _ T1 (mkF m 6 #[.val (.ref o0), .val (.ref o1), .val (.long q2), .second, .val (.ref o3), .val (.ref o4)] [(.long q2), (.ref o0)])
  obtain ⟨T2, h2, X2, e2, W2, st2⟩ := putF X1 hx hZ hown (host := "") (Or.inl (hw _ (List.mem_of_getElem? (i := 49) rfl))) Via.refl e1 F_id E_o0 (Or.inr ⟨(hw _ (List.mem_of_getElem? (i := 50) rfl)), rfl, hnm⟩) (hw _ (List.mem_of_getElem? (i := 2) rfl)) (ty := .long) (by decide) rfl rfl (g := (mkF m 6 #[.val (.ref o0), .val (.ref o1), .val (.long q2), .second, .val (.ref o3), .val (.ref o4)] [(.long q2), (.ref o0)])) rfl rfl (hb hby d6_6)
  have Fw2 : Fld Z h2 o0 "com/example/mapcodex/mapcodex/osm/Way" "id" "J" (.long q2) := F_id.same W2
  refine FiniW.st st2 ?_
  have N2 := Fr.snoc X2 N0 g0
  show FiniW p e below s _ _ _ T2 (mkF m 9 #[.val (.ref o0), .val (.ref o1), .val (.long q2), .second, .val (.ref o3), .val (.ref o4)] [])
  refine FiniW.st (fun _ k => XS.aloadN X2.here hx rfl (hb hby d6_9) rfl rfl k) ?_
  show FiniW p e below s _ _ _ T2 (mkF m 10 #[.val (.ref o0), .val (.ref o1), .val (.long q2), .second, .val (.ref o3), .val (.ref o4)] [(.ref o0)])
  refine FiniW.st (fun _ k => XS.aloadN X2.here hx rfl (hb hby d6_10) rfl rfl k) ?_
  show FiniW p e below s _ _ _ T2 (mkF m 11 #[.val (.ref o0), .val (.ref o1), .val (.long q2), .second, .val (.ref o3), .val (.ref o4)] [(.ref o1), (.ref o0)])
  have F_4 : Fld Z h2 o0 "com/example/mapcodex/mapcodex/osm/Way" "nodes" "[J" .null := (F_nodes.other W2 (Or.inr (slot_ne (Or.inr (hw _ (List.mem_of_getElem? (i := 52) rfl))) (Or.inr (hw _ (List.mem_of_getElem? (i := 50) rfl))) (by decide) (t := (.array .long)) (t' := .long) (by decide) (by decide))))
  have Ex_5 : Exa Z h2 o0 "com/example/mapcodex/mapcodex/osm/Way" := (E_o0.wr W2)
  obtain ⟨T3, h3, X3, e3, W3, st3⟩ := putF X2 hx hZ hown (host := "") (Or.inl (hw _ (List.mem_of_getElem? (i := 51) rfl))) Via.refl e2 F_4 Ex_5 (Or.inr ⟨(hw _ (List.mem_of_getElem? (i := 52) rfl)), rfl, hnm⟩) (hw _ (List.mem_of_getElem? (i := 2) rfl)) (ty := (.array .long)) (by decide) rfl rfl (g := (mkF m 11 #[.val (.ref o0), .val (.ref o1), .val (.long q2), .second, .val (.ref o3), .val (.ref o4)] [(.ref o1), (.ref o0)])) rfl rfl (hb hby d6_11)
  have Fw3 : Fld Z h3 o0 "com/example/mapcodex/mapcodex/osm/Way" "nodes" "[J" (.ref o1) := F_4.same W3
  refine FiniW.st st3 ?_
  have N3 := Fr.snoc X3 N2 g0
  show FiniW p e below s _ _ _ T3 (mkF m 14 #[.val (.ref o0), .val (.ref o1), .val (.long q2), .second, .val (.ref o3), .val (.ref o4)] [])
  refine FiniW.st (fun _ k => XS.aloadN X3.here hx rfl (hb hby d6_14) rfl rfl k) ?_
  show FiniW p e below s _ _ _ T3 (mkF m 15 #[.val (.ref o0), .val (.ref o1), .val (.long q2), .second, .val (.ref o3), .val (.ref o4)] [(.ref o0)])
  refine FiniW.st (fun _ k => XS.aload X3.here hx rfl (hb hby d6_15) rfl rfl k) ?_
  show FiniW p e below s _ _ _ T3 (mkF m 17 #[.val (.ref o0), .val (.ref o1), .val (.long q2), .second, .val (.ref o3), .val (.ref o4)] [(.ref o3), (.ref o0)])
  have Zs_7 : n0 ≤ h3.size := (Nat.le_trans (Nat.le_trans Z0 (Nat.le_of_eq W2.size.symm)) (Nat.le_of_eq W3.size.symm))
  have Ex_8 : Exa Z h3 o3 "java/util/ArrayList" := ((E_o3.wr W2).wr W3)
  have F_9 : Fld Z h3 o3 "java/util/ArrayList" "size" "I" (.int (0 : Int32)) := ((F_sz.other W2 (Or.inl ne3)).other W3 (Or.inl ne3))
  have Od_10 : Old Z n0 h3 := (Old.wr (Old.wr D0 W2 g0) W3 g0)
  obtain ⟨v6, T6, L6, X6, hQ6, st6⟩ := callQ X3 hx hZ hown (hw _ (List.mem_of_getElem? (i := 53) rfl)) (hw _ (List.mem_of_getElem? (i := 54) rfl)) (hw _ (List.mem_of_getElem? (i := 55) rfl)) (hw _ (List.mem_of_getElem? (i := 56) rfl)) (by decide) (rm7 l Z a0 hw [] o3 el h3 n0 Zs_7 Ex_8 F_9 Od_10 S_el) e3 (W := 1) (by decide) (by decide) (by decide) (by decide) (g := (mkF m 17 #[.val (.ref o0), .val (.ref o1), .val (.long q2), .second, .val (.ref o3), .val (.ref o4)] [(.ref o3), (.ref o0)])) rfl (by rw [hml]; rfl) (argsL := [(.ref o3)]) (rest := [(.ref o0)]) rfl (lenOf pd_3 rfl) rfl (by show 2 * 0 + _ ≤ _; exact Nat.le_of_eq rfl) (hb hby d6_17)
  obtain ⟨rfl, K6, Nq6⟩ := hQ6
  have N6 := Fr.app N3 Nq6
  refine FiniW.st st6 ?_
  show FiniW p e below s _ _ _ T6 (mkF m 20 #[.val (.ref o0), .val (.ref o1), .val (.long q2), .second, .val (.ref o3), .val (.ref o4)] [(.ref el), (.ref o0)])
  have F_12 : Fld Z T6.heap o0 "com/example/mapcodex/mapcodex/osm/Way" "tags" "Ljava/util/List;" .null := (((F_tags.other W2 (Or.inr (slot_ne (Or.inr (hw _ (List.mem_of_getElem? (i := 75) rfl))) (Or.inr (hw _ (List.mem_of_getElem? (i := 50) rfl))) (by decide) (t := (.object "java/util/List")) (t' := .long) (by decide) (by decide)))).other W3 (Or.inr (slot_ne (Or.inr (hw _ (List.mem_of_getElem? (i := 75) rfl))) (Or.inr (hw _ (List.mem_of_getElem? (i := 52) rfl))) (by decide) (t := (.object "java/util/List")) (t' := (.array .long)) (by decide) (by decide)))).keep K6 nin0)
  have Ex_13 : Exa Z T6.heap o0 "com/example/mapcodex/mapcodex/osm/Way" := ((Ex_5.wr W3).keep K6)
  obtain ⟨T11, h11, X11, e11, W11, st11⟩ := putF X6 hx hZ hown (host := "") (Or.inl (hw _ (List.mem_of_getElem? (i := 74) rfl))) Via.refl rfl F_12 Ex_13 (Or.inr ⟨(hw _ (List.mem_of_getElem? (i := 75) rfl)), rfl, hnm⟩) (hw _ (List.mem_of_getElem? (i := 2) rfl)) (ty := (.object "java/util/List")) (by decide) rfl rfl (g := (mkF m 20 #[.val (.ref o0), .val (.ref o1), .val (.long q2), .second, .val (.ref o3), .val (.ref o4)] [(.ref el), (.ref o0)])) rfl rfl (hb hby d6_20)
  have Fw11 : Fld Z h11 o0 "com/example/mapcodex/mapcodex/osm/Way" "tags" "Ljava/util/List;" (.ref el) := F_12.same W11
  refine FiniW.st st11 ?_
  have N11 := Fr.snoc X11 N6 g0
  show FiniW p e below s _ _ _ T11 (mkF m 23 #[.val (.ref o0), .val (.ref o1), .val (.long q2), .second, .val (.ref o3), .val (.ref o4)] [])
  refine FiniW.st (fun _ k => XS.aloadN X11.here hx rfl (hb hby d6_23) rfl rfl k) ?_
  show FiniW p e below s _ _ _ T11 (mkF m 24 #[.val (.ref o0), .val (.ref o1), .val (.long q2), .second, .val (.ref o3), .val (.ref o4)] [(.ref o0)])
  refine FiniW.st (fun _ k => XS.aload X11.here hx rfl (hb hby d6_24) rfl rfl k) ?_
  show FiniW p e below s _ _ _ T11 (mkF m 26 #[.val (.ref o0), .val (.ref o1), .val (.long q2), .second, .val (.ref o3), .val (.ref o4)] [(.ref o4), (.ref o0)])
  have Zs_15 : 0 ≤ h11.size := (Nat.le_trans (Nat.le_trans (Nat.le_trans (Nat.le_trans (Nat.zero_le _) (Nat.le_of_eq W2.size.symm)) (Nat.le_of_eq W3.size.symm)) K6.1) (Nat.le_of_eq W11.size.symm))
  obtain ⟨a14, T14, h14, k14, X14, e14, E14, hS14, hk14, hZ14, hown14, st14⟩ := ldcS X11 hx hZ hown (hw _ (List.mem_of_getElem? (i := 76) rfl)) (own_wS hw) e11 hS0 Zs_15 (g := (mkF m 26 #[.val (.ref o0), .val (.ref o1), .val (.long q2), .second, .val (.ref o3), .val (.ref o4)] [(.ref o4), (.ref o0)])) rfl (hb hby d6_26) (n := 32) (by decide) (by decide) (by decide) (by decide)
  refine FiniW.st st14 ?_
  have hZ := hZ14
  have hown := hown14
  show FiniW p e below s _ _ _ T14 (mkF m 28 #[.val (.ref o0), .val (.ref o1), .val (.long q2), .second, .val (.ref o3), .val (.ref o4)] [(.ref a14), (.ref o4), (.ref o0)])
  have Zs_17 : n0 ≤ h14.size := (Nat.le_trans (Nat.le_trans (Nat.le_trans Zs_7 K6.1) (Nat.le_of_eq W11.size.symm)) E14.1)
  obtain ⟨v16, T16, L16, X16, hQ16, st16⟩ := callQ X14 hx hZ hown (hw _ (List.mem_of_getElem? (i := 84) rfl)) (hw _ (List.mem_of_getElem? (i := 85) rfl)) (hw _ (List.mem_of_getElem? (i := 86) rfl)) (hw _ (List.mem_of_getElem? (i := 87) rfl)) (by decide) (rm10 l Z a0 hw [] o4 a14 h14 n0 Zs_17) e14 (W := 1) (by decide) (by decide) (by decide) (by decide) (g := (mkF m 28 #[.val (.ref o0), .val (.ref o1), .val (.long q2), .second, .val (.ref o3), .val (.ref o4)] [(.ref a14), (.ref o4), (.ref o0)])) rfl (by rw [hml]; rfl) (argsL := [(.ref o4), (.ref a14)]) (rest := [(.ref o0)]) rfl (lenOf pd_4 rfl) rfl (by show 2 * 0 + _ ≤ _; exact Nat.le_of_eq rfl) (hb hby d6_28)
  obtain ⟨rfl, hh16, rfl⟩ := hQ16
  have K16 : Keep h14 T16.heap [] := by rw [hh16]; exact Keep.refl _ _
  have Nq16 := Fr.nil n0
  have N16 := Fr.app N11 Nq16
  refine FiniW.st st16 ?_
  show FiniW p e below s _ _ _ T16 (mkF m 31 #[.val (.ref o0), .val (.ref o1), .val (.long q2), .second, .val (.ref o3), .val (.ref o4)] [(.ref o4), (.ref o0)])
  have Ex_19 : Exa Z T16.heap o4 "com/example/mapcodex/mapcodex/osm/Metadata" := ((((((E_o4.wr W2).wr W3).keep K6).wr W11).ext E14).keep K16)
  obtain ⟨T18, X18, e18, st18⟩ := castY X16 hx hZ hown (hw _ (List.mem_of_getElem? (i := 88) rfl)) rfl (Ins.self Ex_19) (g := (mkF m 31 #[.val (.ref o0), .val (.ref o1), .val (.long q2), .second, .val (.ref o3), .val (.ref o4)] [(.ref o4), (.ref o0)])) rfl rfl (hb hby d6_31)
  refine FiniW.st st18 ?_
  show FiniW p e below s _ _ _ T18 (mkF m 34 #[.val (.ref o0), .val (.ref o1), .val (.long q2), .second, .val (.ref o3), .val (.ref o4)] [(.ref o4), (.ref o0)])
  have F_21 : Fld Z T16.heap o0 "com/example/mapcodex/mapcodex/osm/Way" "metadata" "Lcom/example/mapcodex/mapcodex/osm/Metadata;" .null := ((((((F_md.other W2 (Or.inr (slot_ne (Or.inr (hw _ (List.mem_of_getElem? (i := 91) rfl))) (Or.inr (hw _ (List.mem_of_getElem? (i := 50) rfl))) (by decide) (t := (.object "com/example/mapcodex/mapcodex/osm/Metadata")) (t' := .long) (by decide) (by decide)))).other W3 (Or.inr (slot_ne (Or.inr (hw _ (List.mem_of_getElem? (i := 91) rfl))) (Or.inr (hw _ (List.mem_of_getElem? (i := 52) rfl))) (by decide) (t := (.object "com/example/mapcodex/mapcodex/osm/Metadata")) (t' := (.array .long)) (by decide) (by decide)))).keep K6 nin0).other W11 (Or.inr (slot_ne (Or.inr (hw _ (List.mem_of_getElem? (i := 91) rfl))) (Or.inr (hw _ (List.mem_of_getElem? (i := 75) rfl))) (by decide) (t := (.object "com/example/mapcodex/mapcodex/osm/Metadata")) (t' := (.object "java/util/List")) (by decide) (by decide)))).ext E14).keep K16 nin0)
  have Ex_22 : Exa Z T16.heap o0 "com/example/mapcodex/mapcodex/osm/Way" := (((Ex_13.wr W11).ext E14).keep K16)
  obtain ⟨T20, h20, X20, e20, W20, st20⟩ := putF X18 hx hZ hown (host := "") (Or.inl (hw _ (List.mem_of_getElem? (i := 90) rfl))) Via.refl e18 F_21 Ex_22 (Or.inr ⟨(hw _ (List.mem_of_getElem? (i := 91) rfl)), rfl, hnm⟩) (hw _ (List.mem_of_getElem? (i := 2) rfl)) (ty := (.object "com/example/mapcodex/mapcodex/osm/Metadata")) (by decide) rfl rfl (g := (mkF m 34 #[.val (.ref o0), .val (.ref o1), .val (.long q2), .second, .val (.ref o3), .val (.ref o4)] [(.ref o4), (.ref o0)])) rfl rfl (hb hby d6_34)
  have Fw20 : Fld Z h20 o0 "com/example/mapcodex/mapcodex/osm/Way" "metadata" "Lcom/example/mapcodex/mapcodex/osm/Metadata;" (.ref o4) := F_21.same W20
  refine FiniW.st st20 ?_
  have N20 := Fr.snoc X20 N16 g0
  show FiniW p e below s _ _ _ T20 (mkF m 37 #[.val (.ref o0), .val (.ref o1), .val (.long q2), .second, .val (.ref o3), .val (.ref o4)] [])
  have Kp_23 : Keep h0 h20 [o0] := (Keep.wr (Keep.trans (Keep.ext (Keep.wr (Keep.trans (Keep.wr (Keep.wr (Keep.refl h0 [o0]) W2 (Or.inl (List.mem_of_getElem? (i := 0) rfl))) W3 (Or.inl (List.mem_of_getElem? (i := 0) rfl))) K6 all0) W11 (Or.inl (List.mem_of_getElem? (i := 0) rfl))) E14) K16 all0) W20 (Or.inl (List.mem_of_getElem? (i := 0) rfl)))
  have Zs_24 : k14 ≤ h20.size := (Nat.le_trans (Nat.le_trans hk14 K16.1) (Nat.le_of_eq W20.size.symm))
  exact FiniW.ret0 X20 hx hlk Bd.returns (hb hby d6_37) hS14 (by rw [e20]; exact Zs_24) (by decide) (by decide) ⟨rfl, N20, (by rw [e20]; exact Kp_23)⟩
theorem pd_5 : parseMethodDescriptor "([JJLjava/util/List;Lcom/example/mapcodex/mapcodex/osm/Metadata;)V" = some ⟨[(.array .long), .long, (.object "java/util/List"), (.object "com/example/mapcodex/mapcodex/osm/Metadata")], none⟩ := by decide +kernel
theorem d5_0 : decode prog_35_method_1_code 0 = .ok (.aload_n 0, 1) := by decide +kernel
theorem d5_1 : decode prog_35_method_1_code 1 = .ok (.aload_n 3, 1) := by decide +kernel
theorem d5_2 : decode prog_35_method_1_code 2 = .ok (.invokevirtual 1, 3) := by decide +kernel
theorem d5_5 : decode prog_35_method_1_code 5 = .ok (.checkcast 2, 3) := by decide +kernel
theorem d5_8 : decode prog_35_method_1_code 8 = .ok (.lload_n 1, 1) := by decide +kernel
theorem d5_9 : decode prog_35_method_1_code 9 = .ok (.aload 4, 2) := by decide +kernel
theorem d5_11 : decode prog_35_method_1_code 11 = .ok (.aload 5, 2) := by decide +kernel
theorem d5_13 : decode prog_35_method_1_code 13 = .ok (.invokespecial 7, 3) := by decide +kernel
theorem d5_16 : decode prog_35_method_1_code 16 = .ok (.return_, 1) := by decide +kernel
theorem ef5 (m : MethodId) (x0 : Addr) (x1 : Int64) (x2 : Addr) (x3 : Addr) (x4 : Addr) : entryFrame m #[(.ref x0), (.long x1), (.ref x2), (.ref x3), (.ref x4)] 6 = mkF m 0 #[.val (.ref x0), .val (.long x1), .second, .val (.ref x2), .val (.ref x3), .val (.ref x4)] [] := by first | (simp [entryFrame, mkF, argsToLocals, Value.category]; done) | rfl
set_option maxRecDepth 65536 in
set_option maxHeartbeats 40000000 in
theorem rm5 (l : Launch) (Z : State) (a0 : Array Value) (hw : ∀ d ∈ tables_1, d.before a0 Z = true) (ws : List Jvm.Cond) (o0 : Addr) (q1 : Int64) (o2 : Addr) (o3 : Addr) (o4 : Addr) (el : Addr) (u : Nat → Int64) (h0 : Heap) (n0 : Nat) (Z0 : n0 ≤ h0.size) (E_o0 : Exa Z h0 o0 "com/example/mapcodex/mapcodex/osm/Way") (F_id : Fld Z h0 o0 "com/example/mapcodex/mapcodex/osm/Way" "id" "J" (.long (0 : Int64))) (F_nodes : Fld Z h0 o0 "com/example/mapcodex/mapcodex/osm/Way" "nodes" "[J" .null) (F_tags : Fld Z h0 o0 "com/example/mapcodex/mapcodex/osm/Way" "tags" "Ljava/util/List;" .null) (F_md : Fld Z h0 o0 "com/example/mapcodex/mapcodex/osm/Way" "metadata" "Lcom/example/mapcodex/mapcodex/osm/Metadata;" .null) (E_o2 : Exa Z h0 o2 "[J") (A_o2 : AryJ Z h0 o2 (0 : Int32) u) (E_o3 : Exa Z h0 o3 "java/util/ArrayList") (F_sz : Fld Z h0 o3 "java/util/ArrayList" "size" "I" (.int (0 : Int32))) (E_o4 : Exa Z h0 o4 "com/example/mapcodex/mapcodex/osm/Metadata") (D0 : Old Z n0 h0) (S_el : Sta Z Z.heap "java/util/ImmutableCollections" "EMPTY_LIST" "Ljava/util/ImmutableCollections$ListN;" (.ref el)) (g0 : n0 ≤ o0) (ne3 : o3 ≠ o0) :
    CmetW l Z (⟨"com/example/mapcodex/mapcodex/osm/Way", "<init>", "(J[JLjava/util/List;Lcom/example/mapcodex/mapcodex/osm/Metadata;)V"⟩ : MethodName) prog_35_method_1_code 6 none ws ({ frames := 3, cells := 3, slots := 36, locals := 42 } : Room) #[(.ref o0), (.long q1), (.ref o2), (.ref o3), (.ref o4)] h0 (fun v h' L => v = none ∧ Fr n0 L ∧ Keep h0 h' [o0]) := by
  refine MetFree.of_bodySF (plainFor_of_name pn_6) hisR ?_
  intro p e s m args below meth c s₁ Bd hml0 hP hK
  obtain ⟨rfl, hZ, hh⟩ := hP
  have hx := Bd.exec
  have hlk : meth.locks = false := BodyLoose.notSynchronized Bd
  have hby := Bd.bytes
  have hml : c.maxLocals = 6 := hml0
  have hown : s.vm.findClass "com/example/mapcodex/mapcodex/osm/Way" = some m.cls := findClass_of_methodNamed Bd.named
  have hnm := (name_of_methodNamed Bd.named Bd.method).1
  have X0 : Stand p l e ({ frames := 3, cells := 3, slots := 36, locals := 42 } : Room) (s.setVm s.vm) m #[(.ref o0), (.long q1), (.ref o2), (.ref o3), (.ref o4)] below meth c s₁ [] 0 0 := Stand.of_body Bd
  have e0 : s₁.heap = h0 := by rw [← hh, Bd.state]; rfl
  have N0 := Fr.nil n0
  have hS0 : s.Since s.vm 0 := (State.WarmedH.refl s).since 0
  show FiniW p e below s (fun v h' L => v = none ∧ Fr n0 L ∧ Keep h0 h' [o0]) _ _ s₁ (entryFrame m #[(.ref o0), (.long q1), (.ref o2), (.ref o3), (.ref o4)] 6)
  refine FiniW.cast (ef5 m o0 q1 o2 o3 o4) ?_
  show FiniW p e below s _ _ _ s₁ (mkF m 0 #[.val (.ref o0), .val (.long q1), .second, .val (.ref o2), .val (.ref o3), .val (.ref o4)] [])
  refine FiniW.st (fun _ k => XS.aloadN X0.here hx rfl (hb hby d5_0) rfl rfl k) ?_
  show FiniW p e below s _ _ _ s₁ (mkF m 1 #[.val (.ref o0), .val (.long q1), .second, .val (.ref o2), .val (.ref o3), .val (.ref o4)] [(.ref o0)])
  refine FiniW.st (fun _ k => XS.aloadN X0.here hx rfl (hb hby d5_1) rfl rfl k) ?_
  show FiniW p e below s _ _ _ s₁ (mkF m 2 #[.val (.ref o0), .val (.long q1), .second, .val (.ref o2), .val (.ref o3), .val (.ref o4)] [(.ref o2), (.ref o0)])
  obtain ⟨kc1, Hc1⟩ := AryJ.arh0 A_o2
  obtain ⟨T1, h1, X1, e1, E1, -, Ea1, st1⟩ := cloneH X0 hx hZ hown (hw _ (List.mem_of_getElem? (i := 36) rfl)) (hw _ (List.mem_of_getElem? (i := 37) rfl)) (hw _ (List.mem_of_getElem? (i := 41) rfl)) (hw _ (List.mem_of_getElem? (i := 39) rfl)) (hw _ (List.mem_of_getElem? (i := 40) rfl)) (hw _ (List.mem_of_getElem? (i := 42) rfl)) e0 Hc1 E_o2 (g := (mkF m 2 #[.val (.ref o0), .val (.long q1), .second, .val (.ref o2), .val (.ref o3), .val (.ref o4)] [(.ref o2), (.ref o0)])) rfl (by rw [hml]; rfl) rfl (hb hby d5_2) (by decide) (W := 1) (cap := 0) (by show 2 * 0 + _ ≤ _; exact Nat.le_of_eq rfl) (by decide) (by decide) (by decide) (by decide)
  obtain ⟨b1, g1⟩ : ∃ z, z = h0.size := ⟨_, rfl⟩
  rw [← g1] at Ea1 st1
  have ne_o0_b1 : o0 ≠ b1 := Nat.ne_of_lt (Nat.lt_of_lt_of_le E_o0.lt (Nat.le_of_eq g1.symm))
  have ne_o2_b1 : o2 ≠ b1 := Nat.ne_of_lt (Nat.lt_of_lt_of_le E_o2.lt (Nat.le_of_eq g1.symm))
  have ne_o3_b1 : o3 ≠ b1 := Nat.ne_of_lt (Nat.lt_of_lt_of_le E_o3.lt (Nat.le_of_eq g1.symm))
  have ne_o4_b1 : o4 ≠ b1 := Nat.ne_of_lt (Nat.lt_of_lt_of_le E_o4.lt (Nat.le_of_eq g1.symm))
  have ge_b1 : n0 ≤ b1 := Nat.le_trans Z0 (Nat.le_of_eq g1.symm)
  have sz_b1 : h0.size ≤ b1 := Nat.le_trans (Keep.refl h0 [o0]).1 (Nat.le_of_eq g1.symm)
  refine FiniW.st st1 ?_
  show FiniW p e below s _ _ _ T1 (mkF m 5 #[.val (.ref o0), .val (.long q1), .second, .val (.ref o2), .val (.ref o3), .val (.ref o4)] [(.ref b1), (.ref o0)])
  obtain ⟨T2, X2, e2, st2⟩ := castY X1 hx hZ hown (hw _ (List.mem_of_getElem? (i := 43) rfl)) e1 (Ins.self Ea1) (g := (mkF m 5 #[.val (.ref o0), .val (.long q1), .second, .val (.ref o2), .val (.ref o3), .val (.ref o4)] [(.ref b1), (.ref o0)])) rfl rfl (hb hby d5_5)
  refine FiniW.st st2 ?_
  show FiniW p e below s _ _ _ T2 (mkF m 8 #[.val (.ref o0), .val (.long q1), .second, .val (.ref o2), .val (.ref o3), .val (.ref o4)] [(.ref b1), (.ref o0)])
  refine FiniW.st (fun _ k => XS.lloadN X2.here hx rfl (hb hby d5_8) rfl k) ?_
  show FiniW p e below s _ _ _ T2 (mkF m 9 #[.val (.ref o0), .val (.long q1), .second, .val (.ref o2), .val (.ref o3), .val (.ref o4)] [(.long q1), (.ref b1), (.ref o0)])
  refine FiniW.st (fun _ k => XS.aload X2.here hx rfl (hb hby d5_9) rfl rfl k) ?_
  show FiniW p e below s _ _ _ T2 (mkF m 11 #[.val (.ref o0), .val (.long q1), .second, .val (.ref o2), .val (.ref o3), .val (.ref o4)] [(.ref o3), (.long q1), (.ref b1), (.ref o0)])
  refine FiniW.st (fun _ k => XS.aload X2.here hx rfl (hb hby d5_11) rfl rfl k) ?_
  show FiniW p e below s _ _ _ T2 (mkF m 13 #[.val (.ref o0), .val (.long q1), .second, .val (.ref o2), .val (.ref o3), .val (.ref o4)] [(.ref o4), (.ref o3), (.long q1), (.ref b1), (.ref o0)])
  have Zs_4 : n0 ≤ h1.size := (Nat.le_trans Z0 E1.1)
  have Ex_5 : Exa Z h1 o0 "com/example/mapcodex/mapcodex/osm/Way" := (E_o0.ext E1)
  have F_6 : Fld Z h1 o0 "com/example/mapcodex/mapcodex/osm/Way" "id" "J" (.long (0 : Int64)) := (F_id.ext E1)
  have F_7 : Fld Z h1 o0 "com/example/mapcodex/mapcodex/osm/Way" "nodes" "[J" .null := (F_nodes.ext E1)
  have F_8 : Fld Z h1 o0 "com/example/mapcodex/mapcodex/osm/Way" "tags" "Ljava/util/List;" .null := (F_tags.ext E1)
  have F_9 : Fld Z h1 o0 "com/example/mapcodex/mapcodex/osm/Way" "metadata" "Lcom/example/mapcodex/mapcodex/osm/Metadata;" .null := (F_md.ext E1)
  have Ex_10 : Exa Z h1 o3 "java/util/ArrayList" := (E_o3.ext E1)
  have F_11 : Fld Z h1 o3 "java/util/ArrayList" "size" "I" (.int (0 : Int32)) := (F_sz.ext E1)
  have Ex_12 : Exa Z h1 o4 "com/example/mapcodex/mapcodex/osm/Metadata" := (E_o4.ext E1)
  have Od_13 : Old Z n0 h1 := (Old.ext D0 E1)
  have Zs_14 : 0 ≤ h1.size := (Nat.le_trans (Nat.zero_le _) E1.1)
  obtain ⟨v3, T3, L3, X3, hS3, hZ3, hown3, hQ3, st3⟩ := callNewW X2 hx hZ hown hS0 Zs_14 rfl (hw _ (List.mem_of_getElem? (i := 45) rfl)) (hw _ (List.mem_of_getElem? (i := 46) rfl)) (hw _ (List.mem_of_getElem? (i := 3) rfl)) (hw _ (List.mem_of_getElem? (i := 47) rfl)) (by decide) (rm6 l Z a0 hw [] o0 b1 q1 o3 o4 el h1 n0 Zs_4 Ex_5 F_6 F_7 F_8 F_9 Ex_10 F_11 Ex_12 Od_13 S_el g0 ne3) e2 (W := 0) (by decide) (by decide) (by decide) (by decide) (g := (mkF m 13 #[.val (.ref o0), .val (.long q1), .second, .val (.ref o2), .val (.ref o3), .val (.ref o4)] [(.ref o4), (.ref o3), (.long q1), (.ref b1), (.ref o0)])) rfl (by rw [hml]; rfl) (argsL := [(.ref b1), (.long q1), (.ref o3), (.ref o4)]) (rest := []) rfl (lenOf pd_5 rfl) rfl (by show 2 * 0 + _ ≤ _; exact Nat.le_of_eq rfl) (hb hby d5_13)
  obtain ⟨rfl, Nq3, K3⟩ := hQ3
  have N3 := Fr.app N0 Nq3
  have hZ := hZ3
  have hown := hown3
  refine FiniW.st st3 ?_
  show FiniW p e below s _ _ _ T3 (mkF m 16 #[.val (.ref o0), .val (.long q1), .second, .val (.ref o2), .val (.ref o3), .val (.ref o4)] [])
  have Kp_15 : Keep h0 T3.heap [o0] := (Keep.trans (Keep.ext (Keep.refl h0 [o0]) E1) K3 (allS (P := fun x => x ∈ _ ∨ _ ≤ x) (Or.inl (List.mem_of_getElem? (i := 0) rfl)) all0))
  exact FiniW.ret0 X3 hx hlk Bd.returns (hb hby d5_16) hS3 (Nat.le_refl T3.heap.size) (by decide) (by decide) ⟨rfl, N3, Kp_15⟩
theorem d11_0 : decode prog_49_method_1_code 0 = .ok (.aload_n 0, 1) := by decide +kernel
theorem d11_1 : decode prog_49_method_1_code 1 = .ok (.invokespecial 1, 3) := by decide +kernel
theorem d11_4 : decode prog_49_method_1_code 4 = .ok (.aload_n 0, 1) := by decide +kernel
theorem d11_5 : decode prog_49_method_1_code 5 = .ok (.sipush 4096, 3) := by decide +kernel
theorem d11_8 : decode prog_49_method_1_code 8 = .ok (.anewarray 2, 3) := by decide +kernel
theorem d11_11 : decode prog_49_method_1_code 11 = .ok (.putfield 9, 3) := by decide +kernel
theorem d11_14 : decode prog_49_method_1_code 14 = .ok (.return_, 1) := by decide +kernel
theorem pn_7 : plainName "com/example/mapcodex/mapcodex/pbf/ObjectBatch" = true := by first | (simp [plainName, overriddenIn]; done) | decide +kernel
theorem ef11 (m : MethodId) (x0 : Addr) : entryFrame m #[(.ref x0)] 1 = mkF m 0 #[.val (.ref x0)] [] := by first | (simp [entryFrame, mkF, argsToLocals, Value.category]; done) | rfl
set_option maxRecDepth 65536 in
set_option maxHeartbeats 40000000 in
theorem rm11 (l : Launch) (Z : State) (a0 : Array Value) (hw : ∀ d ∈ tables_1, d.before a0 Z = true) (ws : List Jvm.Cond) (o0 : Addr) (n : Int32) (q : Int64) (hd : Int32) (h0 : Heap) (n0 : Nat) (Z0 : n0 ≤ h0.size) (E_o0 : Exa Z h0 o0 "com/example/mapcodex/mapcodex/pbf/ObjectBatch") (F_objects : Fld Z h0 o0 "com/example/mapcodex/mapcodex/pbf/ObjectBatch" "objects" "[Ljava/lang/Object;" .null) (F_size : Fld Z h0 o0 "com/example/mapcodex/mapcodex/pbf/ObjectBatch" "size" "I" (.int n)) (F_values : Fld Z h0 o0 "com/example/mapcodex/mapcodex/pbf/ObjectBatch" "values" "J" (.long q)) (F_handed : Fld Z h0 o0 "com/example/mapcodex/mapcodex/pbf/ObjectBatch" "handed" "I" (.int hd)) (g0 : n0 ≤ o0) :
    Cmet l Z (⟨"com/example/mapcodex/mapcodex/pbf/ObjectBatch", "<init>", "()V"⟩ : MethodName) prog_49_method_1_code 1 none ws ({ frames := 1, cells := 1, slots := 4096, locals := 12 } : Room) #[(.ref o0)] h0 (fun v h' L => v = none ∧ Fr n0 L ∧ Keep h0 h' [o0] ∧ ∃ b, h0.size ≤ b ∧ n0 ≤ b ∧ Fld Z h' o0 "com/example/mapcodex/mapcodex/pbf/ObjectBatch" "objects" "[Ljava/lang/Object;" (.ref b) ∧ AryR Z h' b "java/lang/Object" (4096 : Int32) (fun _ => .null) ∧ Fld Z h' o0 "com/example/mapcodex/mapcodex/pbf/ObjectBatch" "size" "I" (.int n) ∧ Fld Z h' o0 "com/example/mapcodex/mapcodex/pbf/ObjectBatch" "values" "J" (.long q) ∧ Fld Z h' o0 "com/example/mapcodex/mapcodex/pbf/ObjectBatch" "handed" "I" (.int hd)) := by
  refine MetFree.of_bodySF (plainFor_of_name pn_7) hisR ?_
  intro p e s m args below meth c s₁ Bd hml0 hP hK
  obtain ⟨rfl, hZ, hh⟩ := hP
  have hx := Bd.exec
  have hlk : meth.locks = false := BodyLoose.notSynchronized Bd
  have hby := Bd.bytes
  have hml : c.maxLocals = 1 := hml0
  have hown : s.vm.findClass "com/example/mapcodex/mapcodex/pbf/ObjectBatch" = some m.cls := findClass_of_methodNamed Bd.named
  have hnm := (name_of_methodNamed Bd.named Bd.method).1
  have X0 : Stand p l e ({ frames := 1, cells := 1, slots := 4096, locals := 12 } : Room) s m #[(.ref o0)] below meth c s₁ [] 0 0 := Stand.of_body Bd
  have e0 : s₁.heap = h0 := by rw [← hh, Bd.state]; rfl
  have N0 := Fr.nil n0
  show Fini p e below s (fun v h' L => v = none ∧ Fr n0 L ∧ Keep h0 h' [o0] ∧ ∃ b, h0.size ≤ b ∧ n0 ≤ b ∧ Fld Z h' o0 "com/example/mapcodex/mapcodex/pbf/ObjectBatch" "objects" "[Ljava/lang/Object;" (.ref b) ∧ AryR Z h' b "java/lang/Object" (4096 : Int32) (fun _ => .null) ∧ Fld Z h' o0 "com/example/mapcodex/mapcodex/pbf/ObjectBatch" "size" "I" (.int n) ∧ Fld Z h' o0 "com/example/mapcodex/mapcodex/pbf/ObjectBatch" "values" "J" (.long q) ∧ Fld Z h' o0 "com/example/mapcodex/mapcodex/pbf/ObjectBatch" "handed" "I" (.int hd)) _ _ s₁ (entryFrame m #[(.ref o0)] 1)
  refine Fini.cast (ef11 m o0) ?_
  show Fini p e below s _ _ _ s₁ (mkF m 0 #[.val (.ref o0)] [])
  refine Fini.st (fun _ k => XS.aloadN X0.here hx rfl (hb hby d11_0) rfl rfl k) ?_
  show Fini p e below s _ _ _ s₁ (mkF m 1 #[.val (.ref o0)] [(.ref o0)])
  obtain ⟨T1, X1, e1, st1⟩ := initO X0 hx hZ hown (hw _ (List.mem_of_getElem? (i := 99) rfl)) (hw _ (List.mem_of_getElem? (i := 23) rfl)) (hw _ (List.mem_of_getElem? (i := 24) rfl)) e0 (g := (mkF m 1 #[.val (.ref o0)] [(.ref o0)])) rfl (by rw [hml]; rfl) rfl (hb hby d11_1) (by decide) (W := 0) (by show 2 * 0 + _ ≤ _; exact Nat.le_of_eq rfl) (by decide)
  refine Fini.st st1 ?_
  show Fini p e below s _ _ _ T1 (mkF m 4 #[.val (.ref o0)] [])
  refine Fini.st (fun _ k => XS.aloadN X1.here hx rfl (hb hby d11_4) rfl rfl k) ?_
  show Fini p e below s _ _ _ T1 (mkF m 5 #[.val (.ref o0)] [(.ref o0)])
  refine Fini.st (fun _ k => XS.sipush X1.here hx rfl (hb hby d11_5) k) ?_
  show Fini p e below s _ _ _ T1 (mkF m 8 #[.val (.ref o0)] [(.int (4096 : Int32)), (.ref o0)])
  obtain ⟨T2, h2, k2, X2, e2, E2, A2, O2, st2⟩ := newR X1 hx hZ hown (hw _ (List.mem_of_getElem? (i := 100) rfl)) (hw _ (List.mem_of_getElem? (i := 101) rfl)) e1 (g := (mkF m 8 #[.val (.ref o0)] [(.int (4096 : Int32)), (.ref o0)])) rfl (hb hby d11_8) rfl (by decide) (cap := 4096) (by decide) (by decide) (by decide) (by decide)
  obtain ⟨b2, g2⟩ : ∃ z, z = h0.size := ⟨_, rfl⟩
  rw [← g2] at A2 st2
  have ne_o0_b2 : o0 ≠ b2 := Nat.ne_of_lt (Nat.lt_of_lt_of_le E_o0.lt (Nat.le_of_eq g2.symm))
  have ge_b2 : n0 ≤ b2 := Nat.le_trans Z0 (Nat.le_of_eq g2.symm)
  have sz_b2 : h0.size ≤ b2 := Nat.le_trans (Keep.refl h0 [o0]).1 (Nat.le_of_eq g2.symm)
  have Ar2 : AryR Z h2 b2 "java/lang/Object" (4096 : Int32) (fun _ => .null) := AryR.new A2 O2 (by decide)
  refine Fini.st st2 ?_
  show Fini p e below s _ _ _ T2 (mkF m 11 #[.val (.ref o0)] [(.ref b2), (.ref o0)])
  have F_4 : Fld Z h2 o0 "com/example/mapcodex/mapcodex/pbf/ObjectBatch" "objects" "[Ljava/lang/Object;" .null := (F_objects.ext E2)
  have Ex_5 : Exa Z h2 o0 "com/example/mapcodex/mapcodex/pbf/ObjectBatch" := (E_o0.ext E2)
  obtain ⟨T3, h3, X3, e3, W3, st3⟩ := putF X2 hx hZ hown (host := "") (Or.inl (hw _ (List.mem_of_getElem? (i := 102) rfl))) Via.refl e2 F_4 Ex_5 (Or.inr ⟨(hw _ (List.mem_of_getElem? (i := 103) rfl)), rfl, hnm⟩) (hw _ (List.mem_of_getElem? (i := 94) rfl)) (ty := (.array (.object "java/lang/Object"))) (by decide) rfl rfl (g := (mkF m 11 #[.val (.ref o0)] [(.ref b2), (.ref o0)])) rfl rfl (hb hby d11_11)
  have Fw3 : Fld Z h3 o0 "com/example/mapcodex/mapcodex/pbf/ObjectBatch" "objects" "[Ljava/lang/Object;" (.ref b2) := F_4.same W3
  refine Fini.st st3 ?_
  have N3 := Fr.snoc X3 N0 g0
  show Fini p e below s _ _ _ T3 (mkF m 14 #[.val (.ref o0)] [])
  have Kp_6 : Keep h0 h3 [o0] := (Keep.wr (Keep.ext (Keep.refl h0 [o0]) E2) W3 (Or.inl (List.mem_of_getElem? (i := 0) rfl)))
  have Ar_7 : AryR Z h3 b2 "java/lang/Object" (4096 : Int32) (fun _ => .null) := (Ar2.other W3 (Ne.symm ne_o0_b2))
  have F_8 : Fld Z h3 o0 "com/example/mapcodex/mapcodex/pbf/ObjectBatch" "size" "I" (.int n) := ((F_size.ext E2).other W3 (Or.inr (slot_ne (Or.inl (hw _ (List.mem_of_getElem? (i := 110) rfl))) (Or.inr (hw _ (List.mem_of_getElem? (i := 103) rfl))) (by decide) (t := .int) (t' := (.array (.object "java/lang/Object"))) (by decide) (by decide))))
  have F_9 : Fld Z h3 o0 "com/example/mapcodex/mapcodex/pbf/ObjectBatch" "values" "J" (.long q) := ((F_values.ext E2).other W3 (Or.inr (slot_ne (Or.inl (hw _ (List.mem_of_getElem? (i := 113) rfl))) (Or.inr (hw _ (List.mem_of_getElem? (i := 103) rfl))) (by decide) (t := .long) (t' := (.array (.object "java/lang/Object"))) (by decide) (by decide))))
  have F_10 : Fld Z h3 o0 "com/example/mapcodex/mapcodex/pbf/ObjectBatch" "handed" "I" (.int hd) := ((F_handed.ext E2).other W3 (Or.inr (slot_ne (Or.inl (hw _ (List.mem_of_getElem? (i := 120) rfl))) (Or.inr (hw _ (List.mem_of_getElem? (i := 103) rfl))) (by decide) (t := .int) (t' := (.array (.object "java/lang/Object"))) (by decide) (by decide))))
  exact Fini.ret0 X3 hx hlk Bd.returns (hb hby d11_14) (by decide) (by decide) ⟨rfl, N3, (by rw [e3]; exact Kp_6), _, sz_b2, ge_b2, (by rw [e3]; exact Fw3), (by rw [e3]; exact Ar_7), (by rw [e3]; exact F_8), (by rw [e3]; exact F_9), (by rw [e3]; exact F_10)⟩
theorem d12_0 : decode prog_49_method_3_code 0 = .ok (.aload_n 0, 1) := by decide +kernel
theorem d12_1 : decode prog_49_method_3_code 1 = .ok (.getfield 9, 3) := by decide +kernel
theorem d12_4 : decode prog_49_method_3_code 4 = .ok (.aload_n 0, 1) := by decide +kernel
theorem d12_5 : decode prog_49_method_3_code 5 = .ok (.dup, 1) := by decide +kernel
theorem d12_6 : decode prog_49_method_3_code 6 = .ok (.getfield 13, 3) := by decide +kernel
theorem d12_9 : decode prog_49_method_3_code 9 = .ok (.dup_x1, 1) := by decide +kernel
theorem d12_10 : decode prog_49_method_3_code 10 = .ok (.iconst 1, 1) := by decide +kernel
theorem d12_11 : decode prog_49_method_3_code 11 = .ok (.iadd, 1) := by decide +kernel
theorem d12_12 : decode prog_49_method_3_code 12 = .ok (.putfield 13, 3) := by decide +kernel
theorem d12_15 : decode prog_49_method_3_code 15 = .ok (.aload_n 1, 1) := by decide +kernel
theorem d12_16 : decode prog_49_method_3_code 16 = .ok (.aastore, 1) := by decide +kernel
theorem d12_17 : decode prog_49_method_3_code 17 = .ok (.aload_n 0, 1) := by decide +kernel
theorem d12_18 : decode prog_49_method_3_code 18 = .ok (.dup, 1) := by decide +kernel
theorem d12_19 : decode prog_49_method_3_code 19 = .ok (.getfield 17, 3) := by decide +kernel
theorem d12_22 : decode prog_49_method_3_code 22 = .ok (.iload_n 2, 1) := by decide +kernel
theorem d12_23 : decode prog_49_method_3_code 23 = .ok (.i2l, 1) := by decide +kernel
theorem d12_24 : decode prog_49_method_3_code 24 = .ok (.ladd, 1) := by decide +kernel
theorem d12_25 : decode prog_49_method_3_code 25 = .ok (.putfield 17, 3) := by decide +kernel
theorem d12_28 : decode prog_49_method_3_code 28 = .ok (.return_, 1) := by decide +kernel
theorem ef12 (m : MethodId) (x0 : Addr) (x1 : Addr) (x2 : Int32) : entryFrame m #[(.ref x0), (.ref x1), (.int x2)] 3 = mkF m 0 #[.val (.ref x0), .val (.ref x1), .val (.int x2)] [] := by first | (simp [entryFrame, mkF, argsToLocals, Value.category]; done) | rfl
set_option maxRecDepth 65536 in
set_option maxHeartbeats 40000000 in
theorem rm12 (l : Launch) (Z : State) (a0 : Array Value) (hw : ∀ d ∈ tables_1, d.before a0 Z = true) (ws : List Jvm.Cond) (o0 : Addr) (o1 : Addr) (p2 : Int32) (ob : Addr) (n : Int32) (q : Int64) (hd : Int32) (u : Nat → Value) (h0 : Heap) (n0 : Nat) (Z0 : n0 ≤ h0.size) (E_o0 : Exa Z h0 o0 "com/example/mapcodex/mapcodex/pbf/ObjectBatch") (F_objects : Fld Z h0 o0 "com/example/mapcodex/mapcodex/pbf/ObjectBatch" "objects" "[Ljava/lang/Object;" (.ref ob)) (F_size : Fld Z h0 o0 "com/example/mapcodex/mapcodex/pbf/ObjectBatch" "size" "I" (.int n)) (F_values : Fld Z h0 o0 "com/example/mapcodex/mapcodex/pbf/ObjectBatch" "values" "J" (.long q)) (F_handed : Fld Z h0 o0 "com/example/mapcodex/mapcodex/pbf/ObjectBatch" "handed" "I" (.int hd)) (A_ob : AryR Z h0 ob "java/lang/Object" (4096 : Int32) u) (g0 : n0 ≤ o0) (g1 : n0 ≤ ob) (ne0 : o0 ≠ ob) (hin : ¬ n < 0 ∧ n < (4096 : Int32)) (I_o1 : Ins Z h0 o1 "java/lang/Object" true) :
    Cmet l Z (⟨"com/example/mapcodex/mapcodex/pbf/ObjectBatch", "add", "(Lcom/example/mapcodex/mapcodex/osm/OsmObject;I)V"⟩ : MethodName) prog_49_method_3_code 3 none ws ({ frames := 0, cells := 0, slots := 0, locals := 0 } : Room) #[(.ref o0), (.ref o1), (.int p2)] h0 (fun v h' L => v = none ∧ Fr n0 L ∧ Keep h0 h' [o0, ob] ∧ Fld Z h' o0 "com/example/mapcodex/mapcodex/pbf/ObjectBatch" "objects" "[Ljava/lang/Object;" (.ref ob) ∧ AryR Z h' ob "java/lang/Object" (4096 : Int32) (upd u n.toNatClampNeg (.ref o1)) ∧ Fld Z h' o0 "com/example/mapcodex/mapcodex/pbf/ObjectBatch" "size" "I" (.int (n + (1 : Int32))) ∧ Fld Z h' o0 "com/example/mapcodex/mapcodex/pbf/ObjectBatch" "values" "J" (.long (q + p2.toInt64)) ∧ Fld Z h' o0 "com/example/mapcodex/mapcodex/pbf/ObjectBatch" "handed" "I" (.int hd)) := by
  refine MetFree.of_bodySF (plainFor_of_name pn_7) hisR ?_
  intro p e s m args below meth c s₁ Bd hml0 hP hK
  obtain ⟨rfl, hZ, hh⟩ := hP
  have hx := Bd.exec
  have hlk : meth.locks = false := BodyLoose.notSynchronized Bd
  have hby := Bd.bytes
  have hml : c.maxLocals = 3 := hml0
  have hown : s.vm.findClass "com/example/mapcodex/mapcodex/pbf/ObjectBatch" = some m.cls := findClass_of_methodNamed Bd.named
  have hnm := (name_of_methodNamed Bd.named Bd.method).1
  have X0 : Stand p l e ({ frames := 0, cells := 0, slots := 0, locals := 0 } : Room) s m #[(.ref o0), (.ref o1), (.int p2)] below meth c s₁ [] 0 0 := Stand.of_body Bd
  have e0 : s₁.heap = h0 := by rw [← hh, Bd.state]; rfl
  have N0 := Fr.nil n0
  show Fini p e below s (fun v h' L => v = none ∧ Fr n0 L ∧ Keep h0 h' [o0, ob] ∧ Fld Z h' o0 "com/example/mapcodex/mapcodex/pbf/ObjectBatch" "objects" "[Ljava/lang/Object;" (.ref ob) ∧ AryR Z h' ob "java/lang/Object" (4096 : Int32) (upd u n.toNatClampNeg (.ref o1)) ∧ Fld Z h' o0 "com/example/mapcodex/mapcodex/pbf/ObjectBatch" "size" "I" (.int (n + (1 : Int32))) ∧ Fld Z h' o0 "com/example/mapcodex/mapcodex/pbf/ObjectBatch" "values" "J" (.long (q + p2.toInt64)) ∧ Fld Z h' o0 "com/example/mapcodex/mapcodex/pbf/ObjectBatch" "handed" "I" (.int hd)) _ _ s₁ (entryFrame m #[(.ref o0), (.ref o1), (.int p2)] 3)
  refine Fini.cast (ef12 m o0 o1 p2) ?_
  show Fini p e below s _ _ _ s₁ (mkF m 0 #[.val (.ref o0), .val (.ref o1), .val (.int p2)] [])
  refine Fini.st (fun _ k => XS.aloadN X0.here hx rfl (hb hby d12_0) rfl rfl k) ?_
  show Fini p e below s _ _ _ s₁ (mkF m 1 #[.val (.ref o0), .val (.ref o1), .val (.int p2)] [(.ref o0)])
  obtain ⟨T1, X1, e1, st1⟩ := getF X0 hx hZ hown (host := "") (Or.inl (hw _ (List.mem_of_getElem? (i := 102) rfl))) Via.refl e0 F_objects (g := (mkF m 1 #[.val (.ref o0), .val (.ref o1), .val (.int p2)] [(.ref o0)])) rfl rfl (hb hby d12_1)
  refine Fini.st st1 ?_
  show Fini p e below s _ _ _ T1 (mkF m 4 #[.val (.ref o0), .val (.ref o1), .val (.int p2)] [(.ref ob)])
  refine Fini.st (fun _ k => XS.aloadN X1.here hx rfl (hb hby d12_4) rfl rfl k) ?_
  show Fini p e below s _ _ _ T1 (mkF m 5 #[.val (.ref o0), .val (.ref o1), .val (.int p2)] [(.ref o0), (.ref ob)])
  refine Fini.st (fun _ k => XS.dup X1.here hx rfl (hb hby d12_5) rfl rfl k) ?_
  show Fini p e below s _ _ _ T1 (mkF m 6 #[.val (.ref o0), .val (.ref o1), .val (.int p2)] [(.ref o0), (.ref o0), (.ref ob)])
  obtain ⟨T2, X2, e2, st2⟩ := getF X1 hx hZ hown (host := "") (Or.inl (hw _ (List.mem_of_getElem? (i := 109) rfl))) Via.refl e1 F_size (g := (mkF m 6 #[.val (.ref o0), .val (.ref o1), .val (.int p2)] [(.ref o0), (.ref o0), (.ref ob)])) rfl rfl (hb hby d12_6)
  refine Fini.st st2 ?_
  show Fini p e below s _ _ _ T2 (mkF m 9 #[.val (.ref o0), .val (.ref o1), .val (.int p2)] [(.int n), (.ref o0), (.ref ob)])
  refine Fini.st (fun _ k => XS.dupX1 X2.here hx rfl (hb hby d12_9) rfl rfl rfl k) ?_
  show Fini p e below s _ _ _ T2 (mkF m 10 #[.val (.ref o0), .val (.ref o1), .val (.int p2)] [(.int n), (.ref o0), (.int n), (.ref ob)])
  refine Fini.st (fun _ k => XS.iconst X2.here hx rfl (hb hby d12_10) k) ?_
  show Fini p e below s _ _ _ T2 (mkF m 11 #[.val (.ref o0), .val (.ref o1), .val (.int p2)] [(.int (1 : Int32)), (.int n), (.ref o0), (.int n), (.ref ob)])
  refine Fini.st (fun _ k => XS.iadd X2.here hx rfl (hb hby d12_11) rfl k) ?_
  show Fini p e below s _ _ _ T2 (mkF m 12 #[.val (.ref o0), .val (.ref o1), .val (.int p2)] [(.int (n + (1 : Int32))), (.ref o0), (.int n), (.ref ob)])
  obtain ⟨T3, h3, X3, e3, W3, st3⟩ := putF X2 hx hZ hown (host := "") (Or.inl (hw _ (List.mem_of_getElem? (i := 109) rfl))) Via.refl e2 F_size E_o0 (Or.inl (hw _ (List.mem_of_getElem? (i := 110) rfl))) (hw _ (List.mem_of_getElem? (i := 94) rfl)) (ty := .int) (by decide) rfl rfl (g := (mkF m 12 #[.val (.ref o0), .val (.ref o1), .val (.int p2)] [(.int (n + (1 : Int32))), (.ref o0), (.int n), (.ref ob)])) rfl rfl (hb hby d12_12)
  have Fw3 : Fld Z h3 o0 "com/example/mapcodex/mapcodex/pbf/ObjectBatch" "size" "I" (.int (n + (1 : Int32))) := F_size.same W3
  refine Fini.st st3 ?_
  have N3 := Fr.snoc X3 N0 g0
  show Fini p e below s _ _ _ T3 (mkF m 15 #[.val (.ref o0), .val (.ref o1), .val (.int p2)] [(.int n), (.ref ob)])
  refine Fini.st (fun _ k => XS.aloadN X3.here hx rfl (hb hby d12_15) rfl rfl k) ?_
  show Fini p e below s _ _ _ T3 (mkF m 16 #[.val (.ref o0), .val (.ref o1), .val (.int p2)] [(.ref o1), (.int n), (.ref ob)])
  have Ar_4 : AryR Z h3 ob "java/lang/Object" (4096 : Int32) u := (A_ob.other W3 (Ne.symm ne0))
  obtain ⟨T5, h5, X5, e5, W5, Ar5, st5⟩ := Ar_4.st X3 hx hZ e3 hin (Or.inr ⟨_, rfl, (Ins.wr W3 I_o1)⟩) (g := (mkF m 16 #[.val (.ref o0), .val (.ref o1), .val (.int p2)] [(.ref o1), (.int n), (.ref ob)])) rfl rfl (hb hby d12_16)
  refine Fini.st st5 ?_
  have N5 := Fr.snoc X5 N3 g1
  show Fini p e below s _ _ _ T5 (mkF m 17 #[.val (.ref o0), .val (.ref o1), .val (.int p2)] [])
  refine Fini.st (fun _ k => XS.aloadN X5.here hx rfl (hb hby d12_17) rfl rfl k) ?_
  show Fini p e below s _ _ _ T5 (mkF m 18 #[.val (.ref o0), .val (.ref o1), .val (.int p2)] [(.ref o0)])
  refine Fini.st (fun _ k => XS.dup X5.here hx rfl (hb hby d12_18) rfl rfl k) ?_
  show Fini p e below s _ _ _ T5 (mkF m 19 #[.val (.ref o0), .val (.ref o1), .val (.int p2)] [(.ref o0), (.ref o0)])
  have F_7 : Fld Z h5 o0 "com/example/mapcodex/mapcodex/pbf/ObjectBatch" "values" "J" (.long q) := ((F_values.other W3 (Or.inr (slot_ne (Or.inl (hw _ (List.mem_of_getElem? (i := 113) rfl))) (Or.inl (hw _ (List.mem_of_getElem? (i := 110) rfl))) (by decide) (t := .long) (t' := .int) (by decide) (by decide)))).other W5 (Or.inl ne0))
  obtain ⟨T6, X6, e6, st6⟩ := getF X5 hx hZ hown (host := "") (Or.inl (hw _ (List.mem_of_getElem? (i := 112) rfl))) Via.refl e5 F_7 (g := (mkF m 19 #[.val (.ref o0), .val (.ref o1), .val (.int p2)] [(.ref o0), (.ref o0)])) rfl rfl (hb hby d12_19)
  refine Fini.st st6 ?_
  show Fini p e below s _ _ _ T6 (mkF m 22 #[.val (.ref o0), .val (.ref o1), .val (.int p2)] [(.long q), (.ref o0)])
  refine Fini.st (fun _ k => XS.iloadN X6.here hx rfl (hb hby d12_22) rfl k) ?_
  show Fini p e below s _ _ _ T6 (mkF m 23 #[.val (.ref o0), .val (.ref o1), .val (.int p2)] [(.int p2), (.long q), (.ref o0)])
  refine Fini.st (fun _ k => XS.i2l X6.here hx rfl (hb hby d12_23) rfl k) ?_
  show Fini p e below s _ _ _ T6 (mkF m 24 #[.val (.ref o0), .val (.ref o1), .val (.int p2)] [(.long p2.toInt64), (.long q), (.ref o0)])
  refine Fini.st (fun _ k => XS.ladd X6.here hx rfl (hb hby d12_24) rfl k) ?_
  show Fini p e below s _ _ _ T6 (mkF m 25 #[.val (.ref o0), .val (.ref o1), .val (.int p2)] [(.long (q + p2.toInt64)), (.ref o0)])
  have Ex_9 : Exa Z h5 o0 "com/example/mapcodex/mapcodex/pbf/ObjectBatch" := ((E_o0.wr W3).wr W5)
  obtain ⟨T8, h8, X8, e8, W8, st8⟩ := putF X6 hx hZ hown (host := "") (Or.inl (hw _ (List.mem_of_getElem? (i := 112) rfl))) Via.refl e6 F_7 Ex_9 (Or.inl (hw _ (List.mem_of_getElem? (i := 113) rfl))) (hw _ (List.mem_of_getElem? (i := 94) rfl)) (ty := .long) (by decide) rfl rfl (g := (mkF m 25 #[.val (.ref o0), .val (.ref o1), .val (.int p2)] [(.long (q + p2.toInt64)), (.ref o0)])) rfl rfl (hb hby d12_25)
  have Fw8 : Fld Z h8 o0 "com/example/mapcodex/mapcodex/pbf/ObjectBatch" "values" "J" (.long (q + p2.toInt64)) := F_7.same W8
  refine Fini.st st8 ?_
  have N8 := Fr.snoc X8 N5 g0
  show Fini p e below s _ _ _ T8 (mkF m 28 #[.val (.ref o0), .val (.ref o1), .val (.int p2)] [])
  have Kp_10 : Keep h0 h8 [o0, ob] := (Keep.wr (Keep.wr (Keep.wr (Keep.refl h0 [o0, ob]) W3 (Or.inl (List.mem_of_getElem? (i := 0) rfl))) W5 (Or.inl (List.mem_of_getElem? (i := 1) rfl))) W8 (Or.inl (List.mem_of_getElem? (i := 0) rfl)))
  have F_11 : Fld Z h8 o0 "com/example/mapcodex/mapcodex/pbf/ObjectBatch" "objects" "[Ljava/lang/Object;" (.ref ob) := (((F_objects.other W3 (Or.inr (slot_ne (Or.inr (hw _ (List.mem_of_getElem? (i := 103) rfl))) (Or.inl (hw _ (List.mem_of_getElem? (i := 110) rfl))) (by decide) (t := (.array (.object "java/lang/Object"))) (t' := .int) (by decide) (by decide)))).other W5 (Or.inl ne0)).other W8 (Or.inr (slot_ne (Or.inr (hw _ (List.mem_of_getElem? (i := 103) rfl))) (Or.inl (hw _ (List.mem_of_getElem? (i := 113) rfl))) (by decide) (t := (.array (.object "java/lang/Object"))) (t' := .long) (by decide) (by decide))))
  have Ar_12 : AryR Z h8 ob "java/lang/Object" (4096 : Int32) (upd u (n).toNatClampNeg (.ref o1)) := (Ar5.other W8 (Ne.symm ne0))
  have F_13 : Fld Z h8 o0 "com/example/mapcodex/mapcodex/pbf/ObjectBatch" "size" "I" (.int (n + (1 : Int32))) := ((Fw3.other W5 (Or.inl ne0)).other W8 (Or.inr (slot_ne (Or.inl (hw _ (List.mem_of_getElem? (i := 110) rfl))) (Or.inl (hw _ (List.mem_of_getElem? (i := 113) rfl))) (by decide) (t := .int) (t' := .long) (by decide) (by decide))))
  have F_14 : Fld Z h8 o0 "com/example/mapcodex/mapcodex/pbf/ObjectBatch" "handed" "I" (.int hd) := (((F_handed.other W3 (Or.inr (slot_ne (Or.inl (hw _ (List.mem_of_getElem? (i := 120) rfl))) (Or.inl (hw _ (List.mem_of_getElem? (i := 110) rfl))) (by decide) (t := .int) (t' := .int) (by decide) (by decide)))).other W5 (Or.inl ne0)).other W8 (Or.inr (slot_ne (Or.inl (hw _ (List.mem_of_getElem? (i := 120) rfl))) (Or.inl (hw _ (List.mem_of_getElem? (i := 113) rfl))) (by decide) (t := .int) (t' := .long) (by decide) (by decide))))
  exact Fini.ret0 X8 hx hlk Bd.returns (hb hby d12_28) (by decide) (by decide) ⟨rfl, N8, (by rw [e8]; exact Kp_10), (by rw [e8]; exact F_11), (by rw [e8]; exact Ar_12), (by rw [e8]; exact F_13), (by rw [e8]; exact Fw8), (by rw [e8]; exact F_14)⟩
theorem d13_0 : decode prog_49_method_6_code 0 = .ok (.aload_n 0, 1) := by decide +kernel
theorem d13_1 : decode prog_49_method_6_code 1 = .ok (.getfield 9, 3) := by decide +kernel
theorem d13_4 : decode prog_49_method_6_code 4 = .ok (.aload_n 0, 1) := by decide +kernel
theorem d13_5 : decode prog_49_method_6_code 5 = .ok (.getfield 23, 3) := by decide +kernel
theorem d13_8 : decode prog_49_method_6_code 8 = .ok (.aaload, 1) := by decide +kernel
theorem d13_9 : decode prog_49_method_6_code 9 = .ok (.checkcast 26, 3) := by decide +kernel
theorem d13_12 : decode prog_49_method_6_code 12 = .ok (.astore_n 1, 1) := by decide +kernel
theorem d13_13 : decode prog_49_method_6_code 13 = .ok (.aload_n 0, 1) := by decide +kernel
theorem d13_14 : decode prog_49_method_6_code 14 = .ok (.getfield 9, 3) := by decide +kernel
theorem d13_17 : decode prog_49_method_6_code 17 = .ok (.aload_n 0, 1) := by decide +kernel
theorem d13_18 : decode prog_49_method_6_code 18 = .ok (.dup, 1) := by decide +kernel
theorem d13_19 : decode prog_49_method_6_code 19 = .ok (.getfield 23, 3) := by decide +kernel
theorem d13_22 : decode prog_49_method_6_code 22 = .ok (.dup_x1, 1) := by decide +kernel
theorem d13_23 : decode prog_49_method_6_code 23 = .ok (.iconst 1, 1) := by decide +kernel
theorem d13_24 : decode prog_49_method_6_code 24 = .ok (.iadd, 1) := by decide +kernel
theorem d13_25 : decode prog_49_method_6_code 25 = .ok (.putfield 23, 3) := by decide +kernel
theorem d13_28 : decode prog_49_method_6_code 28 = .ok (.aconst_null, 1) := by decide +kernel
theorem d13_29 : decode prog_49_method_6_code 29 = .ok (.aastore, 1) := by decide +kernel
theorem d13_30 : decode prog_49_method_6_code 30 = .ok (.aload_n 1, 1) := by decide +kernel
theorem d13_31 : decode prog_49_method_6_code 31 = .ok (.areturn, 1) := by decide +kernel
theorem ef13 (m : MethodId) (x0 : Addr) : entryFrame m #[(.ref x0)] 2 = mkF m 0 #[.val (.ref x0), .unset] [] := by first | (simp [entryFrame, mkF, argsToLocals, Value.category]; done) | rfl
set_option maxRecDepth 65536 in
set_option maxHeartbeats 40000000 in
theorem rm13 (l : Launch) (Z : State) (a0 : Array Value) (hw : ∀ d ∈ tables_1, d.before a0 Z = true) (ws : List Jvm.Cond) (o0 : Addr) (ob : Addr) (n : Int32) (q : Int64) (hd : Int32) (u : Nat → Value) (w : Addr) (h0 : Heap) (n0 : Nat) (Z0 : n0 ≤ h0.size) (E_o0 : Exa Z h0 o0 "com/example/mapcodex/mapcodex/pbf/ObjectBatch") (F_objects : Fld Z h0 o0 "com/example/mapcodex/mapcodex/pbf/ObjectBatch" "objects" "[Ljava/lang/Object;" (.ref ob)) (F_size : Fld Z h0 o0 "com/example/mapcodex/mapcodex/pbf/ObjectBatch" "size" "I" (.int n)) (F_values : Fld Z h0 o0 "com/example/mapcodex/mapcodex/pbf/ObjectBatch" "values" "J" (.long q)) (F_handed : Fld Z h0 o0 "com/example/mapcodex/mapcodex/pbf/ObjectBatch" "handed" "I" (.int hd)) (A_ob : AryR Z h0 ob "java/lang/Object" (4096 : Int32) u) (E_w : Exa Z h0 w "com/example/mapcodex/mapcodex/osm/Way") (g0 : n0 ≤ o0) (g1 : n0 ≤ ob) (ne0 : o0 ≠ ob) (hin : ¬ hd < 0 ∧ hd < (4096 : Int32)) (hu : (u (hd).toNatClampNeg) = .ref w) :
    Cmet l Z (⟨"com/example/mapcodex/mapcodex/pbf/ObjectBatch", "next", "()Lcom/example/mapcodex/mapcodex/osm/OsmObject;"⟩ : MethodName) prog_49_method_6_code 2 (some (.object "com/example/mapcodex/mapcodex/osm/OsmObject")) ws ({ frames := 0, cells := 0, slots := 0, locals := 0 } : Room) #[(.ref o0)] h0 (fun v h' L => v = some (.ref w) ∧ Fr n0 L ∧ Keep h0 h' [o0, ob] ∧ Fld Z h' o0 "com/example/mapcodex/mapcodex/pbf/ObjectBatch" "objects" "[Ljava/lang/Object;" (.ref ob) ∧ AryR Z h' ob "java/lang/Object" (4096 : Int32) (upd u hd.toNatClampNeg .null) ∧ Fld Z h' o0 "com/example/mapcodex/mapcodex/pbf/ObjectBatch" "size" "I" (.int n) ∧ Fld Z h' o0 "com/example/mapcodex/mapcodex/pbf/ObjectBatch" "values" "J" (.long q) ∧ Fld Z h' o0 "com/example/mapcodex/mapcodex/pbf/ObjectBatch" "handed" "I" (.int (hd + (1 : Int32)))) := by
  refine MetFree.of_bodySF (plainFor_of_name pn_7) hisR ?_
  intro p e s m args below meth c s₁ Bd hml0 hP hK
  obtain ⟨rfl, hZ, hh⟩ := hP
  have hx := Bd.exec
  have hlk : meth.locks = false := BodyLoose.notSynchronized Bd
  have hby := Bd.bytes
  have hml : c.maxLocals = 2 := hml0
  have hown : s.vm.findClass "com/example/mapcodex/mapcodex/pbf/ObjectBatch" = some m.cls := findClass_of_methodNamed Bd.named
  have hnm := (name_of_methodNamed Bd.named Bd.method).1
  have X0 : Stand p l e ({ frames := 0, cells := 0, slots := 0, locals := 0 } : Room) s m #[(.ref o0)] below meth c s₁ [] 0 0 := Stand.of_body Bd
  have e0 : s₁.heap = h0 := by rw [← hh, Bd.state]; rfl
  have N0 := Fr.nil n0
  show Fini p e below s (fun v h' L => v = some (.ref w) ∧ Fr n0 L ∧ Keep h0 h' [o0, ob] ∧ Fld Z h' o0 "com/example/mapcodex/mapcodex/pbf/ObjectBatch" "objects" "[Ljava/lang/Object;" (.ref ob) ∧ AryR Z h' ob "java/lang/Object" (4096 : Int32) (upd u hd.toNatClampNeg .null) ∧ Fld Z h' o0 "com/example/mapcodex/mapcodex/pbf/ObjectBatch" "size" "I" (.int n) ∧ Fld Z h' o0 "com/example/mapcodex/mapcodex/pbf/ObjectBatch" "values" "J" (.long q) ∧ Fld Z h' o0 "com/example/mapcodex/mapcodex/pbf/ObjectBatch" "handed" "I" (.int (hd + (1 : Int32)))) _ _ s₁ (entryFrame m #[(.ref o0)] 2)
  refine Fini.cast (ef13 m o0) ?_
  show Fini p e below s _ _ _ s₁ (mkF m 0 #[.val (.ref o0), .unset] [])
  refine Fini.st (fun _ k => XS.aloadN X0.here hx rfl (hb hby d13_0) rfl rfl k) ?_
  show Fini p e below s _ _ _ s₁ (mkF m 1 #[.val (.ref o0), .unset] [(.ref o0)])
  obtain ⟨T1, X1, e1, st1⟩ := getF X0 hx hZ hown (host := "") (Or.inl (hw _ (List.mem_of_getElem? (i := 102) rfl))) Via.refl e0 F_objects (g := (mkF m 1 #[.val (.ref o0), .unset] [(.ref o0)])) rfl rfl (hb hby d13_1)
  refine Fini.st st1 ?_
  show Fini p e below s _ _ _ T1 (mkF m 4 #[.val (.ref o0), .unset] [(.ref ob)])
  refine Fini.st (fun _ k => XS.aloadN X1.here hx rfl (hb hby d13_4) rfl rfl k) ?_
  show Fini p e below s _ _ _ T1 (mkF m 5 #[.val (.ref o0), .unset] [(.ref o0), (.ref ob)])
  obtain ⟨T2, X2, e2, st2⟩ := getF X1 hx hZ hown (host := "") (Or.inl (hw _ (List.mem_of_getElem? (i := 119) rfl))) Via.refl e1 F_handed (g := (mkF m 5 #[.val (.ref o0), .unset] [(.ref o0), (.ref ob)])) rfl rfl (hb hby d13_5)
  refine Fini.st st2 ?_
  show Fini p e below s _ _ _ T2 (mkF m 8 #[.val (.ref o0), .unset] [(.int hd), (.ref ob)])
  refine Fini.st (fun _ k => A_ob.load X2 hx hZ e2 hin rfl rfl (hb hby d13_8) k) ?_
  show Fini p e below s _ _ _ T2 (mkF m 9 #[.val (.ref o0), .unset] [(u (hd).toNatClampNeg)])
  refine Fini.cast (g' := (mkF m 9 #[.val (.ref o0), .unset] [(.ref w)])) (by rw [hu]) ?_
  show Fini p e below s _ _ _ T2 (mkF m 9 #[.val (.ref o0), .unset] [(.ref w)])
  obtain ⟨T3, X3, e3, st3⟩ := castY X2 hx hZ hown (hw _ (List.mem_of_getElem? (i := 121) rfl)) e2 (Ins.of_exa E_w (hw _ (List.mem_of_getElem? (i := 122) rfl))) (g := (mkF m 9 #[.val (.ref o0), .unset] [(.ref w)])) rfl rfl (hb hby d13_9)
  refine Fini.st st3 ?_
  show Fini p e below s _ _ _ T3 (mkF m 12 #[.val (.ref o0), .unset] [(.ref w)])
  refine Fini.st (fun _ k => XS.astoreN X3.here hx rfl (hb hby d13_12) rfl rfl (l' := #[.val (.ref o0), .val (.ref w)]) rfl k) ?_
  show Fini p e below s _ _ _ T3 (mkF m 13 #[.val (.ref o0), .val (.ref w)] [])
  refine Fini.st (fun _ k => XS.aloadN X3.here hx rfl (hb hby d13_13) rfl rfl k) ?_
  show Fini p e below s _ _ _ T3 (mkF m 14 #[.val (.ref o0), .val (.ref w)] [(.ref o0)])
  obtain ⟨T4, X4, e4, st4⟩ := getF X3 hx hZ hown (host := "") (Or.inl (hw _ (List.mem_of_getElem? (i := 102) rfl))) Via.refl e3 F_objects (g := (mkF m 14 #[.val (.ref o0), .val (.ref w)] [(.ref o0)])) rfl rfl (hb hby d13_14)
  refine Fini.st st4 ?_
  show Fini p e below s _ _ _ T4 (mkF m 17 #[.val (.ref o0), .val (.ref w)] [(.ref ob)])
  refine Fini.st (fun _ k => XS.aloadN X4.here hx rfl (hb hby d13_17) rfl rfl k) ?_
  show Fini p e below s _ _ _ T4 (mkF m 18 #[.val (.ref o0), .val (.ref w)] [(.ref o0), (.ref ob)])
  refine Fini.st (fun _ k => XS.dup X4.here hx rfl (hb hby d13_18) rfl rfl k) ?_
  show Fini p e below s _ _ _ T4 (mkF m 19 #[.val (.ref o0), .val (.ref w)] [(.ref o0), (.ref o0), (.ref ob)])
  obtain ⟨T5, X5, e5, st5⟩ := getF X4 hx hZ hown (host := "") (Or.inl (hw _ (List.mem_of_getElem? (i := 119) rfl))) Via.refl e4 F_handed (g := (mkF m 19 #[.val (.ref o0), .val (.ref w)] [(.ref o0), (.ref o0), (.ref ob)])) rfl rfl (hb hby d13_19)
  refine Fini.st st5 ?_
  show Fini p e below s _ _ _ T5 (mkF m 22 #[.val (.ref o0), .val (.ref w)] [(.int hd), (.ref o0), (.ref ob)])
  refine Fini.st (fun _ k => XS.dupX1 X5.here hx rfl (hb hby d13_22) rfl rfl rfl k) ?_
  show Fini p e below s _ _ _ T5 (mkF m 23 #[.val (.ref o0), .val (.ref w)] [(.int hd), (.ref o0), (.int hd), (.ref ob)])
  refine Fini.st (fun _ k => XS.iconst X5.here hx rfl (hb hby d13_23) k) ?_
  show Fini p e below s _ _ _ T5 (mkF m 24 #[.val (.ref o0), .val (.ref w)] [(.int (1 : Int32)), (.int hd), (.ref o0), (.int hd), (.ref ob)])
  refine Fini.st (fun _ k => XS.iadd X5.here hx rfl (hb hby d13_24) rfl k) ?_
  show Fini p e below s _ _ _ T5 (mkF m 25 #[.val (.ref o0), .val (.ref w)] [(.int (hd + (1 : Int32))), (.ref o0), (.int hd), (.ref ob)])
  obtain ⟨T6, h6, X6, e6, W6, st6⟩ := putF X5 hx hZ hown (host := "") (Or.inl (hw _ (List.mem_of_getElem? (i := 119) rfl))) Via.refl e5 F_handed E_o0 (Or.inl (hw _ (List.mem_of_getElem? (i := 120) rfl))) (hw _ (List.mem_of_getElem? (i := 94) rfl)) (ty := .int) (by decide) rfl rfl (g := (mkF m 25 #[.val (.ref o0), .val (.ref w)] [(.int (hd + (1 : Int32))), (.ref o0), (.int hd), (.ref ob)])) rfl rfl (hb hby d13_25)
  have Fw6 : Fld Z h6 o0 "com/example/mapcodex/mapcodex/pbf/ObjectBatch" "handed" "I" (.int (hd + (1 : Int32))) := F_handed.same W6
  refine Fini.st st6 ?_
  have N6 := Fr.snoc X6 N0 g0
  show Fini p e below s _ _ _ T6 (mkF m 28 #[.val (.ref o0), .val (.ref w)] [(.int hd), (.ref ob)])
  refine Fini.st (fun _ k => XS.aconstNull X6.here hx rfl (hb hby d13_28) k) ?_
  show Fini p e below s _ _ _ T6 (mkF m 29 #[.val (.ref o0), .val (.ref w)] [.null, (.int hd), (.ref ob)])
  have Ar_7 : AryR Z h6 ob "java/lang/Object" (4096 : Int32) u := (A_ob.other W6 (Ne.symm ne0))
  obtain ⟨T8, h8, X8, e8, W8, Ar8, st8⟩ := Ar_7.st X6 hx hZ e6 hin (Or.inl rfl) (g := (mkF m 29 #[.val (.ref o0), .val (.ref w)] [.null, (.int hd), (.ref ob)])) rfl rfl (hb hby d13_29)
  refine Fini.st st8 ?_
  have N8 := Fr.snoc X8 N6 g1
  show Fini p e below s _ _ _ T8 (mkF m 30 #[.val (.ref o0), .val (.ref w)] [])
  refine Fini.st (fun _ k => XS.aloadN X8.here hx rfl (hb hby d13_30) rfl rfl k) ?_
  show Fini p e below s _ _ _ T8 (mkF m 31 #[.val (.ref o0), .val (.ref w)] [(.ref w)])
  have Kp_9 : Keep h0 h8 [o0, ob] := (Keep.wr (Keep.wr (Keep.refl h0 [o0, ob]) W6 (Or.inl (List.mem_of_getElem? (i := 0) rfl))) W8 (Or.inl (List.mem_of_getElem? (i := 1) rfl)))
  have F_10 : Fld Z h8 o0 "com/example/mapcodex/mapcodex/pbf/ObjectBatch" "objects" "[Ljava/lang/Object;" (.ref ob) := ((F_objects.other W6 (Or.inr (slot_ne (Or.inr (hw _ (List.mem_of_getElem? (i := 103) rfl))) (Or.inl (hw _ (List.mem_of_getElem? (i := 120) rfl))) (by decide) (t := (.array (.object "java/lang/Object"))) (t' := .int) (by decide) (by decide)))).other W8 (Or.inl ne0))
  have F_11 : Fld Z h8 o0 "com/example/mapcodex/mapcodex/pbf/ObjectBatch" "size" "I" (.int n) := ((F_size.other W6 (Or.inr (slot_ne (Or.inl (hw _ (List.mem_of_getElem? (i := 110) rfl))) (Or.inl (hw _ (List.mem_of_getElem? (i := 120) rfl))) (by decide) (t := .int) (t' := .int) (by decide) (by decide)))).other W8 (Or.inl ne0))
  have F_12 : Fld Z h8 o0 "com/example/mapcodex/mapcodex/pbf/ObjectBatch" "values" "J" (.long q) := ((F_values.other W6 (Or.inr (slot_ne (Or.inl (hw _ (List.mem_of_getElem? (i := 113) rfl))) (Or.inl (hw _ (List.mem_of_getElem? (i := 120) rfl))) (by decide) (t := .long) (t' := .int) (by decide) (by decide)))).other W8 (Or.inl ne0))
  have F_13 : Fld Z h8 o0 "com/example/mapcodex/mapcodex/pbf/ObjectBatch" "handed" "I" (.int (hd + (1 : Int32))) := (Fw6.other W8 (Or.inl ne0))
  exact Fini.retA X8 hx hlk Bd.returns rfl (hb hby d13_31) rfl rfl (by decide) (by decide) ⟨rfl, N8, (by rw [e8]; exact Kp_9), (by rw [e8]; exact F_10), (by rw [e8]; exact Ar8), (by rw [e8]; exact F_11), (by rw [e8]; exact F_12), (by rw [e8]; exact F_13)⟩
theorem d14_0 : decode prog_49_method_5_code 0 = .ok (.aload_n 0, 1) := by decide +kernel
theorem d14_1 : decode prog_49_method_5_code 1 = .ok (.getfield 23, 3) := by decide +kernel
theorem d14_4 : decode prog_49_method_5_code 4 = .ok (.aload_n 0, 1) := by decide +kernel
theorem d14_5 : decode prog_49_method_5_code 5 = .ok (.getfield 13, 3) := by decide +kernel
theorem d14_8 : decode prog_49_method_5_code 8 = .ok (.if_icmp .ge 7, 3) := by decide +kernel
theorem d14_11 : decode prog_49_method_5_code 11 = .ok (.iconst 1, 1) := by decide +kernel
theorem d14_12 : decode prog_49_method_5_code 12 = .ok (.goto 4, 3) := by decide +kernel
theorem d14_15 : decode prog_49_method_5_code 15 = .ok (.iconst 0, 1) := by decide +kernel
theorem d14_16 : decode prog_49_method_5_code 16 = .ok (.ireturn, 1) := by decide +kernel
theorem ef14 (m : MethodId) (x0 : Addr) : entryFrame m #[(.ref x0)] 1 = mkF m 0 #[.val (.ref x0)] [] := by first | (simp [entryFrame, mkF, argsToLocals, Value.category]; done) | rfl
def f14 (n : Int32) (hd : Int32) : Int32 := (if hd < n then (1 : Int32) else (0 : Int32))
set_option maxRecDepth 65536 in
set_option maxHeartbeats 40000000 in
theorem rm14 (l : Launch) (Z : State) (a0 : Array Value) (hw : ∀ d ∈ tables_1, d.before a0 Z = true) (ws : List Jvm.Cond) (o0 : Addr) (n : Int32) (hd : Int32) (h0 : Heap) (F_size : Fld Z h0 o0 "com/example/mapcodex/mapcodex/pbf/ObjectBatch" "size" "I" (.int n)) (F_handed : Fld Z h0 o0 "com/example/mapcodex/mapcodex/pbf/ObjectBatch" "handed" "I" (.int hd)) :
    Cmet l Z (⟨"com/example/mapcodex/mapcodex/pbf/ObjectBatch", "hasNext", "()Z"⟩ : MethodName) prog_49_method_5_code 1 (some .boolean) ws ({ frames := 0, cells := 0, slots := 0, locals := 0 } : Room) #[(.ref o0)] h0 (fun v h' L => v = some (.int (f14 n hd)) ∧ h' = h0 ∧ L = []) := by
  refine MetFree.of_bodySF (plainFor_of_name pn_7) hisR ?_
  intro p e s m args below meth c s₁ Bd hml0 hP hK
  obtain ⟨rfl, hZ, hh⟩ := hP
  have hx := Bd.exec
  have hlk : meth.locks = false := BodyLoose.notSynchronized Bd
  have hby := Bd.bytes
  have hml : c.maxLocals = 1 := hml0
  have hown : s.vm.findClass "com/example/mapcodex/mapcodex/pbf/ObjectBatch" = some m.cls := findClass_of_methodNamed Bd.named
  have hnm := (name_of_methodNamed Bd.named Bd.method).1
  have X0 : Stand p l e ({ frames := 0, cells := 0, slots := 0, locals := 0 } : Room) s m #[(.ref o0)] below meth c s₁ [] 0 0 := Stand.of_body Bd
  have e0 : s₁.heap = h0 := by rw [← hh, Bd.state]; rfl
  have hv0 : f14 n hd = f14 n hd := rfl
  show Fini p e below s (fun v h' L => v = some (.int (f14 n hd)) ∧ h' = h0 ∧ L = []) _ _ s₁ (entryFrame m #[(.ref o0)] 1)
  refine Fini.cast (ef14 m o0) ?_
  show Fini p e below s _ _ _ s₁ (mkF m 0 #[.val (.ref o0)] [])
  refine Fini.st (fun _ k => XS.aloadN X0.here hx rfl (hb hby d14_0) rfl rfl k) ?_
  show Fini p e below s _ _ _ s₁ (mkF m 1 #[.val (.ref o0)] [(.ref o0)])
  obtain ⟨T1, X1, e1, st1⟩ := getF X0 hx hZ hown (host := "") (Or.inl (hw _ (List.mem_of_getElem? (i := 119) rfl))) Via.refl e0 F_handed (g := (mkF m 1 #[.val (.ref o0)] [(.ref o0)])) rfl rfl (hb hby d14_1)
  refine Fini.st st1 ?_
  show Fini p e below s _ _ _ T1 (mkF m 4 #[.val (.ref o0)] [(.int hd)])
  refine Fini.st (fun _ k => XS.aloadN X1.here hx rfl (hb hby d14_4) rfl rfl k) ?_
  show Fini p e below s _ _ _ T1 (mkF m 5 #[.val (.ref o0)] [(.ref o0), (.int hd)])
  obtain ⟨T2, X2, e2, st2⟩ := getF X1 hx hZ hown (host := "") (Or.inl (hw _ (List.mem_of_getElem? (i := 109) rfl))) Via.refl e1 F_size (g := (mkF m 5 #[.val (.ref o0)] [(.ref o0), (.int hd)])) rfl rfl (hb hby d14_5)
  refine Fini.st st2 ?_
  show Fini p e below s _ _ _ T2 (mkF m 8 #[.val (.ref o0)] [(.int n), (.int hd)])
  by_cases c3 : hd < n
  · have hv4 := hv0.trans (if_pos c3)
    refine Fini.st (fun _ k => XS.icmpNo X2.here hx rfl (hb hby d14_8) rfl (XT.ii_ge_f c3) k) ?_
    show Fini p e below s _ _ _ T2 (mkF m 11 #[.val (.ref o0)] [])
    refine Fini.st (fun _ k => XS.iconst X2.here hx rfl (hb hby d14_11) k) ?_
    show Fini p e below s _ _ _ T2 (mkF m 12 #[.val (.ref o0)] [(.int (1 : Int32))])
    refine Fini.st (fun _ k => XS.goto X2.here hx rfl (pc0 := 12) (pc' := 16) rfl (hb hby d14_12) (by decide) (by decide) k) ?_
    show Fini p e below s _ _ _ T2 (mkF m 16 #[.val (.ref o0)] [(.int (1 : Int32))])
    exact Fini.retN X2 hx hlk (t := .boolean) Bd.returns (by simp) (hb hby d14_16) nb1 (by decide) (by decide) ⟨congrArg (fun z => some (Value.int z)) hv4.symm, e2, rfl⟩
  · have hv5 := hv0.trans (if_neg c3)
    refine Fini.st (fun _ k => XS.icmpYes X2.here hx rfl (pc0 := 8) (pc' := 15) rfl (hb hby d14_8) rfl (XT.ii_ge_t c3) (by decide) (by decide) k) ?_
    show Fini p e below s _ _ _ T2 (mkF m 15 #[.val (.ref o0)] [])
    refine Fini.st (fun _ k => XS.iconst X2.here hx rfl (hb hby d14_15) k) ?_
    show Fini p e below s _ _ _ T2 (mkF m 16 #[.val (.ref o0)] [(.int (0 : Int32))])
    exact Fini.retN X2 hx hlk (t := .boolean) Bd.returns (by simp) (hb hby d14_16) nb0 (by decide) (by decide) ⟨congrArg (fun z => some (Value.int z)) hv5.symm, e2, rfl⟩
theorem d15_0 : decode prog_49_method_4_code 0 = .ok (.aload_n 0, 1) := by decide +kernel
theorem d15_1 : decode prog_49_method_4_code 1 = .ok (.getfield 17, 3) := by decide +kernel
theorem d15_4 : decode prog_49_method_4_code 4 = .ok (.lreturn, 1) := by decide +kernel
theorem ef15 (m : MethodId) (x0 : Addr) : entryFrame m #[(.ref x0)] 1 = mkF m 0 #[.val (.ref x0)] [] := by first | (simp [entryFrame, mkF, argsToLocals, Value.category]; done) | rfl
def f15 (q : Int64) : Int64 := q
set_option maxRecDepth 65536 in
set_option maxHeartbeats 40000000 in
theorem rm15 (l : Launch) (Z : State) (a0 : Array Value) (hw : ∀ d ∈ tables_1, d.before a0 Z = true) (ws : List Jvm.Cond) (o0 : Addr) (q : Int64) (h0 : Heap) (F_values : Fld Z h0 o0 "com/example/mapcodex/mapcodex/pbf/ObjectBatch" "values" "J" (.long q)) :
    Cmet l Z (⟨"com/example/mapcodex/mapcodex/pbf/ObjectBatch", "values", "()J"⟩ : MethodName) prog_49_method_4_code 1 (some .long) ws ({ frames := 0, cells := 0, slots := 0, locals := 0 } : Room) #[(.ref o0)] h0 (fun v h' L => v = some (.long (f15 q)) ∧ h' = h0 ∧ L = []) := by
  refine MetFree.of_bodySF (plainFor_of_name pn_7) hisR ?_
  intro p e s m args below meth c s₁ Bd hml0 hP hK
  obtain ⟨rfl, hZ, hh⟩ := hP
  have hx := Bd.exec
  have hlk : meth.locks = false := BodyLoose.notSynchronized Bd
  have hby := Bd.bytes
  have hml : c.maxLocals = 1 := hml0
  have hown : s.vm.findClass "com/example/mapcodex/mapcodex/pbf/ObjectBatch" = some m.cls := findClass_of_methodNamed Bd.named
  have hnm := (name_of_methodNamed Bd.named Bd.method).1
  have X0 : Stand p l e ({ frames := 0, cells := 0, slots := 0, locals := 0 } : Room) s m #[(.ref o0)] below meth c s₁ [] 0 0 := Stand.of_body Bd
  have e0 : s₁.heap = h0 := by rw [← hh, Bd.state]; rfl
  have hv0 : f15 q = f15 q := rfl
  show Fini p e below s (fun v h' L => v = some (.long (f15 q)) ∧ h' = h0 ∧ L = []) _ _ s₁ (entryFrame m #[(.ref o0)] 1)
  refine Fini.cast (ef15 m o0) ?_
  show Fini p e below s _ _ _ s₁ (mkF m 0 #[.val (.ref o0)] [])
  refine Fini.st (fun _ k => XS.aloadN X0.here hx rfl (hb hby d15_0) rfl rfl k) ?_
  show Fini p e below s _ _ _ s₁ (mkF m 1 #[.val (.ref o0)] [(.ref o0)])
  obtain ⟨T1, X1, e1, st1⟩ := getF X0 hx hZ hown (host := "") (Or.inl (hw _ (List.mem_of_getElem? (i := 112) rfl))) Via.refl e0 F_values (g := (mkF m 1 #[.val (.ref o0)] [(.ref o0)])) rfl rfl (hb hby d15_1)
  refine Fini.st st1 ?_
  show Fini p e below s _ _ _ T1 (mkF m 4 #[.val (.ref o0)] [(.long q)])
  exact Fini.retJ X1 hx hlk Bd.returns (hb hby d15_4) (by decide) (by decide) ⟨congrArg (fun z => some (Value.long z)) hv0.symm, e1, rfl⟩
def own_late (p0 : Int32) : Int32 := if ((1 : Int32) + ((p0 &&& (3 : Int32)) % (3 : Int32))) = (3 : Int32) then (if ((p0.toUInt32 >>> ((4 : Int32) &&& 31).toUInt32).toInt32 &&& (1 : Int32)) = (0 : Int32) then (0 : Int32) else (1 : Int32)) else (0 : Int32)
theorem pd_6 : parseMethodDescriptor "(J[JLjava/util/List;Lcom/example/mapcodex/mapcodex/osm/Metadata;)V" = some ⟨[.long, (.array .long), (.object "java/util/List"), (.object "com/example/mapcodex/mapcodex/osm/Metadata")], none⟩ := by decide +kernel
theorem pd_7 : parseMethodDescriptor "(Lcom/example/mapcodex/mapcodex/osm/OsmObject;I)V" = some ⟨[(.object "com/example/mapcodex/mapcodex/osm/OsmObject"), .int], none⟩ := by decide +kernel
theorem pd_8 : parseMethodDescriptor "()Lcom/example/mapcodex/mapcodex/osm/OsmObject;" = some ⟨[], some (.object "com/example/mapcodex/mapcodex/osm/OsmObject")⟩ := by decide +kernel
theorem pd_9 : parseMethodDescriptor "()Z" = some ⟨[], some .boolean⟩ := by decide +kernel
theorem pd_10 : parseMethodDescriptor "()J" = some ⟨[], some .long⟩ := by decide +kernel
theorem pn_8 : plainName "com/example/mapcodex/mapcodex/pbf/ObjectBatchNextPinLaw" = true := by first | (simp [plainName, overriddenIn]; done) | decide +kernel
theorem ef0 (m : MethodId) (x0 : Int32) (x1 : Int64) (x2 : Int32) (x3 : Int32) (x4 : Int32) : entryFrame m #[(.int x0), (.long x1), (.int x2), (.int x3), (.int x4)] maxLocals = mkF m 0 #[.val (.int x0), .val (.long x1), .second, .val (.int x2), .val (.int x3), .val (.int x4), .unset, .unset, .unset, .unset, .unset, .unset, .unset, .unset, .unset, .unset, .unset] [] := by first | (simp [entryFrame, mkF, argsToLocals, Value.category, maxLocals]; done) | rfl
def g0_7 (p0 : Int32) : Int32 := ((1 : Int32) + ((p0 &&& (3 : Int32)) % (3 : Int32)))
def g0_19 (p0 : Int32) : Int32 := ((1 : Int32) + (((p0.toUInt32 >>> ((2 : Int32) &&& 31).toUInt32).toInt32 &&& (3 : Int32)) % (g0_7 p0)))
def g0_161 (p2 : Int32) (p3 : Int32) : Int64 := (p2.toInt64 + p3.toInt64)
def g0_189 (p2 : Int32) (p3 : Int32) (p4 : Int32) : Int64 := ((g0_161 p2 p3) + p4.toInt64)
theorem own_kf (p0 : Int32) : (g0_7 p0).toInt = 1 + ((p0 &&& (3 : Int32)) % (3 : Int32)).toInt ∧ 0 ≤ ((p0 &&& (3 : Int32)) % (3 : Int32)).toInt ∧ ((p0 &&& (3 : Int32)) % (3 : Int32)).toInt ≤ 2 := by
  have m := c_mask p0 3 2 (by decide) (by decide)
  have r := c_irem (p0 &&& 3) 3 3 rfl
  have a := c_iadd 1 ((p0 &&& (3 : Int32)) % (3 : Int32))
  have g := rng32 (1 + (p0 &&& (3 : Int32)) % (3 : Int32))
  have t1 : (1 : Int32).toInt = 1 := rfl
  rw [t1] at a
  have e : (g0_7 p0).toInt = (1 + (p0 &&& (3 : Int32)) % (3 : Int32)).toInt := rfl
  rw [e]
  omega
theorem own_nz (p0 : Int32) : g0_7 p0 ≠ 0 := fun q => by
  have k := own_kf p0
  rw [q] at k
  have t0 : (0 : Int32).toInt = 0 := rfl
  omega
theorem own_kl (p0 : Int32) : (g0_7 p0 = (1 : Int32) ∧ own_late p0 = (0 : Int32)) ∨ (g0_7 p0 = (2 : Int32) ∧ own_late p0 = (0 : Int32)) ∨ (g0_7 p0 = (3 : Int32) ∧ own_late p0 = (0 : Int32)) ∨ (g0_7 p0 = (3 : Int32) ∧ own_late p0 = (1 : Int32)) := by
  have k := own_kf p0
  have t1 : (1 : Int32).toInt = 1 := rfl
  have t2 : (2 : Int32).toInt = 2 := rfl
  have t3 : (3 : Int32).toInt = 3 := rfl
  by_cases c : g0_7 p0 = 3
  · have e : own_late p0 = _ := if_pos c
    by_cases d : ((p0.toUInt32 >>> ((4 : Int32) &&& 31).toUInt32).toInt32 &&& (1 : Int32)) = (0 : Int32)
    · exact Or.inr (Or.inr (Or.inl ⟨c, e.trans (if_pos d)⟩))
    · exact Or.inr (Or.inr (Or.inr ⟨c, e.trans (if_neg d)⟩))
  · have e : own_late p0 = 0 := if_neg c
    have c' : ¬ (g0_7 p0).toInt = 3 := fun q => c (Int32.toInt_inj.mp q)
    by_cases d : (g0_7 p0).toInt = 1
    · exact Or.inl ⟨Int32.toInt_inj.mp d, e⟩
    · exact Or.inr (Or.inl ⟨Int32.toInt_inj.mp (by rw [t2]; omega), e⟩)
theorem own_mf (p0 : Int32) (k : Int) (hk : (g0_7 p0).toInt = k) (h1 : 1 ≤ k) (h3 : k ≤ 3) : 1 ≤ (g0_19 p0).toInt ∧ (g0_19 p0).toInt ≤ k := by
  have m := c_mask ((p0.toUInt32 >>> ((2 : Int32) &&& 31).toUInt32).toInt32) 3 2 (by decide) (by decide)
  have r := (c_iremV (((p0.toUInt32 >>> ((2 : Int32) &&& 31).toUInt32).toInt32) &&& 3) (g0_7 p0)).1 (by omega) (by omega)
  have a := c_iadd 1 ((((p0.toUInt32 >>> ((2 : Int32) &&& 31).toUInt32).toInt32) &&& 3) % (g0_7 p0))
  have g := rng32 (1 + (((p0.toUInt32 >>> ((2 : Int32) &&& 31).toUInt32).toInt32) &&& 3) % (g0_7 p0))
  have t1 : (1 : Int32).toInt = 1 := rfl
  rw [t1] at a
  have e : (g0_19 p0).toInt = (1 + (((p0.toUInt32 >>> ((2 : Int32) &&& 31).toUInt32).toInt32) &&& 3) % (g0_7 p0)).toInt := rfl
  rw [e]
  omega
theorem own_mk1 (p0 : Int32) (h : g0_7 p0 = (1 : Int32)) : g0_19 p0 = (1 : Int32) := by
  have f := own_mf p0 1 (by rw [h]; rfl) (by decide) (by decide)
  exact Int32.toInt_inj.mp (show _ = (1 : Int) by omega)
theorem own_mk2 (p0 : Int32) (h : g0_7 p0 = (2 : Int32)) : g0_19 p0 = (1 : Int32) ∨ g0_19 p0 = (2 : Int32) := by
  have f := own_mf p0 2 (by rw [h]; rfl) (by decide) (by decide)
  have t1 : (1 : Int32).toInt = 1 := rfl
  have t2 : (2 : Int32).toInt = 2 := rfl
  rw [← Int32.toInt_inj, ← Int32.toInt_inj, t1, t2]
  omega
theorem own_mk3 (p0 : Int32) (h : g0_7 p0 = (3 : Int32)) : g0_19 p0 = (1 : Int32) ∨ g0_19 p0 = (2 : Int32) ∨ g0_19 p0 = (3 : Int32) := by
  have f := own_mf p0 3 (by rw [h]; rfl) (by decide) (by decide)
  have t1 : (1 : Int32).toInt = 1 := rfl
  have t2 : (2 : Int32).toInt = 2 := rfl
  have t3 : (3 : Int32).toInt = 3 := rfl
  rw [← Int32.toInt_inj, ← Int32.toInt_inj, ← Int32.toInt_inj, t1, t2, t3]
  omega

set_option maxRecDepth 65536 in
set_option maxHeartbeats 40000000 in
theorem rm0 (l : Launch) (Z : State) (a0 : Array Value) (hw : ∀ d ∈ tables_1, d.before a0 Z = true) (ws : List Jvm.Cond) (p0 : Int32) (q1 : Int64) (p2 : Int32) (p3 : Int32) (p4 : Int32) (dd : Addr) (el : Addr) (md : Addr) (h0 : Heap) (n0 : Nat) (Z0 : n0 ≤ h0.size) (D0 : Old Z n0 h0) (S_dd : Sta Z Z.heap "java/util/ArrayList" "DEFAULTCAPACITY_EMPTY_ELEMENTDATA" "[Ljava/lang/Object;" (.ref dd)) (S_el : Sta Z Z.heap "java/util/ImmutableCollections" "EMPTY_LIST" "Ljava/util/ImmutableCollections$ListN;" (.ref el)) (S_md : Sta Z Z.heap "com/example/mapcodex/mapcodex/osm/Metadata" "NONE" "Lcom/example/mapcodex/mapcodex/osm/Metadata;" (.ref md)) (E_md : Exa Z h0 md "com/example/mapcodex/mapcodex/osm/Metadata") :
    CmetW l Z x code maxLocals ret ws room_1 #[(.int p0), (.long q1), (.int p2), (.int p3), (.int p4)] h0 (fun v h' L => v = some (.int 1) ∧ Fr n0 L) := by
  refine MetFree.of_bodySF (plainFor_of_name pn_8) hisR ?_
  intro p e s m args below meth c s₁ Bd hml0 hP hK
  obtain ⟨rfl, hZ, hh⟩ := hP
  have hx := Bd.exec
  have hlk : meth.locks = false := BodyLoose.notSynchronized Bd
  have hby := Bd.bytes
  have hml : c.maxLocals = 17 := hml0
  have hown : s.vm.findClass "com/example/mapcodex/mapcodex/pbf/ObjectBatchNextPinLaw" = some m.cls := findClass_of_methodNamed Bd.named
  have hnm := (name_of_methodNamed Bd.named Bd.method).1
  have X0 : Stand p l e room_1 (s.setVm s.vm) m #[(.int p0), (.long q1), (.int p2), (.int p3), (.int p4)] below meth c s₁ [] 0 0 := Stand.of_body Bd
  have e0 : s₁.heap = h0 := by rw [← hh, Bd.state]; rfl
  have N0 := Fr.nil n0
  have hS0 : s.Since s.vm 0 := (State.WarmedH.refl s).since 0
  have B230_1_0 : ∀ (T_230_1_0 : State) (h_230_1_0 : Heap) (locs : List Loc) (vm_230_1_0 : Vm) (kk_230_1_0 : Nat) (X_230_1_0 : Stand p l e room_1 (s.setVm vm_230_1_0) m #[(.int p0), (.long q1), (.int p2), (.int p3), (.int p4)] below meth c T_230_1_0 locs 18 4229) (e_230_1_0 : T_230_1_0.heap = h_230_1_0) (hZ_230_1_0 : Z.Warmed39 (s.setVm vm_230_1_0).vm) (hown_230_1_0 : (s.setVm vm_230_1_0).vm.findClass "com/example/mapcodex/mapcodex/pbf/ObjectBatchNextPinLaw" = some m.cls) (hS_230_1_0 : s.Since vm_230_1_0 kk_230_1_0) (b28 : Addr) (b3 : Addr) (b4 : Addr) (b55 : Addr) (b84 : Addr) (b89 : Addr) (N_230_1_0 : Fr n0 locs) (H230_1_0_Z : n0 ≤ h_230_1_0.size) (H230_1_0_G : kk_230_1_0 ≤ h_230_1_0.size) (H230_1_0_E_b4 : Exa Z h_230_1_0 b4 "com/example/mapcodex/mapcodex/osm/Way") (H230_1_0_E_b28 : Exa Z h_230_1_0 b28 "com/example/mapcodex/mapcodex/osm/Way") (H230_1_0_E_b55 : Exa Z h_230_1_0 b55 "com/example/mapcodex/mapcodex/osm/Way") (H230_1_0_E_b84 : Exa Z h_230_1_0 b84 "com/example/mapcodex/mapcodex/pbf/ObjectBatch") (H230_1_0_F_b84_objects : Fld Z h_230_1_0 b84 "com/example/mapcodex/mapcodex/pbf/ObjectBatch" "objects" "[Ljava/lang/Object;" (.ref b89)) (H230_1_0_F_b84_size : Fld Z h_230_1_0 b84 "com/example/mapcodex/mapcodex/pbf/ObjectBatch" "size" "I" (.int (1 : Int32))) (H230_1_0_F_b84_values : Fld Z h_230_1_0 b84 "com/example/mapcodex/mapcodex/pbf/ObjectBatch" "values" "J" (.long ((0 : Int64) + p2.toInt64))) (H230_1_0_F_b84_handed : Fld Z h_230_1_0 b84 "com/example/mapcodex/mapcodex/pbf/ObjectBatch" "handed" "I" (.int (1 : Int32))) (H230_1_0_A_b89 : AryR Z h_230_1_0 b89 "java/lang/Object" (4096 : Int32) (upd (upd (fun _ => .null) 0 (.ref b4)) 0 .null)) (ne230_1_0_b4_b28 : b4 ≠ b28) (ne230_1_0_b4_b55 : b4 ≠ b55) (ne230_1_0_b28_b55 : b28 ≠ b55) (ne230_1_0_b4_b84 : b4 ≠ b84) (ne230_1_0_b28_b84 : b28 ≠ b84) (ne230_1_0_b55_b84 : b55 ≠ b84) (ne230_1_0_b4_b89 : b4 ≠ b89) (ne230_1_0_b28_b89 : b28 ≠ b89) (ne230_1_0_b55_b89 : b55 ≠ b89) (ne230_1_0_b84_b89 : b84 ≠ b89) (ge230_1_0_b28 : n0 ≤ b28) (ge230_1_0_b4 : n0 ≤ b4) (ge230_1_0_b55 : n0 ≤ b55) (ge230_1_0_b84 : n0 ≤ b84) (ge230_1_0_b89 : n0 ≤ b89) (cy230_1_0_h6 : g0_7 p0 = (1 : Int32)), FiniW p e below s (fun v h' L => v = some (.int 1) ∧ Fr n0 L) (Room.cells room_1) (Room.slots room_1) T_230_1_0 (mkF m 230 #[.val (.int p0), .val (.long q1), .second, .val (.int p2), .val (.int p3), .val (.int p4), .val (.int (1 : Int32)), .val (.int (g0_19 p0)), .val (.int (0 : Int32)), .val (.ref b3), .val (.ref b4), .val (.ref b28), .val (.ref b55), .val (.ref b84), .val (.long p2.toInt64), .second, .val (.int (1 : Int32))] []) := by
    intro T_230_1_0 h_230_1_0 locs vm_230_1_0 kk_230_1_0 X_230_1_0 e_230_1_0 hZ_230_1_0 hown_230_1_0 hS_230_1_0 b28 b3 b4 b55 b84 b89 N_230_1_0 H230_1_0_Z H230_1_0_G H230_1_0_E_b4 H230_1_0_E_b28 H230_1_0_E_b55 H230_1_0_E_b84 H230_1_0_F_b84_objects H230_1_0_F_b84_size H230_1_0_F_b84_values H230_1_0_F_b84_handed H230_1_0_A_b89 ne230_1_0_b4_b28 ne230_1_0_b4_b55 ne230_1_0_b28_b55 ne230_1_0_b4_b84 ne230_1_0_b28_b84 ne230_1_0_b55_b84 ne230_1_0_b4_b89 ne230_1_0_b28_b89 ne230_1_0_b55_b89 ne230_1_0_b84_b89 ge230_1_0_b28 ge230_1_0_b4 ge230_1_0_b55 ge230_1_0_b84 ge230_1_0_b89 cy230_1_0_h6
    have hZ := hZ_230_1_0
    have hown := hown_230_1_0
    refine FiniW.st (fun _ k => XS.iload X_230_1_0.here hx rfl (hb hby at_230) rfl k) ?_
    show FiniW p e below s _ _ _ T_230_1_0 (mkF m 232 #[.val (.int p0), .val (.long q1), .second, .val (.int p2), .val (.int p3), .val (.int p4), .val (.int (1 : Int32)), .val (.int (g0_19 p0)), .val (.int (0 : Int32)), .val (.ref b3), .val (.ref b4), .val (.ref b28), .val (.ref b55), .val (.ref b84), .val (.long p2.toInt64), .second, .val (.int (1 : Int32))] [(.int (g0_19 p0))])
    rcases own_mk1 p0 cy230_1_0_h6 with h7
    · skip
      refine FiniW.cast (g' := (mkF m 232 #[.val (.int p0), .val (.long q1), .second, .val (.int p2), .val (.int p3), .val (.int p4), .val (.int (1 : Int32)), .val (.int (1 : Int32)), .val (.int (0 : Int32)), .val (.ref b3), .val (.ref b4), .val (.ref b28), .val (.ref b55), .val (.ref b84), .val (.long p2.toInt64), .second, .val (.int (1 : Int32))] [(.int (1 : Int32))])) (by rw [h7]) ?_
      show FiniW p e below s _ _ _ T_230_1_0 (mkF m 232 #[.val (.int p0), .val (.long q1), .second, .val (.int p2), .val (.int p3), .val (.int p4), .val (.int (1 : Int32)), .val (.int (1 : Int32)), .val (.int (0 : Int32)), .val (.ref b3), .val (.ref b4), .val (.ref b28), .val (.ref b55), .val (.ref b84), .val (.long p2.toInt64), .second, .val (.int (1 : Int32))] [(.int (1 : Int32))])
      refine FiniW.st (fun _ k => XS.iconst X_230_1_0.here hx rfl (hb hby at_232) k) ?_
      show FiniW p e below s _ _ _ T_230_1_0 (mkF m 233 #[.val (.int p0), .val (.long q1), .second, .val (.int p2), .val (.int p3), .val (.int p4), .val (.int (1 : Int32)), .val (.int (1 : Int32)), .val (.int (0 : Int32)), .val (.ref b3), .val (.ref b4), .val (.ref b28), .val (.ref b55), .val (.ref b84), .val (.long p2.toInt64), .second, .val (.int (1 : Int32))] [(.int (2 : Int32)), (.int (1 : Int32))])
      refine FiniW.st (fun _ k => XS.icmpYes X_230_1_0.here hx rfl (pc0 := 233) (pc' := 258) rfl (hb hby at_233) rfl (XT.ii_lt_t (by decide : (1 : Int32) < (2 : Int32))) (by decide) (by decide) k) ?_
      show FiniW p e below s _ _ _ T_230_1_0 (mkF m 258 #[.val (.int p0), .val (.long q1), .second, .val (.int p2), .val (.int p3), .val (.int p4), .val (.int (1 : Int32)), .val (.int (1 : Int32)), .val (.int (0 : Int32)), .val (.ref b3), .val (.ref b4), .val (.ref b28), .val (.ref b55), .val (.ref b84), .val (.long p2.toInt64), .second, .val (.int (1 : Int32))] [])
      refine FiniW.st (fun _ k => XS.iload X_230_1_0.here hx rfl (hb hby at_258) rfl k) ?_
      show FiniW p e below s _ _ _ T_230_1_0 (mkF m 260 #[.val (.int p0), .val (.long q1), .second, .val (.int p2), .val (.int p3), .val (.int p4), .val (.int (1 : Int32)), .val (.int (1 : Int32)), .val (.int (0 : Int32)), .val (.ref b3), .val (.ref b4), .val (.ref b28), .val (.ref b55), .val (.ref b84), .val (.long p2.toInt64), .second, .val (.int (1 : Int32))] [(.int (1 : Int32))])
      refine FiniW.st (fun _ k => XS.iconst X_230_1_0.here hx rfl (hb hby at_260) k) ?_
      show FiniW p e below s _ _ _ T_230_1_0 (mkF m 261 #[.val (.int p0), .val (.long q1), .second, .val (.int p2), .val (.int p3), .val (.int p4), .val (.int (1 : Int32)), .val (.int (1 : Int32)), .val (.int (0 : Int32)), .val (.ref b3), .val (.ref b4), .val (.ref b28), .val (.ref b55), .val (.ref b84), .val (.long p2.toInt64), .second, .val (.int (1 : Int32))] [(.int (3 : Int32)), (.int (1 : Int32))])
      refine FiniW.st (fun _ k => XS.icmpYes X_230_1_0.here hx rfl (pc0 := 261) (pc' := 286) rfl (hb hby at_261) rfl (XT.ii_lt_t (by decide : (1 : Int32) < (3 : Int32))) (by decide) (by decide) k) ?_
      show FiniW p e below s _ _ _ T_230_1_0 (mkF m 286 #[.val (.int p0), .val (.long q1), .second, .val (.int p2), .val (.int p3), .val (.int p4), .val (.int (1 : Int32)), .val (.int (1 : Int32)), .val (.int (0 : Int32)), .val (.ref b3), .val (.ref b4), .val (.ref b28), .val (.ref b55), .val (.ref b84), .val (.long p2.toInt64), .second, .val (.int (1 : Int32))] [])
      refine FiniW.st (fun _ k => XS.iload X_230_1_0.here hx rfl (hb hby at_286) rfl k) ?_
      show FiniW p e below s _ _ _ T_230_1_0 (mkF m 288 #[.val (.int p0), .val (.long q1), .second, .val (.int p2), .val (.int p3), .val (.int p4), .val (.int (1 : Int32)), .val (.int (1 : Int32)), .val (.int (0 : Int32)), .val (.ref b3), .val (.ref b4), .val (.ref b28), .val (.ref b55), .val (.ref b84), .val (.long p2.toInt64), .second, .val (.int (1 : Int32))] [(.int (1 : Int32))])
      refine FiniW.st (fun _ k => XS.ifNo X_230_1_0.here hx rfl (hb hby at_288) rfl (XT.i0_eq_f (by decide : ¬ (1 : Int32) = (0 : Int32))) k) ?_
      show FiniW p e below s _ _ _ T_230_1_0 (mkF m 291 #[.val (.int p0), .val (.long q1), .second, .val (.int p2), .val (.int p3), .val (.int p4), .val (.int (1 : Int32)), .val (.int (1 : Int32)), .val (.int (0 : Int32)), .val (.ref b3), .val (.ref b4), .val (.ref b28), .val (.ref b55), .val (.ref b84), .val (.long p2.toInt64), .second, .val (.int (1 : Int32))] [])
      refine FiniW.st (fun _ k => XS.aload X_230_1_0.here hx rfl (hb hby at_291) rfl rfl k) ?_
      show FiniW p e below s _ _ _ T_230_1_0 (mkF m 293 #[.val (.int p0), .val (.long q1), .second, .val (.int p2), .val (.int p3), .val (.int p4), .val (.int (1 : Int32)), .val (.int (1 : Int32)), .val (.int (0 : Int32)), .val (.ref b3), .val (.ref b4), .val (.ref b28), .val (.ref b55), .val (.ref b84), .val (.long p2.toInt64), .second, .val (.int (1 : Int32))] [(.ref b84)])
      obtain ⟨T134, X134, e134, st134⟩ := pureV X_230_1_0 hx hZ hown (hw _ (List.mem_of_getElem? (i := 123) rfl)) (hw _ (List.mem_of_getElem? (i := 124) rfl)) (hw _ (List.mem_of_getElem? (i := 126) rfl)) (hw _ (List.mem_of_getElem? (i := 125) rfl)) (hw _ (List.mem_of_getElem? (i := 95) rfl)) (hw _ (List.mem_of_getElem? (i := 127) rfl)) (notFace_of_selects (args := #[]) (mvT hZ (hw _ (List.mem_of_getElem? (i := 126) rfl)))) H230_1_0_E_b84 (by decide) (rm14 l Z a0 hw [] b84 (1 : Int32) (1 : Int32) h_230_1_0 H230_1_0_F_b84_size H230_1_0_F_b84_handed) e_230_1_0 (W := 0) (by decide) (by decide) (by decide) (by decide) (g := (mkF m 293 #[.val (.int p0), .val (.long q1), .second, .val (.int p2), .val (.int p3), .val (.int p4), .val (.int (1 : Int32)), .val (.int (1 : Int32)), .val (.int (0 : Int32)), .val (.ref b3), .val (.ref b4), .val (.ref b28), .val (.ref b55), .val (.ref b84), .val (.long p2.toInt64), .second, .val (.int (1 : Int32))] [(.ref b84)])) rfl (by rw [hml]; rfl) (argsL := []) (rest := []) rfl (lenOf pd_9 rfl) rfl (by show 2 * 0 + _ ≤ _; exact Nat.le_of_eq rfl) (hb hby at_293)
      refine FiniW.st st134 ?_
      show FiniW p e below s _ _ _ T134 (mkF m 296 #[.val (.int p0), .val (.long q1), .second, .val (.int p2), .val (.int p3), .val (.int p4), .val (.int (1 : Int32)), .val (.int (1 : Int32)), .val (.int (0 : Int32)), .val (.ref b3), .val (.ref b4), .val (.ref b28), .val (.ref b55), .val (.ref b84), .val (.long p2.toInt64), .second, .val (.int (1 : Int32))] [(.int (0 : Int32))])
      refine FiniW.st (fun _ k => XS.iload X134.here hx rfl (hb hby at_296) rfl k) ?_
      show FiniW p e below s _ _ _ T134 (mkF m 298 #[.val (.int p0), .val (.long q1), .second, .val (.int p2), .val (.int p3), .val (.int p4), .val (.int (1 : Int32)), .val (.int (1 : Int32)), .val (.int (0 : Int32)), .val (.ref b3), .val (.ref b4), .val (.ref b28), .val (.ref b55), .val (.ref b84), .val (.long p2.toInt64), .second, .val (.int (1 : Int32))] [(.int (1 : Int32)), (.int (0 : Int32))])
      refine FiniW.st (fun _ k => XS.iload X134.here hx rfl (hb hby at_298) rfl k) ?_
      show FiniW p e below s _ _ _ T134 (mkF m 300 #[.val (.int p0), .val (.long q1), .second, .val (.int p2), .val (.int p3), .val (.int p4), .val (.int (1 : Int32)), .val (.int (1 : Int32)), .val (.int (0 : Int32)), .val (.ref b3), .val (.ref b4), .val (.ref b28), .val (.ref b55), .val (.ref b84), .val (.long p2.toInt64), .second, .val (.int (1 : Int32))] [(.int (1 : Int32)), (.int (1 : Int32)), (.int (0 : Int32))])
      refine FiniW.st (fun _ k => XS.icmpYes X134.here hx rfl (pc0 := 300) (pc' := 307) rfl (hb hby at_300) rfl (XT.ii_ge_t (by decide : ¬ (1 : Int32) < (1 : Int32))) (by decide) (by decide) k) ?_
      show FiniW p e below s _ _ _ T134 (mkF m 307 #[.val (.int p0), .val (.long q1), .second, .val (.int p2), .val (.int p3), .val (.int p4), .val (.int (1 : Int32)), .val (.int (1 : Int32)), .val (.int (0 : Int32)), .val (.ref b3), .val (.ref b4), .val (.ref b28), .val (.ref b55), .val (.ref b84), .val (.long p2.toInt64), .second, .val (.int (1 : Int32))] [(.int (0 : Int32))])
      refine FiniW.st (fun _ k => XS.iconst X134.here hx rfl (hb hby at_307) k) ?_
      show FiniW p e below s _ _ _ T134 (mkF m 308 #[.val (.int p0), .val (.long q1), .second, .val (.int p2), .val (.int p3), .val (.int p4), .val (.int (1 : Int32)), .val (.int (1 : Int32)), .val (.int (0 : Int32)), .val (.ref b3), .val (.ref b4), .val (.ref b28), .val (.ref b55), .val (.ref b84), .val (.long p2.toInt64), .second, .val (.int (1 : Int32))] [(.int (0 : Int32)), (.int (0 : Int32))])
      refine FiniW.st (fun _ k => XS.icmpNo X134.here hx rfl (hb hby at_308) rfl (XT.ii_ne_f (by decide : (0 : Int32) = (0 : Int32))) k) ?_
      show FiniW p e below s _ _ _ T134 (mkF m 311 #[.val (.int p0), .val (.long q1), .second, .val (.int p2), .val (.int p3), .val (.int p4), .val (.int (1 : Int32)), .val (.int (1 : Int32)), .val (.int (0 : Int32)), .val (.ref b3), .val (.ref b4), .val (.ref b28), .val (.ref b55), .val (.ref b84), .val (.long p2.toInt64), .second, .val (.int (1 : Int32))] [])
      refine FiniW.st (fun _ k => XS.iconst X134.here hx rfl (hb hby at_311) k) ?_
      show FiniW p e below s _ _ _ T134 (mkF m 312 #[.val (.int p0), .val (.long q1), .second, .val (.int p2), .val (.int p3), .val (.int p4), .val (.int (1 : Int32)), .val (.int (1 : Int32)), .val (.int (0 : Int32)), .val (.ref b3), .val (.ref b4), .val (.ref b28), .val (.ref b55), .val (.ref b84), .val (.long p2.toInt64), .second, .val (.int (1 : Int32))] [(.int (1 : Int32))])
      refine FiniW.st (fun _ k => XS.goto X134.here hx rfl (pc0 := 312) (pc' := 316) rfl (hb hby at_312) (by decide) (by decide) k) ?_
      show FiniW p e below s _ _ _ T134 (mkF m 316 #[.val (.int p0), .val (.long q1), .second, .val (.int p2), .val (.int p3), .val (.int p4), .val (.int (1 : Int32)), .val (.int (1 : Int32)), .val (.int (0 : Int32)), .val (.ref b3), .val (.ref b4), .val (.ref b28), .val (.ref b55), .val (.ref b84), .val (.long p2.toInt64), .second, .val (.int (1 : Int32))] [(.int (1 : Int32))])
      refine FiniW.st (fun _ k => XS.istore X134.here hx rfl (hb hby at_316) rfl (l' := #[.val (.int p0), .val (.long q1), .second, .val (.int p2), .val (.int p3), .val (.int p4), .val (.int (1 : Int32)), .val (.int (1 : Int32)), .val (.int (0 : Int32)), .val (.ref b3), .val (.ref b4), .val (.ref b28), .val (.ref b55), .val (.ref b84), .val (.long p2.toInt64), .second, .val (.int (1 : Int32))]) rfl k) ?_
      show FiniW p e below s _ _ _ T134 (mkF m 318 #[.val (.int p0), .val (.long q1), .second, .val (.int p2), .val (.int p3), .val (.int p4), .val (.int (1 : Int32)), .val (.int (1 : Int32)), .val (.int (0 : Int32)), .val (.ref b3), .val (.ref b4), .val (.ref b28), .val (.ref b55), .val (.ref b84), .val (.long p2.toInt64), .second, .val (.int (1 : Int32))] [])
      refine FiniW.st (fun _ k => XS.iload X134.here hx rfl (hb hby at_318) rfl k) ?_
      show FiniW p e below s _ _ _ T134 (mkF m 320 #[.val (.int p0), .val (.long q1), .second, .val (.int p2), .val (.int p3), .val (.int p4), .val (.int (1 : Int32)), .val (.int (1 : Int32)), .val (.int (0 : Int32)), .val (.ref b3), .val (.ref b4), .val (.ref b28), .val (.ref b55), .val (.ref b84), .val (.long p2.toInt64), .second, .val (.int (1 : Int32))] [(.int (1 : Int32))])
      refine FiniW.st (fun _ k => XS.ifNo X134.here hx rfl (hb hby at_320) rfl (XT.i0_eq_f (by decide : ¬ (1 : Int32) = (0 : Int32))) k) ?_
      show FiniW p e below s _ _ _ T134 (mkF m 323 #[.val (.int p0), .val (.long q1), .second, .val (.int p2), .val (.int p3), .val (.int p4), .val (.int (1 : Int32)), .val (.int (1 : Int32)), .val (.int (0 : Int32)), .val (.ref b3), .val (.ref b4), .val (.ref b28), .val (.ref b55), .val (.ref b84), .val (.long p2.toInt64), .second, .val (.int (1 : Int32))] [])
      refine FiniW.st (fun _ k => XS.aload X134.here hx rfl (hb hby at_323) rfl rfl k) ?_
      show FiniW p e below s _ _ _ T134 (mkF m 325 #[.val (.int p0), .val (.long q1), .second, .val (.int p2), .val (.int p3), .val (.int p4), .val (.int (1 : Int32)), .val (.int (1 : Int32)), .val (.int (0 : Int32)), .val (.ref b3), .val (.ref b4), .val (.ref b28), .val (.ref b55), .val (.ref b84), .val (.long p2.toInt64), .second, .val (.int (1 : Int32))] [(.ref b84)])
      obtain ⟨T135, X135, e135, st135⟩ := pureV X134 hx hZ hown (hw _ (List.mem_of_getElem? (i := 128) rfl)) (hw _ (List.mem_of_getElem? (i := 129) rfl)) (hw _ (List.mem_of_getElem? (i := 131) rfl)) (hw _ (List.mem_of_getElem? (i := 130) rfl)) (hw _ (List.mem_of_getElem? (i := 95) rfl)) (hw _ (List.mem_of_getElem? (i := 132) rfl)) (notFace_of_selects (args := #[]) (mvT hZ (hw _ (List.mem_of_getElem? (i := 131) rfl)))) H230_1_0_E_b84 (by decide) (rm15 l Z a0 hw [] b84 ((0 : Int64) + p2.toInt64) h_230_1_0 H230_1_0_F_b84_values) e134 (W := 0) (by decide) (by decide) (by decide) (by decide) (g := (mkF m 325 #[.val (.int p0), .val (.long q1), .second, .val (.int p2), .val (.int p3), .val (.int p4), .val (.int (1 : Int32)), .val (.int (1 : Int32)), .val (.int (0 : Int32)), .val (.ref b3), .val (.ref b4), .val (.ref b28), .val (.ref b55), .val (.ref b84), .val (.long p2.toInt64), .second, .val (.int (1 : Int32))] [(.ref b84)])) rfl (by rw [hml]; rfl) (argsL := []) (rest := []) rfl (lenOf pd_10 rfl) rfl (by show 2 * 0 + _ ≤ _; exact Nat.le_of_eq rfl) (hb hby at_325)
      refine FiniW.st st135 ?_
      show FiniW p e below s _ _ _ T135 (mkF m 328 #[.val (.int p0), .val (.long q1), .second, .val (.int p2), .val (.int p3), .val (.int p4), .val (.int (1 : Int32)), .val (.int (1 : Int32)), .val (.int (0 : Int32)), .val (.ref b3), .val (.ref b4), .val (.ref b28), .val (.ref b55), .val (.ref b84), .val (.long p2.toInt64), .second, .val (.int (1 : Int32))] [(.long ((0 : Int64) + p2.toInt64))])
      refine FiniW.st (fun _ k => XS.lload X135.here hx rfl (hb hby at_328) rfl k) ?_
      show FiniW p e below s _ _ _ T135 (mkF m 330 #[.val (.int p0), .val (.long q1), .second, .val (.int p2), .val (.int p3), .val (.int p4), .val (.int (1 : Int32)), .val (.int (1 : Int32)), .val (.int (0 : Int32)), .val (.ref b3), .val (.ref b4), .val (.ref b28), .val (.ref b55), .val (.ref b84), .val (.long p2.toInt64), .second, .val (.int (1 : Int32))] [(.long p2.toInt64), (.long ((0 : Int64) + p2.toInt64))])
      refine FiniW.st (fun _ k => XT.lcmp X135.here hx rfl (hb hby at_330) rfl k) ?_
      show FiniW p e below s _ _ _ T135 (mkF m 331 #[.val (.int p0), .val (.long q1), .second, .val (.int p2), .val (.int p3), .val (.int p4), .val (.int (1 : Int32)), .val (.int (1 : Int32)), .val (.int (0 : Int32)), .val (.ref b3), .val (.ref b4), .val (.ref b28), .val (.ref b55), .val (.ref b84), .val (.long p2.toInt64), .second, .val (.int (1 : Int32))] [(.int (XT.cmpL ((0 : Int64) + p2.toInt64) p2.toInt64))])
      refine FiniW.st (fun _ k => XS.ifNo X135.here hx rfl (hb hby at_331) rfl (XT.ll_ne_f (show ((0 : Int64) + p2.toInt64) = p2.toInt64 by first | (rw [Int64.zero_add]; done) | (rw [Int64.zero_add]; rfl))) k) ?_
      show FiniW p e below s _ _ _ T135 (mkF m 334 #[.val (.int p0), .val (.long q1), .second, .val (.int p2), .val (.int p3), .val (.int p4), .val (.int (1 : Int32)), .val (.int (1 : Int32)), .val (.int (0 : Int32)), .val (.ref b3), .val (.ref b4), .val (.ref b28), .val (.ref b55), .val (.ref b84), .val (.long p2.toInt64), .second, .val (.int (1 : Int32))] [])
      refine FiniW.st (fun _ k => XS.iconst X135.here hx rfl (hb hby at_334) k) ?_
      show FiniW p e below s _ _ _ T135 (mkF m 335 #[.val (.int p0), .val (.long q1), .second, .val (.int p2), .val (.int p3), .val (.int p4), .val (.int (1 : Int32)), .val (.int (1 : Int32)), .val (.int (0 : Int32)), .val (.ref b3), .val (.ref b4), .val (.ref b28), .val (.ref b55), .val (.ref b84), .val (.long p2.toInt64), .second, .val (.int (1 : Int32))] [(.int (1 : Int32))])
      refine FiniW.st (fun _ k => XS.goto X135.here hx rfl (pc0 := 335) (pc' := 339) rfl (hb hby at_335) (by decide) (by decide) k) ?_
      show FiniW p e below s _ _ _ T135 (mkF m 339 #[.val (.int p0), .val (.long q1), .second, .val (.int p2), .val (.int p3), .val (.int p4), .val (.int (1 : Int32)), .val (.int (1 : Int32)), .val (.int (0 : Int32)), .val (.ref b3), .val (.ref b4), .val (.ref b28), .val (.ref b55), .val (.ref b84), .val (.long p2.toInt64), .second, .val (.int (1 : Int32))] [(.int (1 : Int32))])
      refine FiniW.st (fun _ k => XS.istore X135.here hx rfl (hb hby at_339) rfl (l' := #[.val (.int p0), .val (.long q1), .second, .val (.int p2), .val (.int p3), .val (.int p4), .val (.int (1 : Int32)), .val (.int (1 : Int32)), .val (.int (0 : Int32)), .val (.ref b3), .val (.ref b4), .val (.ref b28), .val (.ref b55), .val (.ref b84), .val (.long p2.toInt64), .second, .val (.int (1 : Int32))]) rfl k) ?_
      show FiniW p e below s _ _ _ T135 (mkF m 341 #[.val (.int p0), .val (.long q1), .second, .val (.int p2), .val (.int p3), .val (.int p4), .val (.int (1 : Int32)), .val (.int (1 : Int32)), .val (.int (0 : Int32)), .val (.ref b3), .val (.ref b4), .val (.ref b28), .val (.ref b55), .val (.ref b84), .val (.long p2.toInt64), .second, .val (.int (1 : Int32))] [])
      refine FiniW.st (fun _ k => XS.iload X135.here hx rfl (hb hby at_341) rfl k) ?_
      show FiniW p e below s _ _ _ T135 (mkF m 343 #[.val (.int p0), .val (.long q1), .second, .val (.int p2), .val (.int p3), .val (.int p4), .val (.int (1 : Int32)), .val (.int (1 : Int32)), .val (.int (0 : Int32)), .val (.ref b3), .val (.ref b4), .val (.ref b28), .val (.ref b55), .val (.ref b84), .val (.long p2.toInt64), .second, .val (.int (1 : Int32))] [(.int (1 : Int32))])
      exact FiniW.retN X135 hx hlk (t := .boolean) Bd.returns (by simp) (hb hby at_343) nb1 hS_230_1_0 (by rw [e135]; exact H230_1_0_G) (by decide) (by decide) ⟨rfl, N_230_1_0⟩
  have B230_2_0 : ∀ (T_230_2_0 : State) (h_230_2_0 : Heap) (locs : List Loc) (vm_230_2_0 : Vm) (kk_230_2_0 : Nat) (X_230_2_0 : Stand p l e room_1 (s.setVm vm_230_2_0) m #[(.int p0), (.long q1), (.int p2), (.int p3), (.int p4)] below meth c T_230_2_0 locs 18 4229) (e_230_2_0 : T_230_2_0.heap = h_230_2_0) (hZ_230_2_0 : Z.Warmed39 (s.setVm vm_230_2_0).vm) (hown_230_2_0 : (s.setVm vm_230_2_0).vm.findClass "com/example/mapcodex/mapcodex/pbf/ObjectBatchNextPinLaw" = some m.cls) (hS_230_2_0 : s.Since vm_230_2_0 kk_230_2_0) (b28 : Addr) (b3 : Addr) (b4 : Addr) (b55 : Addr) (b84 : Addr) (b89 : Addr) (N_230_2_0 : Fr n0 locs) (H230_2_0_Z : n0 ≤ h_230_2_0.size) (H230_2_0_G : kk_230_2_0 ≤ h_230_2_0.size) (H230_2_0_E_b4 : Exa Z h_230_2_0 b4 "com/example/mapcodex/mapcodex/osm/Way") (H230_2_0_E_b28 : Exa Z h_230_2_0 b28 "com/example/mapcodex/mapcodex/osm/Way") (H230_2_0_E_b55 : Exa Z h_230_2_0 b55 "com/example/mapcodex/mapcodex/osm/Way") (H230_2_0_E_b84 : Exa Z h_230_2_0 b84 "com/example/mapcodex/mapcodex/pbf/ObjectBatch") (H230_2_0_F_b84_objects : Fld Z h_230_2_0 b84 "com/example/mapcodex/mapcodex/pbf/ObjectBatch" "objects" "[Ljava/lang/Object;" (.ref b89)) (H230_2_0_F_b84_size : Fld Z h_230_2_0 b84 "com/example/mapcodex/mapcodex/pbf/ObjectBatch" "size" "I" (.int (2 : Int32))) (H230_2_0_F_b84_values : Fld Z h_230_2_0 b84 "com/example/mapcodex/mapcodex/pbf/ObjectBatch" "values" "J" (.long (((0 : Int64) + p2.toInt64) + p3.toInt64))) (H230_2_0_F_b84_handed : Fld Z h_230_2_0 b84 "com/example/mapcodex/mapcodex/pbf/ObjectBatch" "handed" "I" (.int (1 : Int32))) (H230_2_0_A_b89 : AryR Z h_230_2_0 b89 "java/lang/Object" (4096 : Int32) (upd (upd (upd (fun _ => .null) 0 (.ref b4)) 1 (.ref b28)) 0 .null)) (ne230_2_0_b4_b28 : b4 ≠ b28) (ne230_2_0_b4_b55 : b4 ≠ b55) (ne230_2_0_b28_b55 : b28 ≠ b55) (ne230_2_0_b4_b84 : b4 ≠ b84) (ne230_2_0_b28_b84 : b28 ≠ b84) (ne230_2_0_b55_b84 : b55 ≠ b84) (ne230_2_0_b4_b89 : b4 ≠ b89) (ne230_2_0_b28_b89 : b28 ≠ b89) (ne230_2_0_b55_b89 : b55 ≠ b89) (ne230_2_0_b84_b89 : b84 ≠ b89) (ge230_2_0_b28 : n0 ≤ b28) (ge230_2_0_b4 : n0 ≤ b4) (ge230_2_0_b55 : n0 ≤ b55) (ge230_2_0_b84 : n0 ≤ b84) (ge230_2_0_b89 : n0 ≤ b89) (cy230_2_0_h6 : g0_7 p0 = (2 : Int32)), FiniW p e below s (fun v h' L => v = some (.int 1) ∧ Fr n0 L) (Room.cells room_1) (Room.slots room_1) T_230_2_0 (mkF m 230 #[.val (.int p0), .val (.long q1), .second, .val (.int p2), .val (.int p3), .val (.int p4), .val (.int (2 : Int32)), .val (.int (g0_19 p0)), .val (.int (0 : Int32)), .val (.ref b3), .val (.ref b4), .val (.ref b28), .val (.ref b55), .val (.ref b84), .val (.long (g0_161 p2 p3)), .second, .val (.int (1 : Int32))] []) := by
    intro T_230_2_0 h_230_2_0 locs vm_230_2_0 kk_230_2_0 X_230_2_0 e_230_2_0 hZ_230_2_0 hown_230_2_0 hS_230_2_0 b28 b3 b4 b55 b84 b89 N_230_2_0 H230_2_0_Z H230_2_0_G H230_2_0_E_b4 H230_2_0_E_b28 H230_2_0_E_b55 H230_2_0_E_b84 H230_2_0_F_b84_objects H230_2_0_F_b84_size H230_2_0_F_b84_values H230_2_0_F_b84_handed H230_2_0_A_b89 ne230_2_0_b4_b28 ne230_2_0_b4_b55 ne230_2_0_b28_b55 ne230_2_0_b4_b84 ne230_2_0_b28_b84 ne230_2_0_b55_b84 ne230_2_0_b4_b89 ne230_2_0_b28_b89 ne230_2_0_b55_b89 ne230_2_0_b84_b89 ge230_2_0_b28 ge230_2_0_b4 ge230_2_0_b55 ge230_2_0_b84 ge230_2_0_b89 cy230_2_0_h6
    have hZ := hZ_230_2_0
    have hown := hown_230_2_0
    refine FiniW.st (fun _ k => XS.iload X_230_2_0.here hx rfl (hb hby at_230) rfl k) ?_
    show FiniW p e below s _ _ _ T_230_2_0 (mkF m 232 #[.val (.int p0), .val (.long q1), .second, .val (.int p2), .val (.int p3), .val (.int p4), .val (.int (2 : Int32)), .val (.int (g0_19 p0)), .val (.int (0 : Int32)), .val (.ref b3), .val (.ref b4), .val (.ref b28), .val (.ref b55), .val (.ref b84), .val (.long (g0_161 p2 p3)), .second, .val (.int (1 : Int32))] [(.int (g0_19 p0))])
    rcases own_mk2 p0 cy230_2_0_h6 with h7 | h7
    · skip
      refine FiniW.cast (g' := (mkF m 232 #[.val (.int p0), .val (.long q1), .second, .val (.int p2), .val (.int p3), .val (.int p4), .val (.int (2 : Int32)), .val (.int (1 : Int32)), .val (.int (0 : Int32)), .val (.ref b3), .val (.ref b4), .val (.ref b28), .val (.ref b55), .val (.ref b84), .val (.long (g0_161 p2 p3)), .second, .val (.int (1 : Int32))] [(.int (1 : Int32))])) (by rw [h7]) ?_
      show FiniW p e below s _ _ _ T_230_2_0 (mkF m 232 #[.val (.int p0), .val (.long q1), .second, .val (.int p2), .val (.int p3), .val (.int p4), .val (.int (2 : Int32)), .val (.int (1 : Int32)), .val (.int (0 : Int32)), .val (.ref b3), .val (.ref b4), .val (.ref b28), .val (.ref b55), .val (.ref b84), .val (.long (g0_161 p2 p3)), .second, .val (.int (1 : Int32))] [(.int (1 : Int32))])
      refine FiniW.st (fun _ k => XS.iconst X_230_2_0.here hx rfl (hb hby at_232) k) ?_
      show FiniW p e below s _ _ _ T_230_2_0 (mkF m 233 #[.val (.int p0), .val (.long q1), .second, .val (.int p2), .val (.int p3), .val (.int p4), .val (.int (2 : Int32)), .val (.int (1 : Int32)), .val (.int (0 : Int32)), .val (.ref b3), .val (.ref b4), .val (.ref b28), .val (.ref b55), .val (.ref b84), .val (.long (g0_161 p2 p3)), .second, .val (.int (1 : Int32))] [(.int (2 : Int32)), (.int (1 : Int32))])
      refine FiniW.st (fun _ k => XS.icmpYes X_230_2_0.here hx rfl (pc0 := 233) (pc' := 258) rfl (hb hby at_233) rfl (XT.ii_lt_t (by decide : (1 : Int32) < (2 : Int32))) (by decide) (by decide) k) ?_
      show FiniW p e below s _ _ _ T_230_2_0 (mkF m 258 #[.val (.int p0), .val (.long q1), .second, .val (.int p2), .val (.int p3), .val (.int p4), .val (.int (2 : Int32)), .val (.int (1 : Int32)), .val (.int (0 : Int32)), .val (.ref b3), .val (.ref b4), .val (.ref b28), .val (.ref b55), .val (.ref b84), .val (.long (g0_161 p2 p3)), .second, .val (.int (1 : Int32))] [])
      refine FiniW.st (fun _ k => XS.iload X_230_2_0.here hx rfl (hb hby at_258) rfl k) ?_
      show FiniW p e below s _ _ _ T_230_2_0 (mkF m 260 #[.val (.int p0), .val (.long q1), .second, .val (.int p2), .val (.int p3), .val (.int p4), .val (.int (2 : Int32)), .val (.int (1 : Int32)), .val (.int (0 : Int32)), .val (.ref b3), .val (.ref b4), .val (.ref b28), .val (.ref b55), .val (.ref b84), .val (.long (g0_161 p2 p3)), .second, .val (.int (1 : Int32))] [(.int (1 : Int32))])
      refine FiniW.st (fun _ k => XS.iconst X_230_2_0.here hx rfl (hb hby at_260) k) ?_
      show FiniW p e below s _ _ _ T_230_2_0 (mkF m 261 #[.val (.int p0), .val (.long q1), .second, .val (.int p2), .val (.int p3), .val (.int p4), .val (.int (2 : Int32)), .val (.int (1 : Int32)), .val (.int (0 : Int32)), .val (.ref b3), .val (.ref b4), .val (.ref b28), .val (.ref b55), .val (.ref b84), .val (.long (g0_161 p2 p3)), .second, .val (.int (1 : Int32))] [(.int (3 : Int32)), (.int (1 : Int32))])
      refine FiniW.st (fun _ k => XS.icmpYes X_230_2_0.here hx rfl (pc0 := 261) (pc' := 286) rfl (hb hby at_261) rfl (XT.ii_lt_t (by decide : (1 : Int32) < (3 : Int32))) (by decide) (by decide) k) ?_
      show FiniW p e below s _ _ _ T_230_2_0 (mkF m 286 #[.val (.int p0), .val (.long q1), .second, .val (.int p2), .val (.int p3), .val (.int p4), .val (.int (2 : Int32)), .val (.int (1 : Int32)), .val (.int (0 : Int32)), .val (.ref b3), .val (.ref b4), .val (.ref b28), .val (.ref b55), .val (.ref b84), .val (.long (g0_161 p2 p3)), .second, .val (.int (1 : Int32))] [])
      refine FiniW.st (fun _ k => XS.iload X_230_2_0.here hx rfl (hb hby at_286) rfl k) ?_
      show FiniW p e below s _ _ _ T_230_2_0 (mkF m 288 #[.val (.int p0), .val (.long q1), .second, .val (.int p2), .val (.int p3), .val (.int p4), .val (.int (2 : Int32)), .val (.int (1 : Int32)), .val (.int (0 : Int32)), .val (.ref b3), .val (.ref b4), .val (.ref b28), .val (.ref b55), .val (.ref b84), .val (.long (g0_161 p2 p3)), .second, .val (.int (1 : Int32))] [(.int (1 : Int32))])
      refine FiniW.st (fun _ k => XS.ifNo X_230_2_0.here hx rfl (hb hby at_288) rfl (XT.i0_eq_f (by decide : ¬ (1 : Int32) = (0 : Int32))) k) ?_
      show FiniW p e below s _ _ _ T_230_2_0 (mkF m 291 #[.val (.int p0), .val (.long q1), .second, .val (.int p2), .val (.int p3), .val (.int p4), .val (.int (2 : Int32)), .val (.int (1 : Int32)), .val (.int (0 : Int32)), .val (.ref b3), .val (.ref b4), .val (.ref b28), .val (.ref b55), .val (.ref b84), .val (.long (g0_161 p2 p3)), .second, .val (.int (1 : Int32))] [])
      refine FiniW.st (fun _ k => XS.aload X_230_2_0.here hx rfl (hb hby at_291) rfl rfl k) ?_
      show FiniW p e below s _ _ _ T_230_2_0 (mkF m 293 #[.val (.int p0), .val (.long q1), .second, .val (.int p2), .val (.int p3), .val (.int p4), .val (.int (2 : Int32)), .val (.int (1 : Int32)), .val (.int (0 : Int32)), .val (.ref b3), .val (.ref b4), .val (.ref b28), .val (.ref b55), .val (.ref b84), .val (.long (g0_161 p2 p3)), .second, .val (.int (1 : Int32))] [(.ref b84)])
      obtain ⟨T136, X136, e136, st136⟩ := pureV X_230_2_0 hx hZ hown (hw _ (List.mem_of_getElem? (i := 123) rfl)) (hw _ (List.mem_of_getElem? (i := 124) rfl)) (hw _ (List.mem_of_getElem? (i := 126) rfl)) (hw _ (List.mem_of_getElem? (i := 125) rfl)) (hw _ (List.mem_of_getElem? (i := 95) rfl)) (hw _ (List.mem_of_getElem? (i := 127) rfl)) (notFace_of_selects (args := #[]) (mvT hZ (hw _ (List.mem_of_getElem? (i := 126) rfl)))) H230_2_0_E_b84 (by decide) (rm14 l Z a0 hw [] b84 (2 : Int32) (1 : Int32) h_230_2_0 H230_2_0_F_b84_size H230_2_0_F_b84_handed) e_230_2_0 (W := 0) (by decide) (by decide) (by decide) (by decide) (g := (mkF m 293 #[.val (.int p0), .val (.long q1), .second, .val (.int p2), .val (.int p3), .val (.int p4), .val (.int (2 : Int32)), .val (.int (1 : Int32)), .val (.int (0 : Int32)), .val (.ref b3), .val (.ref b4), .val (.ref b28), .val (.ref b55), .val (.ref b84), .val (.long (g0_161 p2 p3)), .second, .val (.int (1 : Int32))] [(.ref b84)])) rfl (by rw [hml]; rfl) (argsL := []) (rest := []) rfl (lenOf pd_9 rfl) rfl (by show 2 * 0 + _ ≤ _; exact Nat.le_of_eq rfl) (hb hby at_293)
      refine FiniW.st st136 ?_
      show FiniW p e below s _ _ _ T136 (mkF m 296 #[.val (.int p0), .val (.long q1), .second, .val (.int p2), .val (.int p3), .val (.int p4), .val (.int (2 : Int32)), .val (.int (1 : Int32)), .val (.int (0 : Int32)), .val (.ref b3), .val (.ref b4), .val (.ref b28), .val (.ref b55), .val (.ref b84), .val (.long (g0_161 p2 p3)), .second, .val (.int (1 : Int32))] [(.int (1 : Int32))])
      refine FiniW.st (fun _ k => XS.iload X136.here hx rfl (hb hby at_296) rfl k) ?_
      show FiniW p e below s _ _ _ T136 (mkF m 298 #[.val (.int p0), .val (.long q1), .second, .val (.int p2), .val (.int p3), .val (.int p4), .val (.int (2 : Int32)), .val (.int (1 : Int32)), .val (.int (0 : Int32)), .val (.ref b3), .val (.ref b4), .val (.ref b28), .val (.ref b55), .val (.ref b84), .val (.long (g0_161 p2 p3)), .second, .val (.int (1 : Int32))] [(.int (1 : Int32)), (.int (1 : Int32))])
      refine FiniW.st (fun _ k => XS.iload X136.here hx rfl (hb hby at_298) rfl k) ?_
      show FiniW p e below s _ _ _ T136 (mkF m 300 #[.val (.int p0), .val (.long q1), .second, .val (.int p2), .val (.int p3), .val (.int p4), .val (.int (2 : Int32)), .val (.int (1 : Int32)), .val (.int (0 : Int32)), .val (.ref b3), .val (.ref b4), .val (.ref b28), .val (.ref b55), .val (.ref b84), .val (.long (g0_161 p2 p3)), .second, .val (.int (1 : Int32))] [(.int (2 : Int32)), (.int (1 : Int32)), (.int (1 : Int32))])
      refine FiniW.st (fun _ k => XS.icmpNo X136.here hx rfl (hb hby at_300) rfl (XT.ii_ge_f (by decide : (1 : Int32) < (2 : Int32))) k) ?_
      show FiniW p e below s _ _ _ T136 (mkF m 303 #[.val (.int p0), .val (.long q1), .second, .val (.int p2), .val (.int p3), .val (.int p4), .val (.int (2 : Int32)), .val (.int (1 : Int32)), .val (.int (0 : Int32)), .val (.ref b3), .val (.ref b4), .val (.ref b28), .val (.ref b55), .val (.ref b84), .val (.long (g0_161 p2 p3)), .second, .val (.int (1 : Int32))] [(.int (1 : Int32))])
      refine FiniW.st (fun _ k => XS.iconst X136.here hx rfl (hb hby at_303) k) ?_
      show FiniW p e below s _ _ _ T136 (mkF m 304 #[.val (.int p0), .val (.long q1), .second, .val (.int p2), .val (.int p3), .val (.int p4), .val (.int (2 : Int32)), .val (.int (1 : Int32)), .val (.int (0 : Int32)), .val (.ref b3), .val (.ref b4), .val (.ref b28), .val (.ref b55), .val (.ref b84), .val (.long (g0_161 p2 p3)), .second, .val (.int (1 : Int32))] [(.int (1 : Int32)), (.int (1 : Int32))])
      refine FiniW.st (fun _ k => XS.goto X136.here hx rfl (pc0 := 304) (pc' := 308) rfl (hb hby at_304) (by decide) (by decide) k) ?_
      show FiniW p e below s _ _ _ T136 (mkF m 308 #[.val (.int p0), .val (.long q1), .second, .val (.int p2), .val (.int p3), .val (.int p4), .val (.int (2 : Int32)), .val (.int (1 : Int32)), .val (.int (0 : Int32)), .val (.ref b3), .val (.ref b4), .val (.ref b28), .val (.ref b55), .val (.ref b84), .val (.long (g0_161 p2 p3)), .second, .val (.int (1 : Int32))] [(.int (1 : Int32)), (.int (1 : Int32))])
      refine FiniW.st (fun _ k => XS.icmpNo X136.here hx rfl (hb hby at_308) rfl (XT.ii_ne_f (by decide : (1 : Int32) = (1 : Int32))) k) ?_
      show FiniW p e below s _ _ _ T136 (mkF m 311 #[.val (.int p0), .val (.long q1), .second, .val (.int p2), .val (.int p3), .val (.int p4), .val (.int (2 : Int32)), .val (.int (1 : Int32)), .val (.int (0 : Int32)), .val (.ref b3), .val (.ref b4), .val (.ref b28), .val (.ref b55), .val (.ref b84), .val (.long (g0_161 p2 p3)), .second, .val (.int (1 : Int32))] [])
      refine FiniW.st (fun _ k => XS.iconst X136.here hx rfl (hb hby at_311) k) ?_
      show FiniW p e below s _ _ _ T136 (mkF m 312 #[.val (.int p0), .val (.long q1), .second, .val (.int p2), .val (.int p3), .val (.int p4), .val (.int (2 : Int32)), .val (.int (1 : Int32)), .val (.int (0 : Int32)), .val (.ref b3), .val (.ref b4), .val (.ref b28), .val (.ref b55), .val (.ref b84), .val (.long (g0_161 p2 p3)), .second, .val (.int (1 : Int32))] [(.int (1 : Int32))])
      refine FiniW.st (fun _ k => XS.goto X136.here hx rfl (pc0 := 312) (pc' := 316) rfl (hb hby at_312) (by decide) (by decide) k) ?_
      show FiniW p e below s _ _ _ T136 (mkF m 316 #[.val (.int p0), .val (.long q1), .second, .val (.int p2), .val (.int p3), .val (.int p4), .val (.int (2 : Int32)), .val (.int (1 : Int32)), .val (.int (0 : Int32)), .val (.ref b3), .val (.ref b4), .val (.ref b28), .val (.ref b55), .val (.ref b84), .val (.long (g0_161 p2 p3)), .second, .val (.int (1 : Int32))] [(.int (1 : Int32))])
      refine FiniW.st (fun _ k => XS.istore X136.here hx rfl (hb hby at_316) rfl (l' := #[.val (.int p0), .val (.long q1), .second, .val (.int p2), .val (.int p3), .val (.int p4), .val (.int (2 : Int32)), .val (.int (1 : Int32)), .val (.int (0 : Int32)), .val (.ref b3), .val (.ref b4), .val (.ref b28), .val (.ref b55), .val (.ref b84), .val (.long (g0_161 p2 p3)), .second, .val (.int (1 : Int32))]) rfl k) ?_
      show FiniW p e below s _ _ _ T136 (mkF m 318 #[.val (.int p0), .val (.long q1), .second, .val (.int p2), .val (.int p3), .val (.int p4), .val (.int (2 : Int32)), .val (.int (1 : Int32)), .val (.int (0 : Int32)), .val (.ref b3), .val (.ref b4), .val (.ref b28), .val (.ref b55), .val (.ref b84), .val (.long (g0_161 p2 p3)), .second, .val (.int (1 : Int32))] [])
      refine FiniW.st (fun _ k => XS.iload X136.here hx rfl (hb hby at_318) rfl k) ?_
      show FiniW p e below s _ _ _ T136 (mkF m 320 #[.val (.int p0), .val (.long q1), .second, .val (.int p2), .val (.int p3), .val (.int p4), .val (.int (2 : Int32)), .val (.int (1 : Int32)), .val (.int (0 : Int32)), .val (.ref b3), .val (.ref b4), .val (.ref b28), .val (.ref b55), .val (.ref b84), .val (.long (g0_161 p2 p3)), .second, .val (.int (1 : Int32))] [(.int (1 : Int32))])
      refine FiniW.st (fun _ k => XS.ifNo X136.here hx rfl (hb hby at_320) rfl (XT.i0_eq_f (by decide : ¬ (1 : Int32) = (0 : Int32))) k) ?_
      show FiniW p e below s _ _ _ T136 (mkF m 323 #[.val (.int p0), .val (.long q1), .second, .val (.int p2), .val (.int p3), .val (.int p4), .val (.int (2 : Int32)), .val (.int (1 : Int32)), .val (.int (0 : Int32)), .val (.ref b3), .val (.ref b4), .val (.ref b28), .val (.ref b55), .val (.ref b84), .val (.long (g0_161 p2 p3)), .second, .val (.int (1 : Int32))] [])
      refine FiniW.st (fun _ k => XS.aload X136.here hx rfl (hb hby at_323) rfl rfl k) ?_
      show FiniW p e below s _ _ _ T136 (mkF m 325 #[.val (.int p0), .val (.long q1), .second, .val (.int p2), .val (.int p3), .val (.int p4), .val (.int (2 : Int32)), .val (.int (1 : Int32)), .val (.int (0 : Int32)), .val (.ref b3), .val (.ref b4), .val (.ref b28), .val (.ref b55), .val (.ref b84), .val (.long (g0_161 p2 p3)), .second, .val (.int (1 : Int32))] [(.ref b84)])
      obtain ⟨T137, X137, e137, st137⟩ := pureV X136 hx hZ hown (hw _ (List.mem_of_getElem? (i := 128) rfl)) (hw _ (List.mem_of_getElem? (i := 129) rfl)) (hw _ (List.mem_of_getElem? (i := 131) rfl)) (hw _ (List.mem_of_getElem? (i := 130) rfl)) (hw _ (List.mem_of_getElem? (i := 95) rfl)) (hw _ (List.mem_of_getElem? (i := 132) rfl)) (notFace_of_selects (args := #[]) (mvT hZ (hw _ (List.mem_of_getElem? (i := 131) rfl)))) H230_2_0_E_b84 (by decide) (rm15 l Z a0 hw [] b84 (((0 : Int64) + p2.toInt64) + p3.toInt64) h_230_2_0 H230_2_0_F_b84_values) e136 (W := 0) (by decide) (by decide) (by decide) (by decide) (g := (mkF m 325 #[.val (.int p0), .val (.long q1), .second, .val (.int p2), .val (.int p3), .val (.int p4), .val (.int (2 : Int32)), .val (.int (1 : Int32)), .val (.int (0 : Int32)), .val (.ref b3), .val (.ref b4), .val (.ref b28), .val (.ref b55), .val (.ref b84), .val (.long (g0_161 p2 p3)), .second, .val (.int (1 : Int32))] [(.ref b84)])) rfl (by rw [hml]; rfl) (argsL := []) (rest := []) rfl (lenOf pd_10 rfl) rfl (by show 2 * 0 + _ ≤ _; exact Nat.le_of_eq rfl) (hb hby at_325)
      refine FiniW.st st137 ?_
      show FiniW p e below s _ _ _ T137 (mkF m 328 #[.val (.int p0), .val (.long q1), .second, .val (.int p2), .val (.int p3), .val (.int p4), .val (.int (2 : Int32)), .val (.int (1 : Int32)), .val (.int (0 : Int32)), .val (.ref b3), .val (.ref b4), .val (.ref b28), .val (.ref b55), .val (.ref b84), .val (.long (g0_161 p2 p3)), .second, .val (.int (1 : Int32))] [(.long (((0 : Int64) + p2.toInt64) + p3.toInt64))])
      refine FiniW.st (fun _ k => XS.lload X137.here hx rfl (hb hby at_328) rfl k) ?_
      show FiniW p e below s _ _ _ T137 (mkF m 330 #[.val (.int p0), .val (.long q1), .second, .val (.int p2), .val (.int p3), .val (.int p4), .val (.int (2 : Int32)), .val (.int (1 : Int32)), .val (.int (0 : Int32)), .val (.ref b3), .val (.ref b4), .val (.ref b28), .val (.ref b55), .val (.ref b84), .val (.long (g0_161 p2 p3)), .second, .val (.int (1 : Int32))] [(.long (g0_161 p2 p3)), (.long (((0 : Int64) + p2.toInt64) + p3.toInt64))])
      refine FiniW.st (fun _ k => XT.lcmp X137.here hx rfl (hb hby at_330) rfl k) ?_
      show FiniW p e below s _ _ _ T137 (mkF m 331 #[.val (.int p0), .val (.long q1), .second, .val (.int p2), .val (.int p3), .val (.int p4), .val (.int (2 : Int32)), .val (.int (1 : Int32)), .val (.int (0 : Int32)), .val (.ref b3), .val (.ref b4), .val (.ref b28), .val (.ref b55), .val (.ref b84), .val (.long (g0_161 p2 p3)), .second, .val (.int (1 : Int32))] [(.int (XT.cmpL (((0 : Int64) + p2.toInt64) + p3.toInt64) (g0_161 p2 p3)))])
      refine FiniW.st (fun _ k => XS.ifNo X137.here hx rfl (hb hby at_331) rfl (XT.ll_ne_f (show (((0 : Int64) + p2.toInt64) + p3.toInt64) = (g0_161 p2 p3) by first | (rw [Int64.zero_add]; done) | (rw [Int64.zero_add]; rfl))) k) ?_
      show FiniW p e below s _ _ _ T137 (mkF m 334 #[.val (.int p0), .val (.long q1), .second, .val (.int p2), .val (.int p3), .val (.int p4), .val (.int (2 : Int32)), .val (.int (1 : Int32)), .val (.int (0 : Int32)), .val (.ref b3), .val (.ref b4), .val (.ref b28), .val (.ref b55), .val (.ref b84), .val (.long (g0_161 p2 p3)), .second, .val (.int (1 : Int32))] [])
      refine FiniW.st (fun _ k => XS.iconst X137.here hx rfl (hb hby at_334) k) ?_
      show FiniW p e below s _ _ _ T137 (mkF m 335 #[.val (.int p0), .val (.long q1), .second, .val (.int p2), .val (.int p3), .val (.int p4), .val (.int (2 : Int32)), .val (.int (1 : Int32)), .val (.int (0 : Int32)), .val (.ref b3), .val (.ref b4), .val (.ref b28), .val (.ref b55), .val (.ref b84), .val (.long (g0_161 p2 p3)), .second, .val (.int (1 : Int32))] [(.int (1 : Int32))])
      refine FiniW.st (fun _ k => XS.goto X137.here hx rfl (pc0 := 335) (pc' := 339) rfl (hb hby at_335) (by decide) (by decide) k) ?_
      show FiniW p e below s _ _ _ T137 (mkF m 339 #[.val (.int p0), .val (.long q1), .second, .val (.int p2), .val (.int p3), .val (.int p4), .val (.int (2 : Int32)), .val (.int (1 : Int32)), .val (.int (0 : Int32)), .val (.ref b3), .val (.ref b4), .val (.ref b28), .val (.ref b55), .val (.ref b84), .val (.long (g0_161 p2 p3)), .second, .val (.int (1 : Int32))] [(.int (1 : Int32))])
      refine FiniW.st (fun _ k => XS.istore X137.here hx rfl (hb hby at_339) rfl (l' := #[.val (.int p0), .val (.long q1), .second, .val (.int p2), .val (.int p3), .val (.int p4), .val (.int (2 : Int32)), .val (.int (1 : Int32)), .val (.int (0 : Int32)), .val (.ref b3), .val (.ref b4), .val (.ref b28), .val (.ref b55), .val (.ref b84), .val (.long (g0_161 p2 p3)), .second, .val (.int (1 : Int32))]) rfl k) ?_
      show FiniW p e below s _ _ _ T137 (mkF m 341 #[.val (.int p0), .val (.long q1), .second, .val (.int p2), .val (.int p3), .val (.int p4), .val (.int (2 : Int32)), .val (.int (1 : Int32)), .val (.int (0 : Int32)), .val (.ref b3), .val (.ref b4), .val (.ref b28), .val (.ref b55), .val (.ref b84), .val (.long (g0_161 p2 p3)), .second, .val (.int (1 : Int32))] [])
      refine FiniW.st (fun _ k => XS.iload X137.here hx rfl (hb hby at_341) rfl k) ?_
      show FiniW p e below s _ _ _ T137 (mkF m 343 #[.val (.int p0), .val (.long q1), .second, .val (.int p2), .val (.int p3), .val (.int p4), .val (.int (2 : Int32)), .val (.int (1 : Int32)), .val (.int (0 : Int32)), .val (.ref b3), .val (.ref b4), .val (.ref b28), .val (.ref b55), .val (.ref b84), .val (.long (g0_161 p2 p3)), .second, .val (.int (1 : Int32))] [(.int (1 : Int32))])
      exact FiniW.retN X137 hx hlk (t := .boolean) Bd.returns (by simp) (hb hby at_343) nb1 hS_230_2_0 (by rw [e137]; exact H230_2_0_G) (by decide) (by decide) ⟨rfl, N_230_2_0⟩
    · skip
      refine FiniW.cast (g' := (mkF m 232 #[.val (.int p0), .val (.long q1), .second, .val (.int p2), .val (.int p3), .val (.int p4), .val (.int (2 : Int32)), .val (.int (2 : Int32)), .val (.int (0 : Int32)), .val (.ref b3), .val (.ref b4), .val (.ref b28), .val (.ref b55), .val (.ref b84), .val (.long (g0_161 p2 p3)), .second, .val (.int (1 : Int32))] [(.int (2 : Int32))])) (by rw [h7]) ?_
      show FiniW p e below s _ _ _ T_230_2_0 (mkF m 232 #[.val (.int p0), .val (.long q1), .second, .val (.int p2), .val (.int p3), .val (.int p4), .val (.int (2 : Int32)), .val (.int (2 : Int32)), .val (.int (0 : Int32)), .val (.ref b3), .val (.ref b4), .val (.ref b28), .val (.ref b55), .val (.ref b84), .val (.long (g0_161 p2 p3)), .second, .val (.int (1 : Int32))] [(.int (2 : Int32))])
      refine FiniW.st (fun _ k => XS.iconst X_230_2_0.here hx rfl (hb hby at_232) k) ?_
      show FiniW p e below s _ _ _ T_230_2_0 (mkF m 233 #[.val (.int p0), .val (.long q1), .second, .val (.int p2), .val (.int p3), .val (.int p4), .val (.int (2 : Int32)), .val (.int (2 : Int32)), .val (.int (0 : Int32)), .val (.ref b3), .val (.ref b4), .val (.ref b28), .val (.ref b55), .val (.ref b84), .val (.long (g0_161 p2 p3)), .second, .val (.int (1 : Int32))] [(.int (2 : Int32)), (.int (2 : Int32))])
      refine FiniW.st (fun _ k => XS.icmpNo X_230_2_0.here hx rfl (hb hby at_233) rfl (XT.ii_lt_f (by decide : ¬ (2 : Int32) < (2 : Int32))) k) ?_
      show FiniW p e below s _ _ _ T_230_2_0 (mkF m 236 #[.val (.int p0), .val (.long q1), .second, .val (.int p2), .val (.int p3), .val (.int p4), .val (.int (2 : Int32)), .val (.int (2 : Int32)), .val (.int (0 : Int32)), .val (.ref b3), .val (.ref b4), .val (.ref b28), .val (.ref b55), .val (.ref b84), .val (.long (g0_161 p2 p3)), .second, .val (.int (1 : Int32))] [])
      refine FiniW.st (fun _ k => XS.iload X_230_2_0.here hx rfl (hb hby at_236) rfl k) ?_
      show FiniW p e below s _ _ _ T_230_2_0 (mkF m 238 #[.val (.int p0), .val (.long q1), .second, .val (.int p2), .val (.int p3), .val (.int p4), .val (.int (2 : Int32)), .val (.int (2 : Int32)), .val (.int (0 : Int32)), .val (.ref b3), .val (.ref b4), .val (.ref b28), .val (.ref b55), .val (.ref b84), .val (.long (g0_161 p2 p3)), .second, .val (.int (1 : Int32))] [(.int (1 : Int32))])
      refine FiniW.st (fun _ k => XS.ifNo X_230_2_0.here hx rfl (hb hby at_238) rfl (XT.i0_eq_f (by decide : ¬ (1 : Int32) = (0 : Int32))) k) ?_
      show FiniW p e below s _ _ _ T_230_2_0 (mkF m 241 #[.val (.int p0), .val (.long q1), .second, .val (.int p2), .val (.int p3), .val (.int p4), .val (.int (2 : Int32)), .val (.int (2 : Int32)), .val (.int (0 : Int32)), .val (.ref b3), .val (.ref b4), .val (.ref b28), .val (.ref b55), .val (.ref b84), .val (.long (g0_161 p2 p3)), .second, .val (.int (1 : Int32))] [])
      refine FiniW.st (fun _ k => XS.aload X_230_2_0.here hx rfl (hb hby at_241) rfl rfl k) ?_
      show FiniW p e below s _ _ _ T_230_2_0 (mkF m 243 #[.val (.int p0), .val (.long q1), .second, .val (.int p2), .val (.int p3), .val (.int p4), .val (.int (2 : Int32)), .val (.int (2 : Int32)), .val (.int (0 : Int32)), .val (.ref b3), .val (.ref b4), .val (.ref b28), .val (.ref b55), .val (.ref b84), .val (.long (g0_161 p2 p3)), .second, .val (.int (1 : Int32))] [(.ref b84)])
      obtain ⟨v138, T138, L138, X138, hQ138, st138⟩ := callV X_230_2_0 hx hZ hown (hw _ (List.mem_of_getElem? (i := 114) rfl)) (hw _ (List.mem_of_getElem? (i := 115) rfl)) (hw _ (List.mem_of_getElem? (i := 117) rfl)) (hw _ (List.mem_of_getElem? (i := 116) rfl)) (hw _ (List.mem_of_getElem? (i := 95) rfl)) (hw _ (List.mem_of_getElem? (i := 118) rfl)) (notFace_of_selects (args := #[]) (mvT hZ (hw _ (List.mem_of_getElem? (i := 117) rfl)))) H230_2_0_E_b84 (by decide) (rm13 l Z a0 hw [] b84 b89 (2 : Int32) (((0 : Int64) + p2.toInt64) + p3.toInt64) (1 : Int32) (upd (upd (upd (fun _ => .null) 0 (.ref b4)) 1 (.ref b28)) 0 .null) b28 h_230_2_0 n0 H230_2_0_Z H230_2_0_E_b84 H230_2_0_F_b84_objects H230_2_0_F_b84_size H230_2_0_F_b84_values H230_2_0_F_b84_handed H230_2_0_A_b89 H230_2_0_E_b28 ge230_2_0_b84 ge230_2_0_b89 ne230_2_0_b84_b89 (⟨by decide, by decide⟩) rfl) e_230_2_0 (W := 0) (by decide) (by decide) (by decide) (by decide) (g := (mkF m 243 #[.val (.int p0), .val (.long q1), .second, .val (.int p2), .val (.int p3), .val (.int p4), .val (.int (2 : Int32)), .val (.int (2 : Int32)), .val (.int (0 : Int32)), .val (.ref b3), .val (.ref b4), .val (.ref b28), .val (.ref b55), .val (.ref b84), .val (.long (g0_161 p2 p3)), .second, .val (.int (1 : Int32))] [(.ref b84)])) rfl (by rw [hml]; rfl) (argsL := []) (rest := []) rfl (lenOf pd_8 rfl) rfl (by show 2 * 0 + _ ≤ _; exact Nat.le_of_eq rfl) (hb hby at_243)
      obtain ⟨rfl, Nq138, K138, Fo138, Ar138, Fs138, Fv138, Fh138⟩ := hQ138
      have N138 := Fr.app N_230_2_0 Nq138
      refine FiniW.st st138 ?_
      show FiniW p e below s _ _ _ T138 (mkF m 246 #[.val (.int p0), .val (.long q1), .second, .val (.int p2), .val (.int p3), .val (.int p4), .val (.int (2 : Int32)), .val (.int (2 : Int32)), .val (.int (0 : Int32)), .val (.ref b3), .val (.ref b4), .val (.ref b28), .val (.ref b55), .val (.ref b84), .val (.long (g0_161 p2 p3)), .second, .val (.int (1 : Int32))] [(.ref b28)])
      refine FiniW.st (fun _ k => XS.aload X138.here hx rfl (hb hby at_246) rfl rfl k) ?_
      show FiniW p e below s _ _ _ T138 (mkF m 248 #[.val (.int p0), .val (.long q1), .second, .val (.int p2), .val (.int p3), .val (.int p4), .val (.int (2 : Int32)), .val (.int (2 : Int32)), .val (.int (0 : Int32)), .val (.ref b3), .val (.ref b4), .val (.ref b28), .val (.ref b55), .val (.ref b84), .val (.long (g0_161 p2 p3)), .second, .val (.int (1 : Int32))] [(.ref b28), (.ref b28)])
      refine FiniW.st (fun _ k => Jvm.RoadKit.acmp (g := (mkF m 248 #[.val (.int p0), .val (.long q1), .second, .val (.int p2), .val (.int p3), .val (.int p4), .val (.int (2 : Int32)), .val (.int (2 : Int32)), .val (.int (0 : Int32)), .val (.ref b3), .val (.ref b4), .val (.ref b28), .val (.ref b55), .val (.ref b84), .val (.long (g0_161 p2 p3)), .second, .val (.int (1 : Int32))] [(.ref b28), (.ref b28)])) X138 hx rfl rfl rfl (pc0 := 248) (pc' := 251) (same := true) rfl (hb hby at_248) rfl (decide_eq_true rfl) (by decide) (by decide) k) ?_
      show FiniW p e below s _ _ _ T138 (mkF m 251 #[.val (.int p0), .val (.long q1), .second, .val (.int p2), .val (.int p3), .val (.int p4), .val (.int (2 : Int32)), .val (.int (2 : Int32)), .val (.int (0 : Int32)), .val (.ref b3), .val (.ref b4), .val (.ref b28), .val (.ref b55), .val (.ref b84), .val (.long (g0_161 p2 p3)), .second, .val (.int (1 : Int32))] [])
      refine FiniW.st (fun _ k => XS.iconst X138.here hx rfl (hb hby at_251) k) ?_
      show FiniW p e below s _ _ _ T138 (mkF m 252 #[.val (.int p0), .val (.long q1), .second, .val (.int p2), .val (.int p3), .val (.int p4), .val (.int (2 : Int32)), .val (.int (2 : Int32)), .val (.int (0 : Int32)), .val (.ref b3), .val (.ref b4), .val (.ref b28), .val (.ref b55), .val (.ref b84), .val (.long (g0_161 p2 p3)), .second, .val (.int (1 : Int32))] [(.int (1 : Int32))])
      refine FiniW.st (fun _ k => XS.goto X138.here hx rfl (pc0 := 252) (pc' := 256) rfl (hb hby at_252) (by decide) (by decide) k) ?_
      show FiniW p e below s _ _ _ T138 (mkF m 256 #[.val (.int p0), .val (.long q1), .second, .val (.int p2), .val (.int p3), .val (.int p4), .val (.int (2 : Int32)), .val (.int (2 : Int32)), .val (.int (0 : Int32)), .val (.ref b3), .val (.ref b4), .val (.ref b28), .val (.ref b55), .val (.ref b84), .val (.long (g0_161 p2 p3)), .second, .val (.int (1 : Int32))] [(.int (1 : Int32))])
      refine FiniW.st (fun _ k => XS.istore X138.here hx rfl (hb hby at_256) rfl (l' := #[.val (.int p0), .val (.long q1), .second, .val (.int p2), .val (.int p3), .val (.int p4), .val (.int (2 : Int32)), .val (.int (2 : Int32)), .val (.int (0 : Int32)), .val (.ref b3), .val (.ref b4), .val (.ref b28), .val (.ref b55), .val (.ref b84), .val (.long (g0_161 p2 p3)), .second, .val (.int (1 : Int32))]) rfl k) ?_
      show FiniW p e below s _ _ _ T138 (mkF m 258 #[.val (.int p0), .val (.long q1), .second, .val (.int p2), .val (.int p3), .val (.int p4), .val (.int (2 : Int32)), .val (.int (2 : Int32)), .val (.int (0 : Int32)), .val (.ref b3), .val (.ref b4), .val (.ref b28), .val (.ref b55), .val (.ref b84), .val (.long (g0_161 p2 p3)), .second, .val (.int (1 : Int32))] [])
      refine FiniW.st (fun _ k => XS.iload X138.here hx rfl (hb hby at_258) rfl k) ?_
      show FiniW p e below s _ _ _ T138 (mkF m 260 #[.val (.int p0), .val (.long q1), .second, .val (.int p2), .val (.int p3), .val (.int p4), .val (.int (2 : Int32)), .val (.int (2 : Int32)), .val (.int (0 : Int32)), .val (.ref b3), .val (.ref b4), .val (.ref b28), .val (.ref b55), .val (.ref b84), .val (.long (g0_161 p2 p3)), .second, .val (.int (1 : Int32))] [(.int (2 : Int32))])
      refine FiniW.st (fun _ k => XS.iconst X138.here hx rfl (hb hby at_260) k) ?_
      show FiniW p e below s _ _ _ T138 (mkF m 261 #[.val (.int p0), .val (.long q1), .second, .val (.int p2), .val (.int p3), .val (.int p4), .val (.int (2 : Int32)), .val (.int (2 : Int32)), .val (.int (0 : Int32)), .val (.ref b3), .val (.ref b4), .val (.ref b28), .val (.ref b55), .val (.ref b84), .val (.long (g0_161 p2 p3)), .second, .val (.int (1 : Int32))] [(.int (3 : Int32)), (.int (2 : Int32))])
      refine FiniW.st (fun _ k => XS.icmpYes X138.here hx rfl (pc0 := 261) (pc' := 286) rfl (hb hby at_261) rfl (XT.ii_lt_t (by decide : (2 : Int32) < (3 : Int32))) (by decide) (by decide) k) ?_
      show FiniW p e below s _ _ _ T138 (mkF m 286 #[.val (.int p0), .val (.long q1), .second, .val (.int p2), .val (.int p3), .val (.int p4), .val (.int (2 : Int32)), .val (.int (2 : Int32)), .val (.int (0 : Int32)), .val (.ref b3), .val (.ref b4), .val (.ref b28), .val (.ref b55), .val (.ref b84), .val (.long (g0_161 p2 p3)), .second, .val (.int (1 : Int32))] [])
      refine FiniW.st (fun _ k => XS.iload X138.here hx rfl (hb hby at_286) rfl k) ?_
      show FiniW p e below s _ _ _ T138 (mkF m 288 #[.val (.int p0), .val (.long q1), .second, .val (.int p2), .val (.int p3), .val (.int p4), .val (.int (2 : Int32)), .val (.int (2 : Int32)), .val (.int (0 : Int32)), .val (.ref b3), .val (.ref b4), .val (.ref b28), .val (.ref b55), .val (.ref b84), .val (.long (g0_161 p2 p3)), .second, .val (.int (1 : Int32))] [(.int (1 : Int32))])
      refine FiniW.st (fun _ k => XS.ifNo X138.here hx rfl (hb hby at_288) rfl (XT.i0_eq_f (by decide : ¬ (1 : Int32) = (0 : Int32))) k) ?_
      show FiniW p e below s _ _ _ T138 (mkF m 291 #[.val (.int p0), .val (.long q1), .second, .val (.int p2), .val (.int p3), .val (.int p4), .val (.int (2 : Int32)), .val (.int (2 : Int32)), .val (.int (0 : Int32)), .val (.ref b3), .val (.ref b4), .val (.ref b28), .val (.ref b55), .val (.ref b84), .val (.long (g0_161 p2 p3)), .second, .val (.int (1 : Int32))] [])
      refine FiniW.st (fun _ k => XS.aload X138.here hx rfl (hb hby at_291) rfl rfl k) ?_
      show FiniW p e below s _ _ _ T138 (mkF m 293 #[.val (.int p0), .val (.long q1), .second, .val (.int p2), .val (.int p3), .val (.int p4), .val (.int (2 : Int32)), .val (.int (2 : Int32)), .val (.int (0 : Int32)), .val (.ref b3), .val (.ref b4), .val (.ref b28), .val (.ref b55), .val (.ref b84), .val (.long (g0_161 p2 p3)), .second, .val (.int (1 : Int32))] [(.ref b84)])
      have Ex_140 : Exa Z T138.heap b84 "com/example/mapcodex/mapcodex/pbf/ObjectBatch" := (H230_2_0_E_b84.keep K138)
      obtain ⟨T139, X139, e139, st139⟩ := pureV X138 hx hZ hown (hw _ (List.mem_of_getElem? (i := 123) rfl)) (hw _ (List.mem_of_getElem? (i := 124) rfl)) (hw _ (List.mem_of_getElem? (i := 126) rfl)) (hw _ (List.mem_of_getElem? (i := 125) rfl)) (hw _ (List.mem_of_getElem? (i := 95) rfl)) (hw _ (List.mem_of_getElem? (i := 127) rfl)) (notFace_of_selects (args := #[]) (mvT hZ (hw _ (List.mem_of_getElem? (i := 126) rfl)))) Ex_140 (by decide) (rm14 l Z a0 hw [] b84 (2 : Int32) (2 : Int32) T138.heap Fs138 Fh138) rfl (W := 0) (by decide) (by decide) (by decide) (by decide) (g := (mkF m 293 #[.val (.int p0), .val (.long q1), .second, .val (.int p2), .val (.int p3), .val (.int p4), .val (.int (2 : Int32)), .val (.int (2 : Int32)), .val (.int (0 : Int32)), .val (.ref b3), .val (.ref b4), .val (.ref b28), .val (.ref b55), .val (.ref b84), .val (.long (g0_161 p2 p3)), .second, .val (.int (1 : Int32))] [(.ref b84)])) rfl (by rw [hml]; rfl) (argsL := []) (rest := []) rfl (lenOf pd_9 rfl) rfl (by show 2 * 0 + _ ≤ _; exact Nat.le_of_eq rfl) (hb hby at_293)
      refine FiniW.st st139 ?_
      show FiniW p e below s _ _ _ T139 (mkF m 296 #[.val (.int p0), .val (.long q1), .second, .val (.int p2), .val (.int p3), .val (.int p4), .val (.int (2 : Int32)), .val (.int (2 : Int32)), .val (.int (0 : Int32)), .val (.ref b3), .val (.ref b4), .val (.ref b28), .val (.ref b55), .val (.ref b84), .val (.long (g0_161 p2 p3)), .second, .val (.int (1 : Int32))] [(.int (0 : Int32))])
      refine FiniW.st (fun _ k => XS.iload X139.here hx rfl (hb hby at_296) rfl k) ?_
      show FiniW p e below s _ _ _ T139 (mkF m 298 #[.val (.int p0), .val (.long q1), .second, .val (.int p2), .val (.int p3), .val (.int p4), .val (.int (2 : Int32)), .val (.int (2 : Int32)), .val (.int (0 : Int32)), .val (.ref b3), .val (.ref b4), .val (.ref b28), .val (.ref b55), .val (.ref b84), .val (.long (g0_161 p2 p3)), .second, .val (.int (1 : Int32))] [(.int (2 : Int32)), (.int (0 : Int32))])
      refine FiniW.st (fun _ k => XS.iload X139.here hx rfl (hb hby at_298) rfl k) ?_
      show FiniW p e below s _ _ _ T139 (mkF m 300 #[.val (.int p0), .val (.long q1), .second, .val (.int p2), .val (.int p3), .val (.int p4), .val (.int (2 : Int32)), .val (.int (2 : Int32)), .val (.int (0 : Int32)), .val (.ref b3), .val (.ref b4), .val (.ref b28), .val (.ref b55), .val (.ref b84), .val (.long (g0_161 p2 p3)), .second, .val (.int (1 : Int32))] [(.int (2 : Int32)), (.int (2 : Int32)), (.int (0 : Int32))])
      refine FiniW.st (fun _ k => XS.icmpYes X139.here hx rfl (pc0 := 300) (pc' := 307) rfl (hb hby at_300) rfl (XT.ii_ge_t (by decide : ¬ (2 : Int32) < (2 : Int32))) (by decide) (by decide) k) ?_
      show FiniW p e below s _ _ _ T139 (mkF m 307 #[.val (.int p0), .val (.long q1), .second, .val (.int p2), .val (.int p3), .val (.int p4), .val (.int (2 : Int32)), .val (.int (2 : Int32)), .val (.int (0 : Int32)), .val (.ref b3), .val (.ref b4), .val (.ref b28), .val (.ref b55), .val (.ref b84), .val (.long (g0_161 p2 p3)), .second, .val (.int (1 : Int32))] [(.int (0 : Int32))])
      refine FiniW.st (fun _ k => XS.iconst X139.here hx rfl (hb hby at_307) k) ?_
      show FiniW p e below s _ _ _ T139 (mkF m 308 #[.val (.int p0), .val (.long q1), .second, .val (.int p2), .val (.int p3), .val (.int p4), .val (.int (2 : Int32)), .val (.int (2 : Int32)), .val (.int (0 : Int32)), .val (.ref b3), .val (.ref b4), .val (.ref b28), .val (.ref b55), .val (.ref b84), .val (.long (g0_161 p2 p3)), .second, .val (.int (1 : Int32))] [(.int (0 : Int32)), (.int (0 : Int32))])
      refine FiniW.st (fun _ k => XS.icmpNo X139.here hx rfl (hb hby at_308) rfl (XT.ii_ne_f (by decide : (0 : Int32) = (0 : Int32))) k) ?_
      show FiniW p e below s _ _ _ T139 (mkF m 311 #[.val (.int p0), .val (.long q1), .second, .val (.int p2), .val (.int p3), .val (.int p4), .val (.int (2 : Int32)), .val (.int (2 : Int32)), .val (.int (0 : Int32)), .val (.ref b3), .val (.ref b4), .val (.ref b28), .val (.ref b55), .val (.ref b84), .val (.long (g0_161 p2 p3)), .second, .val (.int (1 : Int32))] [])
      refine FiniW.st (fun _ k => XS.iconst X139.here hx rfl (hb hby at_311) k) ?_
      show FiniW p e below s _ _ _ T139 (mkF m 312 #[.val (.int p0), .val (.long q1), .second, .val (.int p2), .val (.int p3), .val (.int p4), .val (.int (2 : Int32)), .val (.int (2 : Int32)), .val (.int (0 : Int32)), .val (.ref b3), .val (.ref b4), .val (.ref b28), .val (.ref b55), .val (.ref b84), .val (.long (g0_161 p2 p3)), .second, .val (.int (1 : Int32))] [(.int (1 : Int32))])
      refine FiniW.st (fun _ k => XS.goto X139.here hx rfl (pc0 := 312) (pc' := 316) rfl (hb hby at_312) (by decide) (by decide) k) ?_
      show FiniW p e below s _ _ _ T139 (mkF m 316 #[.val (.int p0), .val (.long q1), .second, .val (.int p2), .val (.int p3), .val (.int p4), .val (.int (2 : Int32)), .val (.int (2 : Int32)), .val (.int (0 : Int32)), .val (.ref b3), .val (.ref b4), .val (.ref b28), .val (.ref b55), .val (.ref b84), .val (.long (g0_161 p2 p3)), .second, .val (.int (1 : Int32))] [(.int (1 : Int32))])
      refine FiniW.st (fun _ k => XS.istore X139.here hx rfl (hb hby at_316) rfl (l' := #[.val (.int p0), .val (.long q1), .second, .val (.int p2), .val (.int p3), .val (.int p4), .val (.int (2 : Int32)), .val (.int (2 : Int32)), .val (.int (0 : Int32)), .val (.ref b3), .val (.ref b4), .val (.ref b28), .val (.ref b55), .val (.ref b84), .val (.long (g0_161 p2 p3)), .second, .val (.int (1 : Int32))]) rfl k) ?_
      show FiniW p e below s _ _ _ T139 (mkF m 318 #[.val (.int p0), .val (.long q1), .second, .val (.int p2), .val (.int p3), .val (.int p4), .val (.int (2 : Int32)), .val (.int (2 : Int32)), .val (.int (0 : Int32)), .val (.ref b3), .val (.ref b4), .val (.ref b28), .val (.ref b55), .val (.ref b84), .val (.long (g0_161 p2 p3)), .second, .val (.int (1 : Int32))] [])
      refine FiniW.st (fun _ k => XS.iload X139.here hx rfl (hb hby at_318) rfl k) ?_
      show FiniW p e below s _ _ _ T139 (mkF m 320 #[.val (.int p0), .val (.long q1), .second, .val (.int p2), .val (.int p3), .val (.int p4), .val (.int (2 : Int32)), .val (.int (2 : Int32)), .val (.int (0 : Int32)), .val (.ref b3), .val (.ref b4), .val (.ref b28), .val (.ref b55), .val (.ref b84), .val (.long (g0_161 p2 p3)), .second, .val (.int (1 : Int32))] [(.int (1 : Int32))])
      refine FiniW.st (fun _ k => XS.ifNo X139.here hx rfl (hb hby at_320) rfl (XT.i0_eq_f (by decide : ¬ (1 : Int32) = (0 : Int32))) k) ?_
      show FiniW p e below s _ _ _ T139 (mkF m 323 #[.val (.int p0), .val (.long q1), .second, .val (.int p2), .val (.int p3), .val (.int p4), .val (.int (2 : Int32)), .val (.int (2 : Int32)), .val (.int (0 : Int32)), .val (.ref b3), .val (.ref b4), .val (.ref b28), .val (.ref b55), .val (.ref b84), .val (.long (g0_161 p2 p3)), .second, .val (.int (1 : Int32))] [])
      refine FiniW.st (fun _ k => XS.aload X139.here hx rfl (hb hby at_323) rfl rfl k) ?_
      show FiniW p e below s _ _ _ T139 (mkF m 325 #[.val (.int p0), .val (.long q1), .second, .val (.int p2), .val (.int p3), .val (.int p4), .val (.int (2 : Int32)), .val (.int (2 : Int32)), .val (.int (0 : Int32)), .val (.ref b3), .val (.ref b4), .val (.ref b28), .val (.ref b55), .val (.ref b84), .val (.long (g0_161 p2 p3)), .second, .val (.int (1 : Int32))] [(.ref b84)])
      obtain ⟨T141, X141, e141, st141⟩ := pureV X139 hx hZ hown (hw _ (List.mem_of_getElem? (i := 128) rfl)) (hw _ (List.mem_of_getElem? (i := 129) rfl)) (hw _ (List.mem_of_getElem? (i := 131) rfl)) (hw _ (List.mem_of_getElem? (i := 130) rfl)) (hw _ (List.mem_of_getElem? (i := 95) rfl)) (hw _ (List.mem_of_getElem? (i := 132) rfl)) (notFace_of_selects (args := #[]) (mvT hZ (hw _ (List.mem_of_getElem? (i := 131) rfl)))) Ex_140 (by decide) (rm15 l Z a0 hw [] b84 (((0 : Int64) + p2.toInt64) + p3.toInt64) T138.heap Fv138) e139 (W := 0) (by decide) (by decide) (by decide) (by decide) (g := (mkF m 325 #[.val (.int p0), .val (.long q1), .second, .val (.int p2), .val (.int p3), .val (.int p4), .val (.int (2 : Int32)), .val (.int (2 : Int32)), .val (.int (0 : Int32)), .val (.ref b3), .val (.ref b4), .val (.ref b28), .val (.ref b55), .val (.ref b84), .val (.long (g0_161 p2 p3)), .second, .val (.int (1 : Int32))] [(.ref b84)])) rfl (by rw [hml]; rfl) (argsL := []) (rest := []) rfl (lenOf pd_10 rfl) rfl (by show 2 * 0 + _ ≤ _; exact Nat.le_of_eq rfl) (hb hby at_325)
      refine FiniW.st st141 ?_
      show FiniW p e below s _ _ _ T141 (mkF m 328 #[.val (.int p0), .val (.long q1), .second, .val (.int p2), .val (.int p3), .val (.int p4), .val (.int (2 : Int32)), .val (.int (2 : Int32)), .val (.int (0 : Int32)), .val (.ref b3), .val (.ref b4), .val (.ref b28), .val (.ref b55), .val (.ref b84), .val (.long (g0_161 p2 p3)), .second, .val (.int (1 : Int32))] [(.long (((0 : Int64) + p2.toInt64) + p3.toInt64))])
      refine FiniW.st (fun _ k => XS.lload X141.here hx rfl (hb hby at_328) rfl k) ?_
      show FiniW p e below s _ _ _ T141 (mkF m 330 #[.val (.int p0), .val (.long q1), .second, .val (.int p2), .val (.int p3), .val (.int p4), .val (.int (2 : Int32)), .val (.int (2 : Int32)), .val (.int (0 : Int32)), .val (.ref b3), .val (.ref b4), .val (.ref b28), .val (.ref b55), .val (.ref b84), .val (.long (g0_161 p2 p3)), .second, .val (.int (1 : Int32))] [(.long (g0_161 p2 p3)), (.long (((0 : Int64) + p2.toInt64) + p3.toInt64))])
      refine FiniW.st (fun _ k => XT.lcmp X141.here hx rfl (hb hby at_330) rfl k) ?_
      show FiniW p e below s _ _ _ T141 (mkF m 331 #[.val (.int p0), .val (.long q1), .second, .val (.int p2), .val (.int p3), .val (.int p4), .val (.int (2 : Int32)), .val (.int (2 : Int32)), .val (.int (0 : Int32)), .val (.ref b3), .val (.ref b4), .val (.ref b28), .val (.ref b55), .val (.ref b84), .val (.long (g0_161 p2 p3)), .second, .val (.int (1 : Int32))] [(.int (XT.cmpL (((0 : Int64) + p2.toInt64) + p3.toInt64) (g0_161 p2 p3)))])
      refine FiniW.st (fun _ k => XS.ifNo X141.here hx rfl (hb hby at_331) rfl (XT.ll_ne_f (show (((0 : Int64) + p2.toInt64) + p3.toInt64) = (g0_161 p2 p3) by first | (rw [Int64.zero_add]; done) | (rw [Int64.zero_add]; rfl))) k) ?_
      show FiniW p e below s _ _ _ T141 (mkF m 334 #[.val (.int p0), .val (.long q1), .second, .val (.int p2), .val (.int p3), .val (.int p4), .val (.int (2 : Int32)), .val (.int (2 : Int32)), .val (.int (0 : Int32)), .val (.ref b3), .val (.ref b4), .val (.ref b28), .val (.ref b55), .val (.ref b84), .val (.long (g0_161 p2 p3)), .second, .val (.int (1 : Int32))] [])
      refine FiniW.st (fun _ k => XS.iconst X141.here hx rfl (hb hby at_334) k) ?_
      show FiniW p e below s _ _ _ T141 (mkF m 335 #[.val (.int p0), .val (.long q1), .second, .val (.int p2), .val (.int p3), .val (.int p4), .val (.int (2 : Int32)), .val (.int (2 : Int32)), .val (.int (0 : Int32)), .val (.ref b3), .val (.ref b4), .val (.ref b28), .val (.ref b55), .val (.ref b84), .val (.long (g0_161 p2 p3)), .second, .val (.int (1 : Int32))] [(.int (1 : Int32))])
      refine FiniW.st (fun _ k => XS.goto X141.here hx rfl (pc0 := 335) (pc' := 339) rfl (hb hby at_335) (by decide) (by decide) k) ?_
      show FiniW p e below s _ _ _ T141 (mkF m 339 #[.val (.int p0), .val (.long q1), .second, .val (.int p2), .val (.int p3), .val (.int p4), .val (.int (2 : Int32)), .val (.int (2 : Int32)), .val (.int (0 : Int32)), .val (.ref b3), .val (.ref b4), .val (.ref b28), .val (.ref b55), .val (.ref b84), .val (.long (g0_161 p2 p3)), .second, .val (.int (1 : Int32))] [(.int (1 : Int32))])
      refine FiniW.st (fun _ k => XS.istore X141.here hx rfl (hb hby at_339) rfl (l' := #[.val (.int p0), .val (.long q1), .second, .val (.int p2), .val (.int p3), .val (.int p4), .val (.int (2 : Int32)), .val (.int (2 : Int32)), .val (.int (0 : Int32)), .val (.ref b3), .val (.ref b4), .val (.ref b28), .val (.ref b55), .val (.ref b84), .val (.long (g0_161 p2 p3)), .second, .val (.int (1 : Int32))]) rfl k) ?_
      show FiniW p e below s _ _ _ T141 (mkF m 341 #[.val (.int p0), .val (.long q1), .second, .val (.int p2), .val (.int p3), .val (.int p4), .val (.int (2 : Int32)), .val (.int (2 : Int32)), .val (.int (0 : Int32)), .val (.ref b3), .val (.ref b4), .val (.ref b28), .val (.ref b55), .val (.ref b84), .val (.long (g0_161 p2 p3)), .second, .val (.int (1 : Int32))] [])
      refine FiniW.st (fun _ k => XS.iload X141.here hx rfl (hb hby at_341) rfl k) ?_
      show FiniW p e below s _ _ _ T141 (mkF m 343 #[.val (.int p0), .val (.long q1), .second, .val (.int p2), .val (.int p3), .val (.int p4), .val (.int (2 : Int32)), .val (.int (2 : Int32)), .val (.int (0 : Int32)), .val (.ref b3), .val (.ref b4), .val (.ref b28), .val (.ref b55), .val (.ref b84), .val (.long (g0_161 p2 p3)), .second, .val (.int (1 : Int32))] [(.int (1 : Int32))])
      have Zs_142 : kk_230_2_0 ≤ T138.heap.size := (Nat.le_trans H230_2_0_G K138.1)
      exact FiniW.retN X141 hx hlk (t := .boolean) Bd.returns (by simp) (hb hby at_343) nb1 hS_230_2_0 (by rw [e141]; exact Zs_142) (by decide) (by decide) ⟨rfl, N138⟩
  have B230_3_0 : ∀ (T_230_3_0 : State) (h_230_3_0 : Heap) (locs : List Loc) (vm_230_3_0 : Vm) (kk_230_3_0 : Nat) (X_230_3_0 : Stand p l e room_1 (s.setVm vm_230_3_0) m #[(.int p0), (.long q1), (.int p2), (.int p3), (.int p4)] below meth c T_230_3_0 locs 18 4229) (e_230_3_0 : T_230_3_0.heap = h_230_3_0) (hZ_230_3_0 : Z.Warmed39 (s.setVm vm_230_3_0).vm) (hown_230_3_0 : (s.setVm vm_230_3_0).vm.findClass "com/example/mapcodex/mapcodex/pbf/ObjectBatchNextPinLaw" = some m.cls) (hS_230_3_0 : s.Since vm_230_3_0 kk_230_3_0) (b28 : Addr) (b3 : Addr) (b4 : Addr) (b55 : Addr) (b84 : Addr) (b89 : Addr) (N_230_3_0 : Fr n0 locs) (H230_3_0_Z : n0 ≤ h_230_3_0.size) (H230_3_0_G : kk_230_3_0 ≤ h_230_3_0.size) (H230_3_0_E_b4 : Exa Z h_230_3_0 b4 "com/example/mapcodex/mapcodex/osm/Way") (H230_3_0_E_b28 : Exa Z h_230_3_0 b28 "com/example/mapcodex/mapcodex/osm/Way") (H230_3_0_E_b55 : Exa Z h_230_3_0 b55 "com/example/mapcodex/mapcodex/osm/Way") (H230_3_0_E_b84 : Exa Z h_230_3_0 b84 "com/example/mapcodex/mapcodex/pbf/ObjectBatch") (H230_3_0_F_b84_objects : Fld Z h_230_3_0 b84 "com/example/mapcodex/mapcodex/pbf/ObjectBatch" "objects" "[Ljava/lang/Object;" (.ref b89)) (H230_3_0_F_b84_size : Fld Z h_230_3_0 b84 "com/example/mapcodex/mapcodex/pbf/ObjectBatch" "size" "I" (.int (3 : Int32))) (H230_3_0_F_b84_values : Fld Z h_230_3_0 b84 "com/example/mapcodex/mapcodex/pbf/ObjectBatch" "values" "J" (.long ((((0 : Int64) + p2.toInt64) + p3.toInt64) + p4.toInt64))) (H230_3_0_F_b84_handed : Fld Z h_230_3_0 b84 "com/example/mapcodex/mapcodex/pbf/ObjectBatch" "handed" "I" (.int (1 : Int32))) (H230_3_0_A_b89 : AryR Z h_230_3_0 b89 "java/lang/Object" (4096 : Int32) (upd (upd (upd (upd (fun _ => .null) 0 (.ref b4)) 1 (.ref b28)) 2 (.ref b55)) 0 .null)) (ne230_3_0_b4_b28 : b4 ≠ b28) (ne230_3_0_b4_b55 : b4 ≠ b55) (ne230_3_0_b28_b55 : b28 ≠ b55) (ne230_3_0_b4_b84 : b4 ≠ b84) (ne230_3_0_b28_b84 : b28 ≠ b84) (ne230_3_0_b55_b84 : b55 ≠ b84) (ne230_3_0_b4_b89 : b4 ≠ b89) (ne230_3_0_b28_b89 : b28 ≠ b89) (ne230_3_0_b55_b89 : b55 ≠ b89) (ne230_3_0_b84_b89 : b84 ≠ b89) (ge230_3_0_b28 : n0 ≤ b28) (ge230_3_0_b4 : n0 ≤ b4) (ge230_3_0_b55 : n0 ≤ b55) (ge230_3_0_b84 : n0 ≤ b84) (ge230_3_0_b89 : n0 ≤ b89) (cy230_3_0_h6 : g0_7 p0 = (3 : Int32)), FiniW p e below s (fun v h' L => v = some (.int 1) ∧ Fr n0 L) (Room.cells room_1) (Room.slots room_1) T_230_3_0 (mkF m 230 #[.val (.int p0), .val (.long q1), .second, .val (.int p2), .val (.int p3), .val (.int p4), .val (.int (3 : Int32)), .val (.int (g0_19 p0)), .val (.int (0 : Int32)), .val (.ref b3), .val (.ref b4), .val (.ref b28), .val (.ref b55), .val (.ref b84), .val (.long (g0_189 p2 p3 p4)), .second, .val (.int (1 : Int32))] []) := by
    intro T_230_3_0 h_230_3_0 locs vm_230_3_0 kk_230_3_0 X_230_3_0 e_230_3_0 hZ_230_3_0 hown_230_3_0 hS_230_3_0 b28 b3 b4 b55 b84 b89 N_230_3_0 H230_3_0_Z H230_3_0_G H230_3_0_E_b4 H230_3_0_E_b28 H230_3_0_E_b55 H230_3_0_E_b84 H230_3_0_F_b84_objects H230_3_0_F_b84_size H230_3_0_F_b84_values H230_3_0_F_b84_handed H230_3_0_A_b89 ne230_3_0_b4_b28 ne230_3_0_b4_b55 ne230_3_0_b28_b55 ne230_3_0_b4_b84 ne230_3_0_b28_b84 ne230_3_0_b55_b84 ne230_3_0_b4_b89 ne230_3_0_b28_b89 ne230_3_0_b55_b89 ne230_3_0_b84_b89 ge230_3_0_b28 ge230_3_0_b4 ge230_3_0_b55 ge230_3_0_b84 ge230_3_0_b89 cy230_3_0_h6
    have hZ := hZ_230_3_0
    have hown := hown_230_3_0
    refine FiniW.st (fun _ k => XS.iload X_230_3_0.here hx rfl (hb hby at_230) rfl k) ?_
    show FiniW p e below s _ _ _ T_230_3_0 (mkF m 232 #[.val (.int p0), .val (.long q1), .second, .val (.int p2), .val (.int p3), .val (.int p4), .val (.int (3 : Int32)), .val (.int (g0_19 p0)), .val (.int (0 : Int32)), .val (.ref b3), .val (.ref b4), .val (.ref b28), .val (.ref b55), .val (.ref b84), .val (.long (g0_189 p2 p3 p4)), .second, .val (.int (1 : Int32))] [(.int (g0_19 p0))])
    rcases own_mk3 p0 cy230_3_0_h6 with h7 | h7 | h7
    · skip
      refine FiniW.cast (g' := (mkF m 232 #[.val (.int p0), .val (.long q1), .second, .val (.int p2), .val (.int p3), .val (.int p4), .val (.int (3 : Int32)), .val (.int (1 : Int32)), .val (.int (0 : Int32)), .val (.ref b3), .val (.ref b4), .val (.ref b28), .val (.ref b55), .val (.ref b84), .val (.long (g0_189 p2 p3 p4)), .second, .val (.int (1 : Int32))] [(.int (1 : Int32))])) (by rw [h7]) ?_
      show FiniW p e below s _ _ _ T_230_3_0 (mkF m 232 #[.val (.int p0), .val (.long q1), .second, .val (.int p2), .val (.int p3), .val (.int p4), .val (.int (3 : Int32)), .val (.int (1 : Int32)), .val (.int (0 : Int32)), .val (.ref b3), .val (.ref b4), .val (.ref b28), .val (.ref b55), .val (.ref b84), .val (.long (g0_189 p2 p3 p4)), .second, .val (.int (1 : Int32))] [(.int (1 : Int32))])
      refine FiniW.st (fun _ k => XS.iconst X_230_3_0.here hx rfl (hb hby at_232) k) ?_
      show FiniW p e below s _ _ _ T_230_3_0 (mkF m 233 #[.val (.int p0), .val (.long q1), .second, .val (.int p2), .val (.int p3), .val (.int p4), .val (.int (3 : Int32)), .val (.int (1 : Int32)), .val (.int (0 : Int32)), .val (.ref b3), .val (.ref b4), .val (.ref b28), .val (.ref b55), .val (.ref b84), .val (.long (g0_189 p2 p3 p4)), .second, .val (.int (1 : Int32))] [(.int (2 : Int32)), (.int (1 : Int32))])
      refine FiniW.st (fun _ k => XS.icmpYes X_230_3_0.here hx rfl (pc0 := 233) (pc' := 258) rfl (hb hby at_233) rfl (XT.ii_lt_t (by decide : (1 : Int32) < (2 : Int32))) (by decide) (by decide) k) ?_
      show FiniW p e below s _ _ _ T_230_3_0 (mkF m 258 #[.val (.int p0), .val (.long q1), .second, .val (.int p2), .val (.int p3), .val (.int p4), .val (.int (3 : Int32)), .val (.int (1 : Int32)), .val (.int (0 : Int32)), .val (.ref b3), .val (.ref b4), .val (.ref b28), .val (.ref b55), .val (.ref b84), .val (.long (g0_189 p2 p3 p4)), .second, .val (.int (1 : Int32))] [])
      refine FiniW.st (fun _ k => XS.iload X_230_3_0.here hx rfl (hb hby at_258) rfl k) ?_
      show FiniW p e below s _ _ _ T_230_3_0 (mkF m 260 #[.val (.int p0), .val (.long q1), .second, .val (.int p2), .val (.int p3), .val (.int p4), .val (.int (3 : Int32)), .val (.int (1 : Int32)), .val (.int (0 : Int32)), .val (.ref b3), .val (.ref b4), .val (.ref b28), .val (.ref b55), .val (.ref b84), .val (.long (g0_189 p2 p3 p4)), .second, .val (.int (1 : Int32))] [(.int (1 : Int32))])
      refine FiniW.st (fun _ k => XS.iconst X_230_3_0.here hx rfl (hb hby at_260) k) ?_
      show FiniW p e below s _ _ _ T_230_3_0 (mkF m 261 #[.val (.int p0), .val (.long q1), .second, .val (.int p2), .val (.int p3), .val (.int p4), .val (.int (3 : Int32)), .val (.int (1 : Int32)), .val (.int (0 : Int32)), .val (.ref b3), .val (.ref b4), .val (.ref b28), .val (.ref b55), .val (.ref b84), .val (.long (g0_189 p2 p3 p4)), .second, .val (.int (1 : Int32))] [(.int (3 : Int32)), (.int (1 : Int32))])
      refine FiniW.st (fun _ k => XS.icmpYes X_230_3_0.here hx rfl (pc0 := 261) (pc' := 286) rfl (hb hby at_261) rfl (XT.ii_lt_t (by decide : (1 : Int32) < (3 : Int32))) (by decide) (by decide) k) ?_
      show FiniW p e below s _ _ _ T_230_3_0 (mkF m 286 #[.val (.int p0), .val (.long q1), .second, .val (.int p2), .val (.int p3), .val (.int p4), .val (.int (3 : Int32)), .val (.int (1 : Int32)), .val (.int (0 : Int32)), .val (.ref b3), .val (.ref b4), .val (.ref b28), .val (.ref b55), .val (.ref b84), .val (.long (g0_189 p2 p3 p4)), .second, .val (.int (1 : Int32))] [])
      refine FiniW.st (fun _ k => XS.iload X_230_3_0.here hx rfl (hb hby at_286) rfl k) ?_
      show FiniW p e below s _ _ _ T_230_3_0 (mkF m 288 #[.val (.int p0), .val (.long q1), .second, .val (.int p2), .val (.int p3), .val (.int p4), .val (.int (3 : Int32)), .val (.int (1 : Int32)), .val (.int (0 : Int32)), .val (.ref b3), .val (.ref b4), .val (.ref b28), .val (.ref b55), .val (.ref b84), .val (.long (g0_189 p2 p3 p4)), .second, .val (.int (1 : Int32))] [(.int (1 : Int32))])
      refine FiniW.st (fun _ k => XS.ifNo X_230_3_0.here hx rfl (hb hby at_288) rfl (XT.i0_eq_f (by decide : ¬ (1 : Int32) = (0 : Int32))) k) ?_
      show FiniW p e below s _ _ _ T_230_3_0 (mkF m 291 #[.val (.int p0), .val (.long q1), .second, .val (.int p2), .val (.int p3), .val (.int p4), .val (.int (3 : Int32)), .val (.int (1 : Int32)), .val (.int (0 : Int32)), .val (.ref b3), .val (.ref b4), .val (.ref b28), .val (.ref b55), .val (.ref b84), .val (.long (g0_189 p2 p3 p4)), .second, .val (.int (1 : Int32))] [])
      refine FiniW.st (fun _ k => XS.aload X_230_3_0.here hx rfl (hb hby at_291) rfl rfl k) ?_
      show FiniW p e below s _ _ _ T_230_3_0 (mkF m 293 #[.val (.int p0), .val (.long q1), .second, .val (.int p2), .val (.int p3), .val (.int p4), .val (.int (3 : Int32)), .val (.int (1 : Int32)), .val (.int (0 : Int32)), .val (.ref b3), .val (.ref b4), .val (.ref b28), .val (.ref b55), .val (.ref b84), .val (.long (g0_189 p2 p3 p4)), .second, .val (.int (1 : Int32))] [(.ref b84)])
      obtain ⟨T143, X143, e143, st143⟩ := pureV X_230_3_0 hx hZ hown (hw _ (List.mem_of_getElem? (i := 123) rfl)) (hw _ (List.mem_of_getElem? (i := 124) rfl)) (hw _ (List.mem_of_getElem? (i := 126) rfl)) (hw _ (List.mem_of_getElem? (i := 125) rfl)) (hw _ (List.mem_of_getElem? (i := 95) rfl)) (hw _ (List.mem_of_getElem? (i := 127) rfl)) (notFace_of_selects (args := #[]) (mvT hZ (hw _ (List.mem_of_getElem? (i := 126) rfl)))) H230_3_0_E_b84 (by decide) (rm14 l Z a0 hw [] b84 (3 : Int32) (1 : Int32) h_230_3_0 H230_3_0_F_b84_size H230_3_0_F_b84_handed) e_230_3_0 (W := 0) (by decide) (by decide) (by decide) (by decide) (g := (mkF m 293 #[.val (.int p0), .val (.long q1), .second, .val (.int p2), .val (.int p3), .val (.int p4), .val (.int (3 : Int32)), .val (.int (1 : Int32)), .val (.int (0 : Int32)), .val (.ref b3), .val (.ref b4), .val (.ref b28), .val (.ref b55), .val (.ref b84), .val (.long (g0_189 p2 p3 p4)), .second, .val (.int (1 : Int32))] [(.ref b84)])) rfl (by rw [hml]; rfl) (argsL := []) (rest := []) rfl (lenOf pd_9 rfl) rfl (by show 2 * 0 + _ ≤ _; exact Nat.le_of_eq rfl) (hb hby at_293)
      refine FiniW.st st143 ?_
      show FiniW p e below s _ _ _ T143 (mkF m 296 #[.val (.int p0), .val (.long q1), .second, .val (.int p2), .val (.int p3), .val (.int p4), .val (.int (3 : Int32)), .val (.int (1 : Int32)), .val (.int (0 : Int32)), .val (.ref b3), .val (.ref b4), .val (.ref b28), .val (.ref b55), .val (.ref b84), .val (.long (g0_189 p2 p3 p4)), .second, .val (.int (1 : Int32))] [(.int (1 : Int32))])
      refine FiniW.st (fun _ k => XS.iload X143.here hx rfl (hb hby at_296) rfl k) ?_
      show FiniW p e below s _ _ _ T143 (mkF m 298 #[.val (.int p0), .val (.long q1), .second, .val (.int p2), .val (.int p3), .val (.int p4), .val (.int (3 : Int32)), .val (.int (1 : Int32)), .val (.int (0 : Int32)), .val (.ref b3), .val (.ref b4), .val (.ref b28), .val (.ref b55), .val (.ref b84), .val (.long (g0_189 p2 p3 p4)), .second, .val (.int (1 : Int32))] [(.int (1 : Int32)), (.int (1 : Int32))])
      refine FiniW.st (fun _ k => XS.iload X143.here hx rfl (hb hby at_298) rfl k) ?_
      show FiniW p e below s _ _ _ T143 (mkF m 300 #[.val (.int p0), .val (.long q1), .second, .val (.int p2), .val (.int p3), .val (.int p4), .val (.int (3 : Int32)), .val (.int (1 : Int32)), .val (.int (0 : Int32)), .val (.ref b3), .val (.ref b4), .val (.ref b28), .val (.ref b55), .val (.ref b84), .val (.long (g0_189 p2 p3 p4)), .second, .val (.int (1 : Int32))] [(.int (3 : Int32)), (.int (1 : Int32)), (.int (1 : Int32))])
      refine FiniW.st (fun _ k => XS.icmpNo X143.here hx rfl (hb hby at_300) rfl (XT.ii_ge_f (by decide : (1 : Int32) < (3 : Int32))) k) ?_
      show FiniW p e below s _ _ _ T143 (mkF m 303 #[.val (.int p0), .val (.long q1), .second, .val (.int p2), .val (.int p3), .val (.int p4), .val (.int (3 : Int32)), .val (.int (1 : Int32)), .val (.int (0 : Int32)), .val (.ref b3), .val (.ref b4), .val (.ref b28), .val (.ref b55), .val (.ref b84), .val (.long (g0_189 p2 p3 p4)), .second, .val (.int (1 : Int32))] [(.int (1 : Int32))])
      refine FiniW.st (fun _ k => XS.iconst X143.here hx rfl (hb hby at_303) k) ?_
      show FiniW p e below s _ _ _ T143 (mkF m 304 #[.val (.int p0), .val (.long q1), .second, .val (.int p2), .val (.int p3), .val (.int p4), .val (.int (3 : Int32)), .val (.int (1 : Int32)), .val (.int (0 : Int32)), .val (.ref b3), .val (.ref b4), .val (.ref b28), .val (.ref b55), .val (.ref b84), .val (.long (g0_189 p2 p3 p4)), .second, .val (.int (1 : Int32))] [(.int (1 : Int32)), (.int (1 : Int32))])
      refine FiniW.st (fun _ k => XS.goto X143.here hx rfl (pc0 := 304) (pc' := 308) rfl (hb hby at_304) (by decide) (by decide) k) ?_
      show FiniW p e below s _ _ _ T143 (mkF m 308 #[.val (.int p0), .val (.long q1), .second, .val (.int p2), .val (.int p3), .val (.int p4), .val (.int (3 : Int32)), .val (.int (1 : Int32)), .val (.int (0 : Int32)), .val (.ref b3), .val (.ref b4), .val (.ref b28), .val (.ref b55), .val (.ref b84), .val (.long (g0_189 p2 p3 p4)), .second, .val (.int (1 : Int32))] [(.int (1 : Int32)), (.int (1 : Int32))])
      refine FiniW.st (fun _ k => XS.icmpNo X143.here hx rfl (hb hby at_308) rfl (XT.ii_ne_f (by decide : (1 : Int32) = (1 : Int32))) k) ?_
      show FiniW p e below s _ _ _ T143 (mkF m 311 #[.val (.int p0), .val (.long q1), .second, .val (.int p2), .val (.int p3), .val (.int p4), .val (.int (3 : Int32)), .val (.int (1 : Int32)), .val (.int (0 : Int32)), .val (.ref b3), .val (.ref b4), .val (.ref b28), .val (.ref b55), .val (.ref b84), .val (.long (g0_189 p2 p3 p4)), .second, .val (.int (1 : Int32))] [])
      refine FiniW.st (fun _ k => XS.iconst X143.here hx rfl (hb hby at_311) k) ?_
      show FiniW p e below s _ _ _ T143 (mkF m 312 #[.val (.int p0), .val (.long q1), .second, .val (.int p2), .val (.int p3), .val (.int p4), .val (.int (3 : Int32)), .val (.int (1 : Int32)), .val (.int (0 : Int32)), .val (.ref b3), .val (.ref b4), .val (.ref b28), .val (.ref b55), .val (.ref b84), .val (.long (g0_189 p2 p3 p4)), .second, .val (.int (1 : Int32))] [(.int (1 : Int32))])
      refine FiniW.st (fun _ k => XS.goto X143.here hx rfl (pc0 := 312) (pc' := 316) rfl (hb hby at_312) (by decide) (by decide) k) ?_
      show FiniW p e below s _ _ _ T143 (mkF m 316 #[.val (.int p0), .val (.long q1), .second, .val (.int p2), .val (.int p3), .val (.int p4), .val (.int (3 : Int32)), .val (.int (1 : Int32)), .val (.int (0 : Int32)), .val (.ref b3), .val (.ref b4), .val (.ref b28), .val (.ref b55), .val (.ref b84), .val (.long (g0_189 p2 p3 p4)), .second, .val (.int (1 : Int32))] [(.int (1 : Int32))])
      refine FiniW.st (fun _ k => XS.istore X143.here hx rfl (hb hby at_316) rfl (l' := #[.val (.int p0), .val (.long q1), .second, .val (.int p2), .val (.int p3), .val (.int p4), .val (.int (3 : Int32)), .val (.int (1 : Int32)), .val (.int (0 : Int32)), .val (.ref b3), .val (.ref b4), .val (.ref b28), .val (.ref b55), .val (.ref b84), .val (.long (g0_189 p2 p3 p4)), .second, .val (.int (1 : Int32))]) rfl k) ?_
      show FiniW p e below s _ _ _ T143 (mkF m 318 #[.val (.int p0), .val (.long q1), .second, .val (.int p2), .val (.int p3), .val (.int p4), .val (.int (3 : Int32)), .val (.int (1 : Int32)), .val (.int (0 : Int32)), .val (.ref b3), .val (.ref b4), .val (.ref b28), .val (.ref b55), .val (.ref b84), .val (.long (g0_189 p2 p3 p4)), .second, .val (.int (1 : Int32))] [])
      refine FiniW.st (fun _ k => XS.iload X143.here hx rfl (hb hby at_318) rfl k) ?_
      show FiniW p e below s _ _ _ T143 (mkF m 320 #[.val (.int p0), .val (.long q1), .second, .val (.int p2), .val (.int p3), .val (.int p4), .val (.int (3 : Int32)), .val (.int (1 : Int32)), .val (.int (0 : Int32)), .val (.ref b3), .val (.ref b4), .val (.ref b28), .val (.ref b55), .val (.ref b84), .val (.long (g0_189 p2 p3 p4)), .second, .val (.int (1 : Int32))] [(.int (1 : Int32))])
      refine FiniW.st (fun _ k => XS.ifNo X143.here hx rfl (hb hby at_320) rfl (XT.i0_eq_f (by decide : ¬ (1 : Int32) = (0 : Int32))) k) ?_
      show FiniW p e below s _ _ _ T143 (mkF m 323 #[.val (.int p0), .val (.long q1), .second, .val (.int p2), .val (.int p3), .val (.int p4), .val (.int (3 : Int32)), .val (.int (1 : Int32)), .val (.int (0 : Int32)), .val (.ref b3), .val (.ref b4), .val (.ref b28), .val (.ref b55), .val (.ref b84), .val (.long (g0_189 p2 p3 p4)), .second, .val (.int (1 : Int32))] [])
      refine FiniW.st (fun _ k => XS.aload X143.here hx rfl (hb hby at_323) rfl rfl k) ?_
      show FiniW p e below s _ _ _ T143 (mkF m 325 #[.val (.int p0), .val (.long q1), .second, .val (.int p2), .val (.int p3), .val (.int p4), .val (.int (3 : Int32)), .val (.int (1 : Int32)), .val (.int (0 : Int32)), .val (.ref b3), .val (.ref b4), .val (.ref b28), .val (.ref b55), .val (.ref b84), .val (.long (g0_189 p2 p3 p4)), .second, .val (.int (1 : Int32))] [(.ref b84)])
      obtain ⟨T144, X144, e144, st144⟩ := pureV X143 hx hZ hown (hw _ (List.mem_of_getElem? (i := 128) rfl)) (hw _ (List.mem_of_getElem? (i := 129) rfl)) (hw _ (List.mem_of_getElem? (i := 131) rfl)) (hw _ (List.mem_of_getElem? (i := 130) rfl)) (hw _ (List.mem_of_getElem? (i := 95) rfl)) (hw _ (List.mem_of_getElem? (i := 132) rfl)) (notFace_of_selects (args := #[]) (mvT hZ (hw _ (List.mem_of_getElem? (i := 131) rfl)))) H230_3_0_E_b84 (by decide) (rm15 l Z a0 hw [] b84 ((((0 : Int64) + p2.toInt64) + p3.toInt64) + p4.toInt64) h_230_3_0 H230_3_0_F_b84_values) e143 (W := 0) (by decide) (by decide) (by decide) (by decide) (g := (mkF m 325 #[.val (.int p0), .val (.long q1), .second, .val (.int p2), .val (.int p3), .val (.int p4), .val (.int (3 : Int32)), .val (.int (1 : Int32)), .val (.int (0 : Int32)), .val (.ref b3), .val (.ref b4), .val (.ref b28), .val (.ref b55), .val (.ref b84), .val (.long (g0_189 p2 p3 p4)), .second, .val (.int (1 : Int32))] [(.ref b84)])) rfl (by rw [hml]; rfl) (argsL := []) (rest := []) rfl (lenOf pd_10 rfl) rfl (by show 2 * 0 + _ ≤ _; exact Nat.le_of_eq rfl) (hb hby at_325)
      refine FiniW.st st144 ?_
      show FiniW p e below s _ _ _ T144 (mkF m 328 #[.val (.int p0), .val (.long q1), .second, .val (.int p2), .val (.int p3), .val (.int p4), .val (.int (3 : Int32)), .val (.int (1 : Int32)), .val (.int (0 : Int32)), .val (.ref b3), .val (.ref b4), .val (.ref b28), .val (.ref b55), .val (.ref b84), .val (.long (g0_189 p2 p3 p4)), .second, .val (.int (1 : Int32))] [(.long ((((0 : Int64) + p2.toInt64) + p3.toInt64) + p4.toInt64))])
      refine FiniW.st (fun _ k => XS.lload X144.here hx rfl (hb hby at_328) rfl k) ?_
      show FiniW p e below s _ _ _ T144 (mkF m 330 #[.val (.int p0), .val (.long q1), .second, .val (.int p2), .val (.int p3), .val (.int p4), .val (.int (3 : Int32)), .val (.int (1 : Int32)), .val (.int (0 : Int32)), .val (.ref b3), .val (.ref b4), .val (.ref b28), .val (.ref b55), .val (.ref b84), .val (.long (g0_189 p2 p3 p4)), .second, .val (.int (1 : Int32))] [(.long (g0_189 p2 p3 p4)), (.long ((((0 : Int64) + p2.toInt64) + p3.toInt64) + p4.toInt64))])
      refine FiniW.st (fun _ k => XT.lcmp X144.here hx rfl (hb hby at_330) rfl k) ?_
      show FiniW p e below s _ _ _ T144 (mkF m 331 #[.val (.int p0), .val (.long q1), .second, .val (.int p2), .val (.int p3), .val (.int p4), .val (.int (3 : Int32)), .val (.int (1 : Int32)), .val (.int (0 : Int32)), .val (.ref b3), .val (.ref b4), .val (.ref b28), .val (.ref b55), .val (.ref b84), .val (.long (g0_189 p2 p3 p4)), .second, .val (.int (1 : Int32))] [(.int (XT.cmpL ((((0 : Int64) + p2.toInt64) + p3.toInt64) + p4.toInt64) (g0_189 p2 p3 p4)))])
      refine FiniW.st (fun _ k => XS.ifNo X144.here hx rfl (hb hby at_331) rfl (XT.ll_ne_f (show ((((0 : Int64) + p2.toInt64) + p3.toInt64) + p4.toInt64) = (g0_189 p2 p3 p4) by first | (rw [Int64.zero_add]; done) | (rw [Int64.zero_add]; rfl))) k) ?_
      show FiniW p e below s _ _ _ T144 (mkF m 334 #[.val (.int p0), .val (.long q1), .second, .val (.int p2), .val (.int p3), .val (.int p4), .val (.int (3 : Int32)), .val (.int (1 : Int32)), .val (.int (0 : Int32)), .val (.ref b3), .val (.ref b4), .val (.ref b28), .val (.ref b55), .val (.ref b84), .val (.long (g0_189 p2 p3 p4)), .second, .val (.int (1 : Int32))] [])
      refine FiniW.st (fun _ k => XS.iconst X144.here hx rfl (hb hby at_334) k) ?_
      show FiniW p e below s _ _ _ T144 (mkF m 335 #[.val (.int p0), .val (.long q1), .second, .val (.int p2), .val (.int p3), .val (.int p4), .val (.int (3 : Int32)), .val (.int (1 : Int32)), .val (.int (0 : Int32)), .val (.ref b3), .val (.ref b4), .val (.ref b28), .val (.ref b55), .val (.ref b84), .val (.long (g0_189 p2 p3 p4)), .second, .val (.int (1 : Int32))] [(.int (1 : Int32))])
      refine FiniW.st (fun _ k => XS.goto X144.here hx rfl (pc0 := 335) (pc' := 339) rfl (hb hby at_335) (by decide) (by decide) k) ?_
      show FiniW p e below s _ _ _ T144 (mkF m 339 #[.val (.int p0), .val (.long q1), .second, .val (.int p2), .val (.int p3), .val (.int p4), .val (.int (3 : Int32)), .val (.int (1 : Int32)), .val (.int (0 : Int32)), .val (.ref b3), .val (.ref b4), .val (.ref b28), .val (.ref b55), .val (.ref b84), .val (.long (g0_189 p2 p3 p4)), .second, .val (.int (1 : Int32))] [(.int (1 : Int32))])
      refine FiniW.st (fun _ k => XS.istore X144.here hx rfl (hb hby at_339) rfl (l' := #[.val (.int p0), .val (.long q1), .second, .val (.int p2), .val (.int p3), .val (.int p4), .val (.int (3 : Int32)), .val (.int (1 : Int32)), .val (.int (0 : Int32)), .val (.ref b3), .val (.ref b4), .val (.ref b28), .val (.ref b55), .val (.ref b84), .val (.long (g0_189 p2 p3 p4)), .second, .val (.int (1 : Int32))]) rfl k) ?_
      show FiniW p e below s _ _ _ T144 (mkF m 341 #[.val (.int p0), .val (.long q1), .second, .val (.int p2), .val (.int p3), .val (.int p4), .val (.int (3 : Int32)), .val (.int (1 : Int32)), .val (.int (0 : Int32)), .val (.ref b3), .val (.ref b4), .val (.ref b28), .val (.ref b55), .val (.ref b84), .val (.long (g0_189 p2 p3 p4)), .second, .val (.int (1 : Int32))] [])
      refine FiniW.st (fun _ k => XS.iload X144.here hx rfl (hb hby at_341) rfl k) ?_
      show FiniW p e below s _ _ _ T144 (mkF m 343 #[.val (.int p0), .val (.long q1), .second, .val (.int p2), .val (.int p3), .val (.int p4), .val (.int (3 : Int32)), .val (.int (1 : Int32)), .val (.int (0 : Int32)), .val (.ref b3), .val (.ref b4), .val (.ref b28), .val (.ref b55), .val (.ref b84), .val (.long (g0_189 p2 p3 p4)), .second, .val (.int (1 : Int32))] [(.int (1 : Int32))])
      exact FiniW.retN X144 hx hlk (t := .boolean) Bd.returns (by simp) (hb hby at_343) nb1 hS_230_3_0 (by rw [e144]; exact H230_3_0_G) (by decide) (by decide) ⟨rfl, N_230_3_0⟩
    · skip
      refine FiniW.cast (g' := (mkF m 232 #[.val (.int p0), .val (.long q1), .second, .val (.int p2), .val (.int p3), .val (.int p4), .val (.int (3 : Int32)), .val (.int (2 : Int32)), .val (.int (0 : Int32)), .val (.ref b3), .val (.ref b4), .val (.ref b28), .val (.ref b55), .val (.ref b84), .val (.long (g0_189 p2 p3 p4)), .second, .val (.int (1 : Int32))] [(.int (2 : Int32))])) (by rw [h7]) ?_
      show FiniW p e below s _ _ _ T_230_3_0 (mkF m 232 #[.val (.int p0), .val (.long q1), .second, .val (.int p2), .val (.int p3), .val (.int p4), .val (.int (3 : Int32)), .val (.int (2 : Int32)), .val (.int (0 : Int32)), .val (.ref b3), .val (.ref b4), .val (.ref b28), .val (.ref b55), .val (.ref b84), .val (.long (g0_189 p2 p3 p4)), .second, .val (.int (1 : Int32))] [(.int (2 : Int32))])
      refine FiniW.st (fun _ k => XS.iconst X_230_3_0.here hx rfl (hb hby at_232) k) ?_
      show FiniW p e below s _ _ _ T_230_3_0 (mkF m 233 #[.val (.int p0), .val (.long q1), .second, .val (.int p2), .val (.int p3), .val (.int p4), .val (.int (3 : Int32)), .val (.int (2 : Int32)), .val (.int (0 : Int32)), .val (.ref b3), .val (.ref b4), .val (.ref b28), .val (.ref b55), .val (.ref b84), .val (.long (g0_189 p2 p3 p4)), .second, .val (.int (1 : Int32))] [(.int (2 : Int32)), (.int (2 : Int32))])
      refine FiniW.st (fun _ k => XS.icmpNo X_230_3_0.here hx rfl (hb hby at_233) rfl (XT.ii_lt_f (by decide : ¬ (2 : Int32) < (2 : Int32))) k) ?_
      show FiniW p e below s _ _ _ T_230_3_0 (mkF m 236 #[.val (.int p0), .val (.long q1), .second, .val (.int p2), .val (.int p3), .val (.int p4), .val (.int (3 : Int32)), .val (.int (2 : Int32)), .val (.int (0 : Int32)), .val (.ref b3), .val (.ref b4), .val (.ref b28), .val (.ref b55), .val (.ref b84), .val (.long (g0_189 p2 p3 p4)), .second, .val (.int (1 : Int32))] [])
      refine FiniW.st (fun _ k => XS.iload X_230_3_0.here hx rfl (hb hby at_236) rfl k) ?_
      show FiniW p e below s _ _ _ T_230_3_0 (mkF m 238 #[.val (.int p0), .val (.long q1), .second, .val (.int p2), .val (.int p3), .val (.int p4), .val (.int (3 : Int32)), .val (.int (2 : Int32)), .val (.int (0 : Int32)), .val (.ref b3), .val (.ref b4), .val (.ref b28), .val (.ref b55), .val (.ref b84), .val (.long (g0_189 p2 p3 p4)), .second, .val (.int (1 : Int32))] [(.int (1 : Int32))])
      refine FiniW.st (fun _ k => XS.ifNo X_230_3_0.here hx rfl (hb hby at_238) rfl (XT.i0_eq_f (by decide : ¬ (1 : Int32) = (0 : Int32))) k) ?_
      show FiniW p e below s _ _ _ T_230_3_0 (mkF m 241 #[.val (.int p0), .val (.long q1), .second, .val (.int p2), .val (.int p3), .val (.int p4), .val (.int (3 : Int32)), .val (.int (2 : Int32)), .val (.int (0 : Int32)), .val (.ref b3), .val (.ref b4), .val (.ref b28), .val (.ref b55), .val (.ref b84), .val (.long (g0_189 p2 p3 p4)), .second, .val (.int (1 : Int32))] [])
      refine FiniW.st (fun _ k => XS.aload X_230_3_0.here hx rfl (hb hby at_241) rfl rfl k) ?_
      show FiniW p e below s _ _ _ T_230_3_0 (mkF m 243 #[.val (.int p0), .val (.long q1), .second, .val (.int p2), .val (.int p3), .val (.int p4), .val (.int (3 : Int32)), .val (.int (2 : Int32)), .val (.int (0 : Int32)), .val (.ref b3), .val (.ref b4), .val (.ref b28), .val (.ref b55), .val (.ref b84), .val (.long (g0_189 p2 p3 p4)), .second, .val (.int (1 : Int32))] [(.ref b84)])
      obtain ⟨v145, T145, L145, X145, hQ145, st145⟩ := callV X_230_3_0 hx hZ hown (hw _ (List.mem_of_getElem? (i := 114) rfl)) (hw _ (List.mem_of_getElem? (i := 115) rfl)) (hw _ (List.mem_of_getElem? (i := 117) rfl)) (hw _ (List.mem_of_getElem? (i := 116) rfl)) (hw _ (List.mem_of_getElem? (i := 95) rfl)) (hw _ (List.mem_of_getElem? (i := 118) rfl)) (notFace_of_selects (args := #[]) (mvT hZ (hw _ (List.mem_of_getElem? (i := 117) rfl)))) H230_3_0_E_b84 (by decide) (rm13 l Z a0 hw [] b84 b89 (3 : Int32) ((((0 : Int64) + p2.toInt64) + p3.toInt64) + p4.toInt64) (1 : Int32) (upd (upd (upd (upd (fun _ => .null) 0 (.ref b4)) 1 (.ref b28)) 2 (.ref b55)) 0 .null) b28 h_230_3_0 n0 H230_3_0_Z H230_3_0_E_b84 H230_3_0_F_b84_objects H230_3_0_F_b84_size H230_3_0_F_b84_values H230_3_0_F_b84_handed H230_3_0_A_b89 H230_3_0_E_b28 ge230_3_0_b84 ge230_3_0_b89 ne230_3_0_b84_b89 (⟨by decide, by decide⟩) rfl) e_230_3_0 (W := 0) (by decide) (by decide) (by decide) (by decide) (g := (mkF m 243 #[.val (.int p0), .val (.long q1), .second, .val (.int p2), .val (.int p3), .val (.int p4), .val (.int (3 : Int32)), .val (.int (2 : Int32)), .val (.int (0 : Int32)), .val (.ref b3), .val (.ref b4), .val (.ref b28), .val (.ref b55), .val (.ref b84), .val (.long (g0_189 p2 p3 p4)), .second, .val (.int (1 : Int32))] [(.ref b84)])) rfl (by rw [hml]; rfl) (argsL := []) (rest := []) rfl (lenOf pd_8 rfl) rfl (by show 2 * 0 + _ ≤ _; exact Nat.le_of_eq rfl) (hb hby at_243)
      obtain ⟨rfl, Nq145, K145, Fo145, Ar145, Fs145, Fv145, Fh145⟩ := hQ145
      have N145 := Fr.app N_230_3_0 Nq145
      refine FiniW.st st145 ?_
      show FiniW p e below s _ _ _ T145 (mkF m 246 #[.val (.int p0), .val (.long q1), .second, .val (.int p2), .val (.int p3), .val (.int p4), .val (.int (3 : Int32)), .val (.int (2 : Int32)), .val (.int (0 : Int32)), .val (.ref b3), .val (.ref b4), .val (.ref b28), .val (.ref b55), .val (.ref b84), .val (.long (g0_189 p2 p3 p4)), .second, .val (.int (1 : Int32))] [(.ref b28)])
      refine FiniW.st (fun _ k => XS.aload X145.here hx rfl (hb hby at_246) rfl rfl k) ?_
      show FiniW p e below s _ _ _ T145 (mkF m 248 #[.val (.int p0), .val (.long q1), .second, .val (.int p2), .val (.int p3), .val (.int p4), .val (.int (3 : Int32)), .val (.int (2 : Int32)), .val (.int (0 : Int32)), .val (.ref b3), .val (.ref b4), .val (.ref b28), .val (.ref b55), .val (.ref b84), .val (.long (g0_189 p2 p3 p4)), .second, .val (.int (1 : Int32))] [(.ref b28), (.ref b28)])
      refine FiniW.st (fun _ k => Jvm.RoadKit.acmp (g := (mkF m 248 #[.val (.int p0), .val (.long q1), .second, .val (.int p2), .val (.int p3), .val (.int p4), .val (.int (3 : Int32)), .val (.int (2 : Int32)), .val (.int (0 : Int32)), .val (.ref b3), .val (.ref b4), .val (.ref b28), .val (.ref b55), .val (.ref b84), .val (.long (g0_189 p2 p3 p4)), .second, .val (.int (1 : Int32))] [(.ref b28), (.ref b28)])) X145 hx rfl rfl rfl (pc0 := 248) (pc' := 251) (same := true) rfl (hb hby at_248) rfl (decide_eq_true rfl) (by decide) (by decide) k) ?_
      show FiniW p e below s _ _ _ T145 (mkF m 251 #[.val (.int p0), .val (.long q1), .second, .val (.int p2), .val (.int p3), .val (.int p4), .val (.int (3 : Int32)), .val (.int (2 : Int32)), .val (.int (0 : Int32)), .val (.ref b3), .val (.ref b4), .val (.ref b28), .val (.ref b55), .val (.ref b84), .val (.long (g0_189 p2 p3 p4)), .second, .val (.int (1 : Int32))] [])
      refine FiniW.st (fun _ k => XS.iconst X145.here hx rfl (hb hby at_251) k) ?_
      show FiniW p e below s _ _ _ T145 (mkF m 252 #[.val (.int p0), .val (.long q1), .second, .val (.int p2), .val (.int p3), .val (.int p4), .val (.int (3 : Int32)), .val (.int (2 : Int32)), .val (.int (0 : Int32)), .val (.ref b3), .val (.ref b4), .val (.ref b28), .val (.ref b55), .val (.ref b84), .val (.long (g0_189 p2 p3 p4)), .second, .val (.int (1 : Int32))] [(.int (1 : Int32))])
      refine FiniW.st (fun _ k => XS.goto X145.here hx rfl (pc0 := 252) (pc' := 256) rfl (hb hby at_252) (by decide) (by decide) k) ?_
      show FiniW p e below s _ _ _ T145 (mkF m 256 #[.val (.int p0), .val (.long q1), .second, .val (.int p2), .val (.int p3), .val (.int p4), .val (.int (3 : Int32)), .val (.int (2 : Int32)), .val (.int (0 : Int32)), .val (.ref b3), .val (.ref b4), .val (.ref b28), .val (.ref b55), .val (.ref b84), .val (.long (g0_189 p2 p3 p4)), .second, .val (.int (1 : Int32))] [(.int (1 : Int32))])
      refine FiniW.st (fun _ k => XS.istore X145.here hx rfl (hb hby at_256) rfl (l' := #[.val (.int p0), .val (.long q1), .second, .val (.int p2), .val (.int p3), .val (.int p4), .val (.int (3 : Int32)), .val (.int (2 : Int32)), .val (.int (0 : Int32)), .val (.ref b3), .val (.ref b4), .val (.ref b28), .val (.ref b55), .val (.ref b84), .val (.long (g0_189 p2 p3 p4)), .second, .val (.int (1 : Int32))]) rfl k) ?_
      show FiniW p e below s _ _ _ T145 (mkF m 258 #[.val (.int p0), .val (.long q1), .second, .val (.int p2), .val (.int p3), .val (.int p4), .val (.int (3 : Int32)), .val (.int (2 : Int32)), .val (.int (0 : Int32)), .val (.ref b3), .val (.ref b4), .val (.ref b28), .val (.ref b55), .val (.ref b84), .val (.long (g0_189 p2 p3 p4)), .second, .val (.int (1 : Int32))] [])
      refine FiniW.st (fun _ k => XS.iload X145.here hx rfl (hb hby at_258) rfl k) ?_
      show FiniW p e below s _ _ _ T145 (mkF m 260 #[.val (.int p0), .val (.long q1), .second, .val (.int p2), .val (.int p3), .val (.int p4), .val (.int (3 : Int32)), .val (.int (2 : Int32)), .val (.int (0 : Int32)), .val (.ref b3), .val (.ref b4), .val (.ref b28), .val (.ref b55), .val (.ref b84), .val (.long (g0_189 p2 p3 p4)), .second, .val (.int (1 : Int32))] [(.int (2 : Int32))])
      refine FiniW.st (fun _ k => XS.iconst X145.here hx rfl (hb hby at_260) k) ?_
      show FiniW p e below s _ _ _ T145 (mkF m 261 #[.val (.int p0), .val (.long q1), .second, .val (.int p2), .val (.int p3), .val (.int p4), .val (.int (3 : Int32)), .val (.int (2 : Int32)), .val (.int (0 : Int32)), .val (.ref b3), .val (.ref b4), .val (.ref b28), .val (.ref b55), .val (.ref b84), .val (.long (g0_189 p2 p3 p4)), .second, .val (.int (1 : Int32))] [(.int (3 : Int32)), (.int (2 : Int32))])
      refine FiniW.st (fun _ k => XS.icmpYes X145.here hx rfl (pc0 := 261) (pc' := 286) rfl (hb hby at_261) rfl (XT.ii_lt_t (by decide : (2 : Int32) < (3 : Int32))) (by decide) (by decide) k) ?_
      show FiniW p e below s _ _ _ T145 (mkF m 286 #[.val (.int p0), .val (.long q1), .second, .val (.int p2), .val (.int p3), .val (.int p4), .val (.int (3 : Int32)), .val (.int (2 : Int32)), .val (.int (0 : Int32)), .val (.ref b3), .val (.ref b4), .val (.ref b28), .val (.ref b55), .val (.ref b84), .val (.long (g0_189 p2 p3 p4)), .second, .val (.int (1 : Int32))] [])
      refine FiniW.st (fun _ k => XS.iload X145.here hx rfl (hb hby at_286) rfl k) ?_
      show FiniW p e below s _ _ _ T145 (mkF m 288 #[.val (.int p0), .val (.long q1), .second, .val (.int p2), .val (.int p3), .val (.int p4), .val (.int (3 : Int32)), .val (.int (2 : Int32)), .val (.int (0 : Int32)), .val (.ref b3), .val (.ref b4), .val (.ref b28), .val (.ref b55), .val (.ref b84), .val (.long (g0_189 p2 p3 p4)), .second, .val (.int (1 : Int32))] [(.int (1 : Int32))])
      refine FiniW.st (fun _ k => XS.ifNo X145.here hx rfl (hb hby at_288) rfl (XT.i0_eq_f (by decide : ¬ (1 : Int32) = (0 : Int32))) k) ?_
      show FiniW p e below s _ _ _ T145 (mkF m 291 #[.val (.int p0), .val (.long q1), .second, .val (.int p2), .val (.int p3), .val (.int p4), .val (.int (3 : Int32)), .val (.int (2 : Int32)), .val (.int (0 : Int32)), .val (.ref b3), .val (.ref b4), .val (.ref b28), .val (.ref b55), .val (.ref b84), .val (.long (g0_189 p2 p3 p4)), .second, .val (.int (1 : Int32))] [])
      refine FiniW.st (fun _ k => XS.aload X145.here hx rfl (hb hby at_291) rfl rfl k) ?_
      show FiniW p e below s _ _ _ T145 (mkF m 293 #[.val (.int p0), .val (.long q1), .second, .val (.int p2), .val (.int p3), .val (.int p4), .val (.int (3 : Int32)), .val (.int (2 : Int32)), .val (.int (0 : Int32)), .val (.ref b3), .val (.ref b4), .val (.ref b28), .val (.ref b55), .val (.ref b84), .val (.long (g0_189 p2 p3 p4)), .second, .val (.int (1 : Int32))] [(.ref b84)])
      have Ex_147 : Exa Z T145.heap b84 "com/example/mapcodex/mapcodex/pbf/ObjectBatch" := (H230_3_0_E_b84.keep K145)
      obtain ⟨T146, X146, e146, st146⟩ := pureV X145 hx hZ hown (hw _ (List.mem_of_getElem? (i := 123) rfl)) (hw _ (List.mem_of_getElem? (i := 124) rfl)) (hw _ (List.mem_of_getElem? (i := 126) rfl)) (hw _ (List.mem_of_getElem? (i := 125) rfl)) (hw _ (List.mem_of_getElem? (i := 95) rfl)) (hw _ (List.mem_of_getElem? (i := 127) rfl)) (notFace_of_selects (args := #[]) (mvT hZ (hw _ (List.mem_of_getElem? (i := 126) rfl)))) Ex_147 (by decide) (rm14 l Z a0 hw [] b84 (3 : Int32) (2 : Int32) T145.heap Fs145 Fh145) rfl (W := 0) (by decide) (by decide) (by decide) (by decide) (g := (mkF m 293 #[.val (.int p0), .val (.long q1), .second, .val (.int p2), .val (.int p3), .val (.int p4), .val (.int (3 : Int32)), .val (.int (2 : Int32)), .val (.int (0 : Int32)), .val (.ref b3), .val (.ref b4), .val (.ref b28), .val (.ref b55), .val (.ref b84), .val (.long (g0_189 p2 p3 p4)), .second, .val (.int (1 : Int32))] [(.ref b84)])) rfl (by rw [hml]; rfl) (argsL := []) (rest := []) rfl (lenOf pd_9 rfl) rfl (by show 2 * 0 + _ ≤ _; exact Nat.le_of_eq rfl) (hb hby at_293)
      refine FiniW.st st146 ?_
      show FiniW p e below s _ _ _ T146 (mkF m 296 #[.val (.int p0), .val (.long q1), .second, .val (.int p2), .val (.int p3), .val (.int p4), .val (.int (3 : Int32)), .val (.int (2 : Int32)), .val (.int (0 : Int32)), .val (.ref b3), .val (.ref b4), .val (.ref b28), .val (.ref b55), .val (.ref b84), .val (.long (g0_189 p2 p3 p4)), .second, .val (.int (1 : Int32))] [(.int (1 : Int32))])
      refine FiniW.st (fun _ k => XS.iload X146.here hx rfl (hb hby at_296) rfl k) ?_
      show FiniW p e below s _ _ _ T146 (mkF m 298 #[.val (.int p0), .val (.long q1), .second, .val (.int p2), .val (.int p3), .val (.int p4), .val (.int (3 : Int32)), .val (.int (2 : Int32)), .val (.int (0 : Int32)), .val (.ref b3), .val (.ref b4), .val (.ref b28), .val (.ref b55), .val (.ref b84), .val (.long (g0_189 p2 p3 p4)), .second, .val (.int (1 : Int32))] [(.int (2 : Int32)), (.int (1 : Int32))])
      refine FiniW.st (fun _ k => XS.iload X146.here hx rfl (hb hby at_298) rfl k) ?_
      show FiniW p e below s _ _ _ T146 (mkF m 300 #[.val (.int p0), .val (.long q1), .second, .val (.int p2), .val (.int p3), .val (.int p4), .val (.int (3 : Int32)), .val (.int (2 : Int32)), .val (.int (0 : Int32)), .val (.ref b3), .val (.ref b4), .val (.ref b28), .val (.ref b55), .val (.ref b84), .val (.long (g0_189 p2 p3 p4)), .second, .val (.int (1 : Int32))] [(.int (3 : Int32)), (.int (2 : Int32)), (.int (1 : Int32))])
      refine FiniW.st (fun _ k => XS.icmpNo X146.here hx rfl (hb hby at_300) rfl (XT.ii_ge_f (by decide : (2 : Int32) < (3 : Int32))) k) ?_
      show FiniW p e below s _ _ _ T146 (mkF m 303 #[.val (.int p0), .val (.long q1), .second, .val (.int p2), .val (.int p3), .val (.int p4), .val (.int (3 : Int32)), .val (.int (2 : Int32)), .val (.int (0 : Int32)), .val (.ref b3), .val (.ref b4), .val (.ref b28), .val (.ref b55), .val (.ref b84), .val (.long (g0_189 p2 p3 p4)), .second, .val (.int (1 : Int32))] [(.int (1 : Int32))])
      refine FiniW.st (fun _ k => XS.iconst X146.here hx rfl (hb hby at_303) k) ?_
      show FiniW p e below s _ _ _ T146 (mkF m 304 #[.val (.int p0), .val (.long q1), .second, .val (.int p2), .val (.int p3), .val (.int p4), .val (.int (3 : Int32)), .val (.int (2 : Int32)), .val (.int (0 : Int32)), .val (.ref b3), .val (.ref b4), .val (.ref b28), .val (.ref b55), .val (.ref b84), .val (.long (g0_189 p2 p3 p4)), .second, .val (.int (1 : Int32))] [(.int (1 : Int32)), (.int (1 : Int32))])
      refine FiniW.st (fun _ k => XS.goto X146.here hx rfl (pc0 := 304) (pc' := 308) rfl (hb hby at_304) (by decide) (by decide) k) ?_
      show FiniW p e below s _ _ _ T146 (mkF m 308 #[.val (.int p0), .val (.long q1), .second, .val (.int p2), .val (.int p3), .val (.int p4), .val (.int (3 : Int32)), .val (.int (2 : Int32)), .val (.int (0 : Int32)), .val (.ref b3), .val (.ref b4), .val (.ref b28), .val (.ref b55), .val (.ref b84), .val (.long (g0_189 p2 p3 p4)), .second, .val (.int (1 : Int32))] [(.int (1 : Int32)), (.int (1 : Int32))])
      refine FiniW.st (fun _ k => XS.icmpNo X146.here hx rfl (hb hby at_308) rfl (XT.ii_ne_f (by decide : (1 : Int32) = (1 : Int32))) k) ?_
      show FiniW p e below s _ _ _ T146 (mkF m 311 #[.val (.int p0), .val (.long q1), .second, .val (.int p2), .val (.int p3), .val (.int p4), .val (.int (3 : Int32)), .val (.int (2 : Int32)), .val (.int (0 : Int32)), .val (.ref b3), .val (.ref b4), .val (.ref b28), .val (.ref b55), .val (.ref b84), .val (.long (g0_189 p2 p3 p4)), .second, .val (.int (1 : Int32))] [])
      refine FiniW.st (fun _ k => XS.iconst X146.here hx rfl (hb hby at_311) k) ?_
      show FiniW p e below s _ _ _ T146 (mkF m 312 #[.val (.int p0), .val (.long q1), .second, .val (.int p2), .val (.int p3), .val (.int p4), .val (.int (3 : Int32)), .val (.int (2 : Int32)), .val (.int (0 : Int32)), .val (.ref b3), .val (.ref b4), .val (.ref b28), .val (.ref b55), .val (.ref b84), .val (.long (g0_189 p2 p3 p4)), .second, .val (.int (1 : Int32))] [(.int (1 : Int32))])
      refine FiniW.st (fun _ k => XS.goto X146.here hx rfl (pc0 := 312) (pc' := 316) rfl (hb hby at_312) (by decide) (by decide) k) ?_
      show FiniW p e below s _ _ _ T146 (mkF m 316 #[.val (.int p0), .val (.long q1), .second, .val (.int p2), .val (.int p3), .val (.int p4), .val (.int (3 : Int32)), .val (.int (2 : Int32)), .val (.int (0 : Int32)), .val (.ref b3), .val (.ref b4), .val (.ref b28), .val (.ref b55), .val (.ref b84), .val (.long (g0_189 p2 p3 p4)), .second, .val (.int (1 : Int32))] [(.int (1 : Int32))])
      refine FiniW.st (fun _ k => XS.istore X146.here hx rfl (hb hby at_316) rfl (l' := #[.val (.int p0), .val (.long q1), .second, .val (.int p2), .val (.int p3), .val (.int p4), .val (.int (3 : Int32)), .val (.int (2 : Int32)), .val (.int (0 : Int32)), .val (.ref b3), .val (.ref b4), .val (.ref b28), .val (.ref b55), .val (.ref b84), .val (.long (g0_189 p2 p3 p4)), .second, .val (.int (1 : Int32))]) rfl k) ?_
      show FiniW p e below s _ _ _ T146 (mkF m 318 #[.val (.int p0), .val (.long q1), .second, .val (.int p2), .val (.int p3), .val (.int p4), .val (.int (3 : Int32)), .val (.int (2 : Int32)), .val (.int (0 : Int32)), .val (.ref b3), .val (.ref b4), .val (.ref b28), .val (.ref b55), .val (.ref b84), .val (.long (g0_189 p2 p3 p4)), .second, .val (.int (1 : Int32))] [])
      refine FiniW.st (fun _ k => XS.iload X146.here hx rfl (hb hby at_318) rfl k) ?_
      show FiniW p e below s _ _ _ T146 (mkF m 320 #[.val (.int p0), .val (.long q1), .second, .val (.int p2), .val (.int p3), .val (.int p4), .val (.int (3 : Int32)), .val (.int (2 : Int32)), .val (.int (0 : Int32)), .val (.ref b3), .val (.ref b4), .val (.ref b28), .val (.ref b55), .val (.ref b84), .val (.long (g0_189 p2 p3 p4)), .second, .val (.int (1 : Int32))] [(.int (1 : Int32))])
      refine FiniW.st (fun _ k => XS.ifNo X146.here hx rfl (hb hby at_320) rfl (XT.i0_eq_f (by decide : ¬ (1 : Int32) = (0 : Int32))) k) ?_
      show FiniW p e below s _ _ _ T146 (mkF m 323 #[.val (.int p0), .val (.long q1), .second, .val (.int p2), .val (.int p3), .val (.int p4), .val (.int (3 : Int32)), .val (.int (2 : Int32)), .val (.int (0 : Int32)), .val (.ref b3), .val (.ref b4), .val (.ref b28), .val (.ref b55), .val (.ref b84), .val (.long (g0_189 p2 p3 p4)), .second, .val (.int (1 : Int32))] [])
      refine FiniW.st (fun _ k => XS.aload X146.here hx rfl (hb hby at_323) rfl rfl k) ?_
      show FiniW p e below s _ _ _ T146 (mkF m 325 #[.val (.int p0), .val (.long q1), .second, .val (.int p2), .val (.int p3), .val (.int p4), .val (.int (3 : Int32)), .val (.int (2 : Int32)), .val (.int (0 : Int32)), .val (.ref b3), .val (.ref b4), .val (.ref b28), .val (.ref b55), .val (.ref b84), .val (.long (g0_189 p2 p3 p4)), .second, .val (.int (1 : Int32))] [(.ref b84)])
      obtain ⟨T148, X148, e148, st148⟩ := pureV X146 hx hZ hown (hw _ (List.mem_of_getElem? (i := 128) rfl)) (hw _ (List.mem_of_getElem? (i := 129) rfl)) (hw _ (List.mem_of_getElem? (i := 131) rfl)) (hw _ (List.mem_of_getElem? (i := 130) rfl)) (hw _ (List.mem_of_getElem? (i := 95) rfl)) (hw _ (List.mem_of_getElem? (i := 132) rfl)) (notFace_of_selects (args := #[]) (mvT hZ (hw _ (List.mem_of_getElem? (i := 131) rfl)))) Ex_147 (by decide) (rm15 l Z a0 hw [] b84 ((((0 : Int64) + p2.toInt64) + p3.toInt64) + p4.toInt64) T145.heap Fv145) e146 (W := 0) (by decide) (by decide) (by decide) (by decide) (g := (mkF m 325 #[.val (.int p0), .val (.long q1), .second, .val (.int p2), .val (.int p3), .val (.int p4), .val (.int (3 : Int32)), .val (.int (2 : Int32)), .val (.int (0 : Int32)), .val (.ref b3), .val (.ref b4), .val (.ref b28), .val (.ref b55), .val (.ref b84), .val (.long (g0_189 p2 p3 p4)), .second, .val (.int (1 : Int32))] [(.ref b84)])) rfl (by rw [hml]; rfl) (argsL := []) (rest := []) rfl (lenOf pd_10 rfl) rfl (by show 2 * 0 + _ ≤ _; exact Nat.le_of_eq rfl) (hb hby at_325)
      refine FiniW.st st148 ?_
      show FiniW p e below s _ _ _ T148 (mkF m 328 #[.val (.int p0), .val (.long q1), .second, .val (.int p2), .val (.int p3), .val (.int p4), .val (.int (3 : Int32)), .val (.int (2 : Int32)), .val (.int (0 : Int32)), .val (.ref b3), .val (.ref b4), .val (.ref b28), .val (.ref b55), .val (.ref b84), .val (.long (g0_189 p2 p3 p4)), .second, .val (.int (1 : Int32))] [(.long ((((0 : Int64) + p2.toInt64) + p3.toInt64) + p4.toInt64))])
      refine FiniW.st (fun _ k => XS.lload X148.here hx rfl (hb hby at_328) rfl k) ?_
      show FiniW p e below s _ _ _ T148 (mkF m 330 #[.val (.int p0), .val (.long q1), .second, .val (.int p2), .val (.int p3), .val (.int p4), .val (.int (3 : Int32)), .val (.int (2 : Int32)), .val (.int (0 : Int32)), .val (.ref b3), .val (.ref b4), .val (.ref b28), .val (.ref b55), .val (.ref b84), .val (.long (g0_189 p2 p3 p4)), .second, .val (.int (1 : Int32))] [(.long (g0_189 p2 p3 p4)), (.long ((((0 : Int64) + p2.toInt64) + p3.toInt64) + p4.toInt64))])
      refine FiniW.st (fun _ k => XT.lcmp X148.here hx rfl (hb hby at_330) rfl k) ?_
      show FiniW p e below s _ _ _ T148 (mkF m 331 #[.val (.int p0), .val (.long q1), .second, .val (.int p2), .val (.int p3), .val (.int p4), .val (.int (3 : Int32)), .val (.int (2 : Int32)), .val (.int (0 : Int32)), .val (.ref b3), .val (.ref b4), .val (.ref b28), .val (.ref b55), .val (.ref b84), .val (.long (g0_189 p2 p3 p4)), .second, .val (.int (1 : Int32))] [(.int (XT.cmpL ((((0 : Int64) + p2.toInt64) + p3.toInt64) + p4.toInt64) (g0_189 p2 p3 p4)))])
      refine FiniW.st (fun _ k => XS.ifNo X148.here hx rfl (hb hby at_331) rfl (XT.ll_ne_f (show ((((0 : Int64) + p2.toInt64) + p3.toInt64) + p4.toInt64) = (g0_189 p2 p3 p4) by first | (rw [Int64.zero_add]; done) | (rw [Int64.zero_add]; rfl))) k) ?_
      show FiniW p e below s _ _ _ T148 (mkF m 334 #[.val (.int p0), .val (.long q1), .second, .val (.int p2), .val (.int p3), .val (.int p4), .val (.int (3 : Int32)), .val (.int (2 : Int32)), .val (.int (0 : Int32)), .val (.ref b3), .val (.ref b4), .val (.ref b28), .val (.ref b55), .val (.ref b84), .val (.long (g0_189 p2 p3 p4)), .second, .val (.int (1 : Int32))] [])
      refine FiniW.st (fun _ k => XS.iconst X148.here hx rfl (hb hby at_334) k) ?_
      show FiniW p e below s _ _ _ T148 (mkF m 335 #[.val (.int p0), .val (.long q1), .second, .val (.int p2), .val (.int p3), .val (.int p4), .val (.int (3 : Int32)), .val (.int (2 : Int32)), .val (.int (0 : Int32)), .val (.ref b3), .val (.ref b4), .val (.ref b28), .val (.ref b55), .val (.ref b84), .val (.long (g0_189 p2 p3 p4)), .second, .val (.int (1 : Int32))] [(.int (1 : Int32))])
      refine FiniW.st (fun _ k => XS.goto X148.here hx rfl (pc0 := 335) (pc' := 339) rfl (hb hby at_335) (by decide) (by decide) k) ?_
      show FiniW p e below s _ _ _ T148 (mkF m 339 #[.val (.int p0), .val (.long q1), .second, .val (.int p2), .val (.int p3), .val (.int p4), .val (.int (3 : Int32)), .val (.int (2 : Int32)), .val (.int (0 : Int32)), .val (.ref b3), .val (.ref b4), .val (.ref b28), .val (.ref b55), .val (.ref b84), .val (.long (g0_189 p2 p3 p4)), .second, .val (.int (1 : Int32))] [(.int (1 : Int32))])
      refine FiniW.st (fun _ k => XS.istore X148.here hx rfl (hb hby at_339) rfl (l' := #[.val (.int p0), .val (.long q1), .second, .val (.int p2), .val (.int p3), .val (.int p4), .val (.int (3 : Int32)), .val (.int (2 : Int32)), .val (.int (0 : Int32)), .val (.ref b3), .val (.ref b4), .val (.ref b28), .val (.ref b55), .val (.ref b84), .val (.long (g0_189 p2 p3 p4)), .second, .val (.int (1 : Int32))]) rfl k) ?_
      show FiniW p e below s _ _ _ T148 (mkF m 341 #[.val (.int p0), .val (.long q1), .second, .val (.int p2), .val (.int p3), .val (.int p4), .val (.int (3 : Int32)), .val (.int (2 : Int32)), .val (.int (0 : Int32)), .val (.ref b3), .val (.ref b4), .val (.ref b28), .val (.ref b55), .val (.ref b84), .val (.long (g0_189 p2 p3 p4)), .second, .val (.int (1 : Int32))] [])
      refine FiniW.st (fun _ k => XS.iload X148.here hx rfl (hb hby at_341) rfl k) ?_
      show FiniW p e below s _ _ _ T148 (mkF m 343 #[.val (.int p0), .val (.long q1), .second, .val (.int p2), .val (.int p3), .val (.int p4), .val (.int (3 : Int32)), .val (.int (2 : Int32)), .val (.int (0 : Int32)), .val (.ref b3), .val (.ref b4), .val (.ref b28), .val (.ref b55), .val (.ref b84), .val (.long (g0_189 p2 p3 p4)), .second, .val (.int (1 : Int32))] [(.int (1 : Int32))])
      have Zs_149 : kk_230_3_0 ≤ T145.heap.size := (Nat.le_trans H230_3_0_G K145.1)
      exact FiniW.retN X148 hx hlk (t := .boolean) Bd.returns (by simp) (hb hby at_343) nb1 hS_230_3_0 (by rw [e148]; exact Zs_149) (by decide) (by decide) ⟨rfl, N145⟩
    · skip
      refine FiniW.cast (g' := (mkF m 232 #[.val (.int p0), .val (.long q1), .second, .val (.int p2), .val (.int p3), .val (.int p4), .val (.int (3 : Int32)), .val (.int (3 : Int32)), .val (.int (0 : Int32)), .val (.ref b3), .val (.ref b4), .val (.ref b28), .val (.ref b55), .val (.ref b84), .val (.long (g0_189 p2 p3 p4)), .second, .val (.int (1 : Int32))] [(.int (3 : Int32))])) (by rw [h7]) ?_
      show FiniW p e below s _ _ _ T_230_3_0 (mkF m 232 #[.val (.int p0), .val (.long q1), .second, .val (.int p2), .val (.int p3), .val (.int p4), .val (.int (3 : Int32)), .val (.int (3 : Int32)), .val (.int (0 : Int32)), .val (.ref b3), .val (.ref b4), .val (.ref b28), .val (.ref b55), .val (.ref b84), .val (.long (g0_189 p2 p3 p4)), .second, .val (.int (1 : Int32))] [(.int (3 : Int32))])
      refine FiniW.st (fun _ k => XS.iconst X_230_3_0.here hx rfl (hb hby at_232) k) ?_
      show FiniW p e below s _ _ _ T_230_3_0 (mkF m 233 #[.val (.int p0), .val (.long q1), .second, .val (.int p2), .val (.int p3), .val (.int p4), .val (.int (3 : Int32)), .val (.int (3 : Int32)), .val (.int (0 : Int32)), .val (.ref b3), .val (.ref b4), .val (.ref b28), .val (.ref b55), .val (.ref b84), .val (.long (g0_189 p2 p3 p4)), .second, .val (.int (1 : Int32))] [(.int (2 : Int32)), (.int (3 : Int32))])
      refine FiniW.st (fun _ k => XS.icmpNo X_230_3_0.here hx rfl (hb hby at_233) rfl (XT.ii_lt_f (by decide : ¬ (3 : Int32) < (2 : Int32))) k) ?_
      show FiniW p e below s _ _ _ T_230_3_0 (mkF m 236 #[.val (.int p0), .val (.long q1), .second, .val (.int p2), .val (.int p3), .val (.int p4), .val (.int (3 : Int32)), .val (.int (3 : Int32)), .val (.int (0 : Int32)), .val (.ref b3), .val (.ref b4), .val (.ref b28), .val (.ref b55), .val (.ref b84), .val (.long (g0_189 p2 p3 p4)), .second, .val (.int (1 : Int32))] [])
      refine FiniW.st (fun _ k => XS.iload X_230_3_0.here hx rfl (hb hby at_236) rfl k) ?_
      show FiniW p e below s _ _ _ T_230_3_0 (mkF m 238 #[.val (.int p0), .val (.long q1), .second, .val (.int p2), .val (.int p3), .val (.int p4), .val (.int (3 : Int32)), .val (.int (3 : Int32)), .val (.int (0 : Int32)), .val (.ref b3), .val (.ref b4), .val (.ref b28), .val (.ref b55), .val (.ref b84), .val (.long (g0_189 p2 p3 p4)), .second, .val (.int (1 : Int32))] [(.int (1 : Int32))])
      refine FiniW.st (fun _ k => XS.ifNo X_230_3_0.here hx rfl (hb hby at_238) rfl (XT.i0_eq_f (by decide : ¬ (1 : Int32) = (0 : Int32))) k) ?_
      show FiniW p e below s _ _ _ T_230_3_0 (mkF m 241 #[.val (.int p0), .val (.long q1), .second, .val (.int p2), .val (.int p3), .val (.int p4), .val (.int (3 : Int32)), .val (.int (3 : Int32)), .val (.int (0 : Int32)), .val (.ref b3), .val (.ref b4), .val (.ref b28), .val (.ref b55), .val (.ref b84), .val (.long (g0_189 p2 p3 p4)), .second, .val (.int (1 : Int32))] [])
      refine FiniW.st (fun _ k => XS.aload X_230_3_0.here hx rfl (hb hby at_241) rfl rfl k) ?_
      show FiniW p e below s _ _ _ T_230_3_0 (mkF m 243 #[.val (.int p0), .val (.long q1), .second, .val (.int p2), .val (.int p3), .val (.int p4), .val (.int (3 : Int32)), .val (.int (3 : Int32)), .val (.int (0 : Int32)), .val (.ref b3), .val (.ref b4), .val (.ref b28), .val (.ref b55), .val (.ref b84), .val (.long (g0_189 p2 p3 p4)), .second, .val (.int (1 : Int32))] [(.ref b84)])
      obtain ⟨v150, T150, L150, X150, hQ150, st150⟩ := callV X_230_3_0 hx hZ hown (hw _ (List.mem_of_getElem? (i := 114) rfl)) (hw _ (List.mem_of_getElem? (i := 115) rfl)) (hw _ (List.mem_of_getElem? (i := 117) rfl)) (hw _ (List.mem_of_getElem? (i := 116) rfl)) (hw _ (List.mem_of_getElem? (i := 95) rfl)) (hw _ (List.mem_of_getElem? (i := 118) rfl)) (notFace_of_selects (args := #[]) (mvT hZ (hw _ (List.mem_of_getElem? (i := 117) rfl)))) H230_3_0_E_b84 (by decide) (rm13 l Z a0 hw [] b84 b89 (3 : Int32) ((((0 : Int64) + p2.toInt64) + p3.toInt64) + p4.toInt64) (1 : Int32) (upd (upd (upd (upd (fun _ => .null) 0 (.ref b4)) 1 (.ref b28)) 2 (.ref b55)) 0 .null) b28 h_230_3_0 n0 H230_3_0_Z H230_3_0_E_b84 H230_3_0_F_b84_objects H230_3_0_F_b84_size H230_3_0_F_b84_values H230_3_0_F_b84_handed H230_3_0_A_b89 H230_3_0_E_b28 ge230_3_0_b84 ge230_3_0_b89 ne230_3_0_b84_b89 (⟨by decide, by decide⟩) rfl) e_230_3_0 (W := 0) (by decide) (by decide) (by decide) (by decide) (g := (mkF m 243 #[.val (.int p0), .val (.long q1), .second, .val (.int p2), .val (.int p3), .val (.int p4), .val (.int (3 : Int32)), .val (.int (3 : Int32)), .val (.int (0 : Int32)), .val (.ref b3), .val (.ref b4), .val (.ref b28), .val (.ref b55), .val (.ref b84), .val (.long (g0_189 p2 p3 p4)), .second, .val (.int (1 : Int32))] [(.ref b84)])) rfl (by rw [hml]; rfl) (argsL := []) (rest := []) rfl (lenOf pd_8 rfl) rfl (by show 2 * 0 + _ ≤ _; exact Nat.le_of_eq rfl) (hb hby at_243)
      obtain ⟨rfl, Nq150, K150, Fo150, Ar150, Fs150, Fv150, Fh150⟩ := hQ150
      have N150 := Fr.app N_230_3_0 Nq150
      refine FiniW.st st150 ?_
      show FiniW p e below s _ _ _ T150 (mkF m 246 #[.val (.int p0), .val (.long q1), .second, .val (.int p2), .val (.int p3), .val (.int p4), .val (.int (3 : Int32)), .val (.int (3 : Int32)), .val (.int (0 : Int32)), .val (.ref b3), .val (.ref b4), .val (.ref b28), .val (.ref b55), .val (.ref b84), .val (.long (g0_189 p2 p3 p4)), .second, .val (.int (1 : Int32))] [(.ref b28)])
      refine FiniW.st (fun _ k => XS.aload X150.here hx rfl (hb hby at_246) rfl rfl k) ?_
      show FiniW p e below s _ _ _ T150 (mkF m 248 #[.val (.int p0), .val (.long q1), .second, .val (.int p2), .val (.int p3), .val (.int p4), .val (.int (3 : Int32)), .val (.int (3 : Int32)), .val (.int (0 : Int32)), .val (.ref b3), .val (.ref b4), .val (.ref b28), .val (.ref b55), .val (.ref b84), .val (.long (g0_189 p2 p3 p4)), .second, .val (.int (1 : Int32))] [(.ref b28), (.ref b28)])
      refine FiniW.st (fun _ k => Jvm.RoadKit.acmp (g := (mkF m 248 #[.val (.int p0), .val (.long q1), .second, .val (.int p2), .val (.int p3), .val (.int p4), .val (.int (3 : Int32)), .val (.int (3 : Int32)), .val (.int (0 : Int32)), .val (.ref b3), .val (.ref b4), .val (.ref b28), .val (.ref b55), .val (.ref b84), .val (.long (g0_189 p2 p3 p4)), .second, .val (.int (1 : Int32))] [(.ref b28), (.ref b28)])) X150 hx rfl rfl rfl (pc0 := 248) (pc' := 251) (same := true) rfl (hb hby at_248) rfl (decide_eq_true rfl) (by decide) (by decide) k) ?_
      show FiniW p e below s _ _ _ T150 (mkF m 251 #[.val (.int p0), .val (.long q1), .second, .val (.int p2), .val (.int p3), .val (.int p4), .val (.int (3 : Int32)), .val (.int (3 : Int32)), .val (.int (0 : Int32)), .val (.ref b3), .val (.ref b4), .val (.ref b28), .val (.ref b55), .val (.ref b84), .val (.long (g0_189 p2 p3 p4)), .second, .val (.int (1 : Int32))] [])
      refine FiniW.st (fun _ k => XS.iconst X150.here hx rfl (hb hby at_251) k) ?_
      show FiniW p e below s _ _ _ T150 (mkF m 252 #[.val (.int p0), .val (.long q1), .second, .val (.int p2), .val (.int p3), .val (.int p4), .val (.int (3 : Int32)), .val (.int (3 : Int32)), .val (.int (0 : Int32)), .val (.ref b3), .val (.ref b4), .val (.ref b28), .val (.ref b55), .val (.ref b84), .val (.long (g0_189 p2 p3 p4)), .second, .val (.int (1 : Int32))] [(.int (1 : Int32))])
      refine FiniW.st (fun _ k => XS.goto X150.here hx rfl (pc0 := 252) (pc' := 256) rfl (hb hby at_252) (by decide) (by decide) k) ?_
      show FiniW p e below s _ _ _ T150 (mkF m 256 #[.val (.int p0), .val (.long q1), .second, .val (.int p2), .val (.int p3), .val (.int p4), .val (.int (3 : Int32)), .val (.int (3 : Int32)), .val (.int (0 : Int32)), .val (.ref b3), .val (.ref b4), .val (.ref b28), .val (.ref b55), .val (.ref b84), .val (.long (g0_189 p2 p3 p4)), .second, .val (.int (1 : Int32))] [(.int (1 : Int32))])
      refine FiniW.st (fun _ k => XS.istore X150.here hx rfl (hb hby at_256) rfl (l' := #[.val (.int p0), .val (.long q1), .second, .val (.int p2), .val (.int p3), .val (.int p4), .val (.int (3 : Int32)), .val (.int (3 : Int32)), .val (.int (0 : Int32)), .val (.ref b3), .val (.ref b4), .val (.ref b28), .val (.ref b55), .val (.ref b84), .val (.long (g0_189 p2 p3 p4)), .second, .val (.int (1 : Int32))]) rfl k) ?_
      show FiniW p e below s _ _ _ T150 (mkF m 258 #[.val (.int p0), .val (.long q1), .second, .val (.int p2), .val (.int p3), .val (.int p4), .val (.int (3 : Int32)), .val (.int (3 : Int32)), .val (.int (0 : Int32)), .val (.ref b3), .val (.ref b4), .val (.ref b28), .val (.ref b55), .val (.ref b84), .val (.long (g0_189 p2 p3 p4)), .second, .val (.int (1 : Int32))] [])
      refine FiniW.st (fun _ k => XS.iload X150.here hx rfl (hb hby at_258) rfl k) ?_
      show FiniW p e below s _ _ _ T150 (mkF m 260 #[.val (.int p0), .val (.long q1), .second, .val (.int p2), .val (.int p3), .val (.int p4), .val (.int (3 : Int32)), .val (.int (3 : Int32)), .val (.int (0 : Int32)), .val (.ref b3), .val (.ref b4), .val (.ref b28), .val (.ref b55), .val (.ref b84), .val (.long (g0_189 p2 p3 p4)), .second, .val (.int (1 : Int32))] [(.int (3 : Int32))])
      refine FiniW.st (fun _ k => XS.iconst X150.here hx rfl (hb hby at_260) k) ?_
      show FiniW p e below s _ _ _ T150 (mkF m 261 #[.val (.int p0), .val (.long q1), .second, .val (.int p2), .val (.int p3), .val (.int p4), .val (.int (3 : Int32)), .val (.int (3 : Int32)), .val (.int (0 : Int32)), .val (.ref b3), .val (.ref b4), .val (.ref b28), .val (.ref b55), .val (.ref b84), .val (.long (g0_189 p2 p3 p4)), .second, .val (.int (1 : Int32))] [(.int (3 : Int32)), (.int (3 : Int32))])
      refine FiniW.st (fun _ k => XS.icmpNo X150.here hx rfl (hb hby at_261) rfl (XT.ii_lt_f (by decide : ¬ (3 : Int32) < (3 : Int32))) k) ?_
      show FiniW p e below s _ _ _ T150 (mkF m 264 #[.val (.int p0), .val (.long q1), .second, .val (.int p2), .val (.int p3), .val (.int p4), .val (.int (3 : Int32)), .val (.int (3 : Int32)), .val (.int (0 : Int32)), .val (.ref b3), .val (.ref b4), .val (.ref b28), .val (.ref b55), .val (.ref b84), .val (.long (g0_189 p2 p3 p4)), .second, .val (.int (1 : Int32))] [])
      refine FiniW.st (fun _ k => XS.iload X150.here hx rfl (hb hby at_264) rfl k) ?_
      show FiniW p e below s _ _ _ T150 (mkF m 266 #[.val (.int p0), .val (.long q1), .second, .val (.int p2), .val (.int p3), .val (.int p4), .val (.int (3 : Int32)), .val (.int (3 : Int32)), .val (.int (0 : Int32)), .val (.ref b3), .val (.ref b4), .val (.ref b28), .val (.ref b55), .val (.ref b84), .val (.long (g0_189 p2 p3 p4)), .second, .val (.int (1 : Int32))] [(.int (1 : Int32))])
      refine FiniW.st (fun _ k => XS.ifNo X150.here hx rfl (hb hby at_266) rfl (XT.i0_eq_f (by decide : ¬ (1 : Int32) = (0 : Int32))) k) ?_
      show FiniW p e below s _ _ _ T150 (mkF m 269 #[.val (.int p0), .val (.long q1), .second, .val (.int p2), .val (.int p3), .val (.int p4), .val (.int (3 : Int32)), .val (.int (3 : Int32)), .val (.int (0 : Int32)), .val (.ref b3), .val (.ref b4), .val (.ref b28), .val (.ref b55), .val (.ref b84), .val (.long (g0_189 p2 p3 p4)), .second, .val (.int (1 : Int32))] [])
      refine FiniW.st (fun _ k => XS.aload X150.here hx rfl (hb hby at_269) rfl rfl k) ?_
      show FiniW p e below s _ _ _ T150 (mkF m 271 #[.val (.int p0), .val (.long q1), .second, .val (.int p2), .val (.int p3), .val (.int p4), .val (.int (3 : Int32)), .val (.int (3 : Int32)), .val (.int (0 : Int32)), .val (.ref b3), .val (.ref b4), .val (.ref b28), .val (.ref b55), .val (.ref b84), .val (.long (g0_189 p2 p3 p4)), .second, .val (.int (1 : Int32))] [(.ref b84)])
      have Zs_152 : n0 ≤ T150.heap.size := (Nat.le_trans H230_3_0_Z K150.1)
      have Ex_153 : Exa Z T150.heap b84 "com/example/mapcodex/mapcodex/pbf/ObjectBatch" := (H230_3_0_E_b84.keep K150)
      have Ex_154 : Exa Z T150.heap b55 "com/example/mapcodex/mapcodex/osm/Way" := (H230_3_0_E_b55.keep K150)
      obtain ⟨v151, T151, L151, X151, hQ151, st151⟩ := callV X150 hx hZ hown (hw _ (List.mem_of_getElem? (i := 114) rfl)) (hw _ (List.mem_of_getElem? (i := 115) rfl)) (hw _ (List.mem_of_getElem? (i := 117) rfl)) (hw _ (List.mem_of_getElem? (i := 116) rfl)) (hw _ (List.mem_of_getElem? (i := 95) rfl)) (hw _ (List.mem_of_getElem? (i := 118) rfl)) (notFace_of_selects (args := #[]) (mvT hZ (hw _ (List.mem_of_getElem? (i := 117) rfl)))) Ex_153 (by decide) (rm13 l Z a0 hw [] b84 b89 (3 : Int32) ((((0 : Int64) + p2.toInt64) + p3.toInt64) + p4.toInt64) (2 : Int32) (upd (upd (upd (upd (upd (fun _ => .null) 0 (.ref b4)) 1 (.ref b28)) 2 (.ref b55)) 0 .null) 1 .null) b55 T150.heap n0 Zs_152 Ex_153 Fo150 Fs150 Fv150 Fh150 Ar150 Ex_154 ge230_3_0_b84 ge230_3_0_b89 ne230_3_0_b84_b89 (⟨by decide, by decide⟩) rfl) rfl (W := 0) (by decide) (by decide) (by decide) (by decide) (g := (mkF m 271 #[.val (.int p0), .val (.long q1), .second, .val (.int p2), .val (.int p3), .val (.int p4), .val (.int (3 : Int32)), .val (.int (3 : Int32)), .val (.int (0 : Int32)), .val (.ref b3), .val (.ref b4), .val (.ref b28), .val (.ref b55), .val (.ref b84), .val (.long (g0_189 p2 p3 p4)), .second, .val (.int (1 : Int32))] [(.ref b84)])) rfl (by rw [hml]; rfl) (argsL := []) (rest := []) rfl (lenOf pd_8 rfl) rfl (by show 2 * 0 + _ ≤ _; exact Nat.le_of_eq rfl) (hb hby at_271)
      obtain ⟨rfl, Nq151, K151, Fo151, Ar151, Fs151, Fv151, Fh151⟩ := hQ151
      have N151 := Fr.app N150 Nq151
      refine FiniW.st st151 ?_
      show FiniW p e below s _ _ _ T151 (mkF m 274 #[.val (.int p0), .val (.long q1), .second, .val (.int p2), .val (.int p3), .val (.int p4), .val (.int (3 : Int32)), .val (.int (3 : Int32)), .val (.int (0 : Int32)), .val (.ref b3), .val (.ref b4), .val (.ref b28), .val (.ref b55), .val (.ref b84), .val (.long (g0_189 p2 p3 p4)), .second, .val (.int (1 : Int32))] [(.ref b55)])
      refine FiniW.st (fun _ k => XS.aload X151.here hx rfl (hb hby at_274) rfl rfl k) ?_
      show FiniW p e below s _ _ _ T151 (mkF m 276 #[.val (.int p0), .val (.long q1), .second, .val (.int p2), .val (.int p3), .val (.int p4), .val (.int (3 : Int32)), .val (.int (3 : Int32)), .val (.int (0 : Int32)), .val (.ref b3), .val (.ref b4), .val (.ref b28), .val (.ref b55), .val (.ref b84), .val (.long (g0_189 p2 p3 p4)), .second, .val (.int (1 : Int32))] [(.ref b55), (.ref b55)])
      refine FiniW.st (fun _ k => Jvm.RoadKit.acmp (g := (mkF m 276 #[.val (.int p0), .val (.long q1), .second, .val (.int p2), .val (.int p3), .val (.int p4), .val (.int (3 : Int32)), .val (.int (3 : Int32)), .val (.int (0 : Int32)), .val (.ref b3), .val (.ref b4), .val (.ref b28), .val (.ref b55), .val (.ref b84), .val (.long (g0_189 p2 p3 p4)), .second, .val (.int (1 : Int32))] [(.ref b55), (.ref b55)])) X151 hx rfl rfl rfl (pc0 := 276) (pc' := 279) (same := true) rfl (hb hby at_276) rfl (decide_eq_true rfl) (by decide) (by decide) k) ?_
      show FiniW p e below s _ _ _ T151 (mkF m 279 #[.val (.int p0), .val (.long q1), .second, .val (.int p2), .val (.int p3), .val (.int p4), .val (.int (3 : Int32)), .val (.int (3 : Int32)), .val (.int (0 : Int32)), .val (.ref b3), .val (.ref b4), .val (.ref b28), .val (.ref b55), .val (.ref b84), .val (.long (g0_189 p2 p3 p4)), .second, .val (.int (1 : Int32))] [])
      refine FiniW.st (fun _ k => XS.iconst X151.here hx rfl (hb hby at_279) k) ?_
      show FiniW p e below s _ _ _ T151 (mkF m 280 #[.val (.int p0), .val (.long q1), .second, .val (.int p2), .val (.int p3), .val (.int p4), .val (.int (3 : Int32)), .val (.int (3 : Int32)), .val (.int (0 : Int32)), .val (.ref b3), .val (.ref b4), .val (.ref b28), .val (.ref b55), .val (.ref b84), .val (.long (g0_189 p2 p3 p4)), .second, .val (.int (1 : Int32))] [(.int (1 : Int32))])
      refine FiniW.st (fun _ k => XS.goto X151.here hx rfl (pc0 := 280) (pc' := 284) rfl (hb hby at_280) (by decide) (by decide) k) ?_
      show FiniW p e below s _ _ _ T151 (mkF m 284 #[.val (.int p0), .val (.long q1), .second, .val (.int p2), .val (.int p3), .val (.int p4), .val (.int (3 : Int32)), .val (.int (3 : Int32)), .val (.int (0 : Int32)), .val (.ref b3), .val (.ref b4), .val (.ref b28), .val (.ref b55), .val (.ref b84), .val (.long (g0_189 p2 p3 p4)), .second, .val (.int (1 : Int32))] [(.int (1 : Int32))])
      refine FiniW.st (fun _ k => XS.istore X151.here hx rfl (hb hby at_284) rfl (l' := #[.val (.int p0), .val (.long q1), .second, .val (.int p2), .val (.int p3), .val (.int p4), .val (.int (3 : Int32)), .val (.int (3 : Int32)), .val (.int (0 : Int32)), .val (.ref b3), .val (.ref b4), .val (.ref b28), .val (.ref b55), .val (.ref b84), .val (.long (g0_189 p2 p3 p4)), .second, .val (.int (1 : Int32))]) rfl k) ?_
      show FiniW p e below s _ _ _ T151 (mkF m 286 #[.val (.int p0), .val (.long q1), .second, .val (.int p2), .val (.int p3), .val (.int p4), .val (.int (3 : Int32)), .val (.int (3 : Int32)), .val (.int (0 : Int32)), .val (.ref b3), .val (.ref b4), .val (.ref b28), .val (.ref b55), .val (.ref b84), .val (.long (g0_189 p2 p3 p4)), .second, .val (.int (1 : Int32))] [])
      refine FiniW.st (fun _ k => XS.iload X151.here hx rfl (hb hby at_286) rfl k) ?_
      show FiniW p e below s _ _ _ T151 (mkF m 288 #[.val (.int p0), .val (.long q1), .second, .val (.int p2), .val (.int p3), .val (.int p4), .val (.int (3 : Int32)), .val (.int (3 : Int32)), .val (.int (0 : Int32)), .val (.ref b3), .val (.ref b4), .val (.ref b28), .val (.ref b55), .val (.ref b84), .val (.long (g0_189 p2 p3 p4)), .second, .val (.int (1 : Int32))] [(.int (1 : Int32))])
      refine FiniW.st (fun _ k => XS.ifNo X151.here hx rfl (hb hby at_288) rfl (XT.i0_eq_f (by decide : ¬ (1 : Int32) = (0 : Int32))) k) ?_
      show FiniW p e below s _ _ _ T151 (mkF m 291 #[.val (.int p0), .val (.long q1), .second, .val (.int p2), .val (.int p3), .val (.int p4), .val (.int (3 : Int32)), .val (.int (3 : Int32)), .val (.int (0 : Int32)), .val (.ref b3), .val (.ref b4), .val (.ref b28), .val (.ref b55), .val (.ref b84), .val (.long (g0_189 p2 p3 p4)), .second, .val (.int (1 : Int32))] [])
      refine FiniW.st (fun _ k => XS.aload X151.here hx rfl (hb hby at_291) rfl rfl k) ?_
      show FiniW p e below s _ _ _ T151 (mkF m 293 #[.val (.int p0), .val (.long q1), .second, .val (.int p2), .val (.int p3), .val (.int p4), .val (.int (3 : Int32)), .val (.int (3 : Int32)), .val (.int (0 : Int32)), .val (.ref b3), .val (.ref b4), .val (.ref b28), .val (.ref b55), .val (.ref b84), .val (.long (g0_189 p2 p3 p4)), .second, .val (.int (1 : Int32))] [(.ref b84)])
      have Ex_156 : Exa Z T151.heap b84 "com/example/mapcodex/mapcodex/pbf/ObjectBatch" := (Ex_153.keep K151)
      obtain ⟨T155, X155, e155, st155⟩ := pureV X151 hx hZ hown (hw _ (List.mem_of_getElem? (i := 123) rfl)) (hw _ (List.mem_of_getElem? (i := 124) rfl)) (hw _ (List.mem_of_getElem? (i := 126) rfl)) (hw _ (List.mem_of_getElem? (i := 125) rfl)) (hw _ (List.mem_of_getElem? (i := 95) rfl)) (hw _ (List.mem_of_getElem? (i := 127) rfl)) (notFace_of_selects (args := #[]) (mvT hZ (hw _ (List.mem_of_getElem? (i := 126) rfl)))) Ex_156 (by decide) (rm14 l Z a0 hw [] b84 (3 : Int32) (3 : Int32) T151.heap Fs151 Fh151) rfl (W := 0) (by decide) (by decide) (by decide) (by decide) (g := (mkF m 293 #[.val (.int p0), .val (.long q1), .second, .val (.int p2), .val (.int p3), .val (.int p4), .val (.int (3 : Int32)), .val (.int (3 : Int32)), .val (.int (0 : Int32)), .val (.ref b3), .val (.ref b4), .val (.ref b28), .val (.ref b55), .val (.ref b84), .val (.long (g0_189 p2 p3 p4)), .second, .val (.int (1 : Int32))] [(.ref b84)])) rfl (by rw [hml]; rfl) (argsL := []) (rest := []) rfl (lenOf pd_9 rfl) rfl (by show 2 * 0 + _ ≤ _; exact Nat.le_of_eq rfl) (hb hby at_293)
      refine FiniW.st st155 ?_
      show FiniW p e below s _ _ _ T155 (mkF m 296 #[.val (.int p0), .val (.long q1), .second, .val (.int p2), .val (.int p3), .val (.int p4), .val (.int (3 : Int32)), .val (.int (3 : Int32)), .val (.int (0 : Int32)), .val (.ref b3), .val (.ref b4), .val (.ref b28), .val (.ref b55), .val (.ref b84), .val (.long (g0_189 p2 p3 p4)), .second, .val (.int (1 : Int32))] [(.int (0 : Int32))])
      refine FiniW.st (fun _ k => XS.iload X155.here hx rfl (hb hby at_296) rfl k) ?_
      show FiniW p e below s _ _ _ T155 (mkF m 298 #[.val (.int p0), .val (.long q1), .second, .val (.int p2), .val (.int p3), .val (.int p4), .val (.int (3 : Int32)), .val (.int (3 : Int32)), .val (.int (0 : Int32)), .val (.ref b3), .val (.ref b4), .val (.ref b28), .val (.ref b55), .val (.ref b84), .val (.long (g0_189 p2 p3 p4)), .second, .val (.int (1 : Int32))] [(.int (3 : Int32)), (.int (0 : Int32))])
      refine FiniW.st (fun _ k => XS.iload X155.here hx rfl (hb hby at_298) rfl k) ?_
      show FiniW p e below s _ _ _ T155 (mkF m 300 #[.val (.int p0), .val (.long q1), .second, .val (.int p2), .val (.int p3), .val (.int p4), .val (.int (3 : Int32)), .val (.int (3 : Int32)), .val (.int (0 : Int32)), .val (.ref b3), .val (.ref b4), .val (.ref b28), .val (.ref b55), .val (.ref b84), .val (.long (g0_189 p2 p3 p4)), .second, .val (.int (1 : Int32))] [(.int (3 : Int32)), (.int (3 : Int32)), (.int (0 : Int32))])
      refine FiniW.st (fun _ k => XS.icmpYes X155.here hx rfl (pc0 := 300) (pc' := 307) rfl (hb hby at_300) rfl (XT.ii_ge_t (by decide : ¬ (3 : Int32) < (3 : Int32))) (by decide) (by decide) k) ?_
      show FiniW p e below s _ _ _ T155 (mkF m 307 #[.val (.int p0), .val (.long q1), .second, .val (.int p2), .val (.int p3), .val (.int p4), .val (.int (3 : Int32)), .val (.int (3 : Int32)), .val (.int (0 : Int32)), .val (.ref b3), .val (.ref b4), .val (.ref b28), .val (.ref b55), .val (.ref b84), .val (.long (g0_189 p2 p3 p4)), .second, .val (.int (1 : Int32))] [(.int (0 : Int32))])
      refine FiniW.st (fun _ k => XS.iconst X155.here hx rfl (hb hby at_307) k) ?_
      show FiniW p e below s _ _ _ T155 (mkF m 308 #[.val (.int p0), .val (.long q1), .second, .val (.int p2), .val (.int p3), .val (.int p4), .val (.int (3 : Int32)), .val (.int (3 : Int32)), .val (.int (0 : Int32)), .val (.ref b3), .val (.ref b4), .val (.ref b28), .val (.ref b55), .val (.ref b84), .val (.long (g0_189 p2 p3 p4)), .second, .val (.int (1 : Int32))] [(.int (0 : Int32)), (.int (0 : Int32))])
      refine FiniW.st (fun _ k => XS.icmpNo X155.here hx rfl (hb hby at_308) rfl (XT.ii_ne_f (by decide : (0 : Int32) = (0 : Int32))) k) ?_
      show FiniW p e below s _ _ _ T155 (mkF m 311 #[.val (.int p0), .val (.long q1), .second, .val (.int p2), .val (.int p3), .val (.int p4), .val (.int (3 : Int32)), .val (.int (3 : Int32)), .val (.int (0 : Int32)), .val (.ref b3), .val (.ref b4), .val (.ref b28), .val (.ref b55), .val (.ref b84), .val (.long (g0_189 p2 p3 p4)), .second, .val (.int (1 : Int32))] [])
      refine FiniW.st (fun _ k => XS.iconst X155.here hx rfl (hb hby at_311) k) ?_
      show FiniW p e below s _ _ _ T155 (mkF m 312 #[.val (.int p0), .val (.long q1), .second, .val (.int p2), .val (.int p3), .val (.int p4), .val (.int (3 : Int32)), .val (.int (3 : Int32)), .val (.int (0 : Int32)), .val (.ref b3), .val (.ref b4), .val (.ref b28), .val (.ref b55), .val (.ref b84), .val (.long (g0_189 p2 p3 p4)), .second, .val (.int (1 : Int32))] [(.int (1 : Int32))])
      refine FiniW.st (fun _ k => XS.goto X155.here hx rfl (pc0 := 312) (pc' := 316) rfl (hb hby at_312) (by decide) (by decide) k) ?_
      show FiniW p e below s _ _ _ T155 (mkF m 316 #[.val (.int p0), .val (.long q1), .second, .val (.int p2), .val (.int p3), .val (.int p4), .val (.int (3 : Int32)), .val (.int (3 : Int32)), .val (.int (0 : Int32)), .val (.ref b3), .val (.ref b4), .val (.ref b28), .val (.ref b55), .val (.ref b84), .val (.long (g0_189 p2 p3 p4)), .second, .val (.int (1 : Int32))] [(.int (1 : Int32))])
      refine FiniW.st (fun _ k => XS.istore X155.here hx rfl (hb hby at_316) rfl (l' := #[.val (.int p0), .val (.long q1), .second, .val (.int p2), .val (.int p3), .val (.int p4), .val (.int (3 : Int32)), .val (.int (3 : Int32)), .val (.int (0 : Int32)), .val (.ref b3), .val (.ref b4), .val (.ref b28), .val (.ref b55), .val (.ref b84), .val (.long (g0_189 p2 p3 p4)), .second, .val (.int (1 : Int32))]) rfl k) ?_
      show FiniW p e below s _ _ _ T155 (mkF m 318 #[.val (.int p0), .val (.long q1), .second, .val (.int p2), .val (.int p3), .val (.int p4), .val (.int (3 : Int32)), .val (.int (3 : Int32)), .val (.int (0 : Int32)), .val (.ref b3), .val (.ref b4), .val (.ref b28), .val (.ref b55), .val (.ref b84), .val (.long (g0_189 p2 p3 p4)), .second, .val (.int (1 : Int32))] [])
      refine FiniW.st (fun _ k => XS.iload X155.here hx rfl (hb hby at_318) rfl k) ?_
      show FiniW p e below s _ _ _ T155 (mkF m 320 #[.val (.int p0), .val (.long q1), .second, .val (.int p2), .val (.int p3), .val (.int p4), .val (.int (3 : Int32)), .val (.int (3 : Int32)), .val (.int (0 : Int32)), .val (.ref b3), .val (.ref b4), .val (.ref b28), .val (.ref b55), .val (.ref b84), .val (.long (g0_189 p2 p3 p4)), .second, .val (.int (1 : Int32))] [(.int (1 : Int32))])
      refine FiniW.st (fun _ k => XS.ifNo X155.here hx rfl (hb hby at_320) rfl (XT.i0_eq_f (by decide : ¬ (1 : Int32) = (0 : Int32))) k) ?_
      show FiniW p e below s _ _ _ T155 (mkF m 323 #[.val (.int p0), .val (.long q1), .second, .val (.int p2), .val (.int p3), .val (.int p4), .val (.int (3 : Int32)), .val (.int (3 : Int32)), .val (.int (0 : Int32)), .val (.ref b3), .val (.ref b4), .val (.ref b28), .val (.ref b55), .val (.ref b84), .val (.long (g0_189 p2 p3 p4)), .second, .val (.int (1 : Int32))] [])
      refine FiniW.st (fun _ k => XS.aload X155.here hx rfl (hb hby at_323) rfl rfl k) ?_
      show FiniW p e below s _ _ _ T155 (mkF m 325 #[.val (.int p0), .val (.long q1), .second, .val (.int p2), .val (.int p3), .val (.int p4), .val (.int (3 : Int32)), .val (.int (3 : Int32)), .val (.int (0 : Int32)), .val (.ref b3), .val (.ref b4), .val (.ref b28), .val (.ref b55), .val (.ref b84), .val (.long (g0_189 p2 p3 p4)), .second, .val (.int (1 : Int32))] [(.ref b84)])
      obtain ⟨T157, X157, e157, st157⟩ := pureV X155 hx hZ hown (hw _ (List.mem_of_getElem? (i := 128) rfl)) (hw _ (List.mem_of_getElem? (i := 129) rfl)) (hw _ (List.mem_of_getElem? (i := 131) rfl)) (hw _ (List.mem_of_getElem? (i := 130) rfl)) (hw _ (List.mem_of_getElem? (i := 95) rfl)) (hw _ (List.mem_of_getElem? (i := 132) rfl)) (notFace_of_selects (args := #[]) (mvT hZ (hw _ (List.mem_of_getElem? (i := 131) rfl)))) Ex_156 (by decide) (rm15 l Z a0 hw [] b84 ((((0 : Int64) + p2.toInt64) + p3.toInt64) + p4.toInt64) T151.heap Fv151) e155 (W := 0) (by decide) (by decide) (by decide) (by decide) (g := (mkF m 325 #[.val (.int p0), .val (.long q1), .second, .val (.int p2), .val (.int p3), .val (.int p4), .val (.int (3 : Int32)), .val (.int (3 : Int32)), .val (.int (0 : Int32)), .val (.ref b3), .val (.ref b4), .val (.ref b28), .val (.ref b55), .val (.ref b84), .val (.long (g0_189 p2 p3 p4)), .second, .val (.int (1 : Int32))] [(.ref b84)])) rfl (by rw [hml]; rfl) (argsL := []) (rest := []) rfl (lenOf pd_10 rfl) rfl (by show 2 * 0 + _ ≤ _; exact Nat.le_of_eq rfl) (hb hby at_325)
      refine FiniW.st st157 ?_
      show FiniW p e below s _ _ _ T157 (mkF m 328 #[.val (.int p0), .val (.long q1), .second, .val (.int p2), .val (.int p3), .val (.int p4), .val (.int (3 : Int32)), .val (.int (3 : Int32)), .val (.int (0 : Int32)), .val (.ref b3), .val (.ref b4), .val (.ref b28), .val (.ref b55), .val (.ref b84), .val (.long (g0_189 p2 p3 p4)), .second, .val (.int (1 : Int32))] [(.long ((((0 : Int64) + p2.toInt64) + p3.toInt64) + p4.toInt64))])
      refine FiniW.st (fun _ k => XS.lload X157.here hx rfl (hb hby at_328) rfl k) ?_
      show FiniW p e below s _ _ _ T157 (mkF m 330 #[.val (.int p0), .val (.long q1), .second, .val (.int p2), .val (.int p3), .val (.int p4), .val (.int (3 : Int32)), .val (.int (3 : Int32)), .val (.int (0 : Int32)), .val (.ref b3), .val (.ref b4), .val (.ref b28), .val (.ref b55), .val (.ref b84), .val (.long (g0_189 p2 p3 p4)), .second, .val (.int (1 : Int32))] [(.long (g0_189 p2 p3 p4)), (.long ((((0 : Int64) + p2.toInt64) + p3.toInt64) + p4.toInt64))])
      refine FiniW.st (fun _ k => XT.lcmp X157.here hx rfl (hb hby at_330) rfl k) ?_
      show FiniW p e below s _ _ _ T157 (mkF m 331 #[.val (.int p0), .val (.long q1), .second, .val (.int p2), .val (.int p3), .val (.int p4), .val (.int (3 : Int32)), .val (.int (3 : Int32)), .val (.int (0 : Int32)), .val (.ref b3), .val (.ref b4), .val (.ref b28), .val (.ref b55), .val (.ref b84), .val (.long (g0_189 p2 p3 p4)), .second, .val (.int (1 : Int32))] [(.int (XT.cmpL ((((0 : Int64) + p2.toInt64) + p3.toInt64) + p4.toInt64) (g0_189 p2 p3 p4)))])
      refine FiniW.st (fun _ k => XS.ifNo X157.here hx rfl (hb hby at_331) rfl (XT.ll_ne_f (show ((((0 : Int64) + p2.toInt64) + p3.toInt64) + p4.toInt64) = (g0_189 p2 p3 p4) by first | (rw [Int64.zero_add]; done) | (rw [Int64.zero_add]; rfl))) k) ?_
      show FiniW p e below s _ _ _ T157 (mkF m 334 #[.val (.int p0), .val (.long q1), .second, .val (.int p2), .val (.int p3), .val (.int p4), .val (.int (3 : Int32)), .val (.int (3 : Int32)), .val (.int (0 : Int32)), .val (.ref b3), .val (.ref b4), .val (.ref b28), .val (.ref b55), .val (.ref b84), .val (.long (g0_189 p2 p3 p4)), .second, .val (.int (1 : Int32))] [])
      refine FiniW.st (fun _ k => XS.iconst X157.here hx rfl (hb hby at_334) k) ?_
      show FiniW p e below s _ _ _ T157 (mkF m 335 #[.val (.int p0), .val (.long q1), .second, .val (.int p2), .val (.int p3), .val (.int p4), .val (.int (3 : Int32)), .val (.int (3 : Int32)), .val (.int (0 : Int32)), .val (.ref b3), .val (.ref b4), .val (.ref b28), .val (.ref b55), .val (.ref b84), .val (.long (g0_189 p2 p3 p4)), .second, .val (.int (1 : Int32))] [(.int (1 : Int32))])
      refine FiniW.st (fun _ k => XS.goto X157.here hx rfl (pc0 := 335) (pc' := 339) rfl (hb hby at_335) (by decide) (by decide) k) ?_
      show FiniW p e below s _ _ _ T157 (mkF m 339 #[.val (.int p0), .val (.long q1), .second, .val (.int p2), .val (.int p3), .val (.int p4), .val (.int (3 : Int32)), .val (.int (3 : Int32)), .val (.int (0 : Int32)), .val (.ref b3), .val (.ref b4), .val (.ref b28), .val (.ref b55), .val (.ref b84), .val (.long (g0_189 p2 p3 p4)), .second, .val (.int (1 : Int32))] [(.int (1 : Int32))])
      refine FiniW.st (fun _ k => XS.istore X157.here hx rfl (hb hby at_339) rfl (l' := #[.val (.int p0), .val (.long q1), .second, .val (.int p2), .val (.int p3), .val (.int p4), .val (.int (3 : Int32)), .val (.int (3 : Int32)), .val (.int (0 : Int32)), .val (.ref b3), .val (.ref b4), .val (.ref b28), .val (.ref b55), .val (.ref b84), .val (.long (g0_189 p2 p3 p4)), .second, .val (.int (1 : Int32))]) rfl k) ?_
      show FiniW p e below s _ _ _ T157 (mkF m 341 #[.val (.int p0), .val (.long q1), .second, .val (.int p2), .val (.int p3), .val (.int p4), .val (.int (3 : Int32)), .val (.int (3 : Int32)), .val (.int (0 : Int32)), .val (.ref b3), .val (.ref b4), .val (.ref b28), .val (.ref b55), .val (.ref b84), .val (.long (g0_189 p2 p3 p4)), .second, .val (.int (1 : Int32))] [])
      refine FiniW.st (fun _ k => XS.iload X157.here hx rfl (hb hby at_341) rfl k) ?_
      show FiniW p e below s _ _ _ T157 (mkF m 343 #[.val (.int p0), .val (.long q1), .second, .val (.int p2), .val (.int p3), .val (.int p4), .val (.int (3 : Int32)), .val (.int (3 : Int32)), .val (.int (0 : Int32)), .val (.ref b3), .val (.ref b4), .val (.ref b28), .val (.ref b55), .val (.ref b84), .val (.long (g0_189 p2 p3 p4)), .second, .val (.int (1 : Int32))] [(.int (1 : Int32))])
      have Zs_158 : kk_230_3_0 ≤ T151.heap.size := (Nat.le_trans (Nat.le_trans H230_3_0_G K150.1) K151.1)
      exact FiniW.retN X157 hx hlk (t := .boolean) Bd.returns (by simp) (hb hby at_343) nb1 hS_230_3_0 (by rw [e157]; exact Zs_158) (by decide) (by decide) ⟨rfl, N151⟩
  have B230_3_1 : ∀ (T_230_3_1 : State) (h_230_3_1 : Heap) (locs : List Loc) (vm_230_3_1 : Vm) (kk_230_3_1 : Nat) (X_230_3_1 : Stand p l e room_1 (s.setVm vm_230_3_1) m #[(.int p0), (.long q1), (.int p2), (.int p3), (.int p4)] below meth c T_230_3_1 locs 18 4229) (e_230_3_1 : T_230_3_1.heap = h_230_3_1) (hZ_230_3_1 : Z.Warmed39 (s.setVm vm_230_3_1).vm) (hown_230_3_1 : (s.setVm vm_230_3_1).vm.findClass "com/example/mapcodex/mapcodex/pbf/ObjectBatchNextPinLaw" = some m.cls) (hS_230_3_1 : s.Since vm_230_3_1 kk_230_3_1) (b28 : Addr) (b3 : Addr) (b4 : Addr) (b55 : Addr) (b84 : Addr) (b89 : Addr) (N_230_3_1 : Fr n0 locs) (H230_3_1_Z : n0 ≤ h_230_3_1.size) (H230_3_1_G : kk_230_3_1 ≤ h_230_3_1.size) (H230_3_1_E_b4 : Exa Z h_230_3_1 b4 "com/example/mapcodex/mapcodex/osm/Way") (H230_3_1_E_b28 : Exa Z h_230_3_1 b28 "com/example/mapcodex/mapcodex/osm/Way") (H230_3_1_E_b55 : Exa Z h_230_3_1 b55 "com/example/mapcodex/mapcodex/osm/Way") (H230_3_1_E_b84 : Exa Z h_230_3_1 b84 "com/example/mapcodex/mapcodex/pbf/ObjectBatch") (H230_3_1_F_b84_objects : Fld Z h_230_3_1 b84 "com/example/mapcodex/mapcodex/pbf/ObjectBatch" "objects" "[Ljava/lang/Object;" (.ref b89)) (H230_3_1_F_b84_size : Fld Z h_230_3_1 b84 "com/example/mapcodex/mapcodex/pbf/ObjectBatch" "size" "I" (.int (3 : Int32))) (H230_3_1_F_b84_values : Fld Z h_230_3_1 b84 "com/example/mapcodex/mapcodex/pbf/ObjectBatch" "values" "J" (.long ((((0 : Int64) + p2.toInt64) + p3.toInt64) + p4.toInt64))) (H230_3_1_F_b84_handed : Fld Z h_230_3_1 b84 "com/example/mapcodex/mapcodex/pbf/ObjectBatch" "handed" "I" (.int (1 : Int32))) (H230_3_1_A_b89 : AryR Z h_230_3_1 b89 "java/lang/Object" (4096 : Int32) (upd (upd (upd (upd (fun _ => .null) 0 (.ref b4)) 1 (.ref b28)) 0 .null) 2 (.ref b55))) (ne230_3_1_b4_b28 : b4 ≠ b28) (ne230_3_1_b4_b55 : b4 ≠ b55) (ne230_3_1_b28_b55 : b28 ≠ b55) (ne230_3_1_b4_b84 : b4 ≠ b84) (ne230_3_1_b28_b84 : b28 ≠ b84) (ne230_3_1_b55_b84 : b55 ≠ b84) (ne230_3_1_b4_b89 : b4 ≠ b89) (ne230_3_1_b28_b89 : b28 ≠ b89) (ne230_3_1_b55_b89 : b55 ≠ b89) (ne230_3_1_b84_b89 : b84 ≠ b89) (ge230_3_1_b28 : n0 ≤ b28) (ge230_3_1_b4 : n0 ≤ b4) (ge230_3_1_b55 : n0 ≤ b55) (ge230_3_1_b84 : n0 ≤ b84) (ge230_3_1_b89 : n0 ≤ b89) (cy230_3_1_h6 : g0_7 p0 = (3 : Int32)), FiniW p e below s (fun v h' L => v = some (.int 1) ∧ Fr n0 L) (Room.cells room_1) (Room.slots room_1) T_230_3_1 (mkF m 230 #[.val (.int p0), .val (.long q1), .second, .val (.int p2), .val (.int p3), .val (.int p4), .val (.int (3 : Int32)), .val (.int (g0_19 p0)), .val (.int (1 : Int32)), .val (.ref b3), .val (.ref b4), .val (.ref b28), .val (.ref b55), .val (.ref b84), .val (.long (g0_189 p2 p3 p4)), .second, .val (.int (1 : Int32))] []) := by
    intro T_230_3_1 h_230_3_1 locs vm_230_3_1 kk_230_3_1 X_230_3_1 e_230_3_1 hZ_230_3_1 hown_230_3_1 hS_230_3_1 b28 b3 b4 b55 b84 b89 N_230_3_1 H230_3_1_Z H230_3_1_G H230_3_1_E_b4 H230_3_1_E_b28 H230_3_1_E_b55 H230_3_1_E_b84 H230_3_1_F_b84_objects H230_3_1_F_b84_size H230_3_1_F_b84_values H230_3_1_F_b84_handed H230_3_1_A_b89 ne230_3_1_b4_b28 ne230_3_1_b4_b55 ne230_3_1_b28_b55 ne230_3_1_b4_b84 ne230_3_1_b28_b84 ne230_3_1_b55_b84 ne230_3_1_b4_b89 ne230_3_1_b28_b89 ne230_3_1_b55_b89 ne230_3_1_b84_b89 ge230_3_1_b28 ge230_3_1_b4 ge230_3_1_b55 ge230_3_1_b84 ge230_3_1_b89 cy230_3_1_h6
    have hZ := hZ_230_3_1
    have hown := hown_230_3_1
    refine FiniW.st (fun _ k => XS.iload X_230_3_1.here hx rfl (hb hby at_230) rfl k) ?_
    show FiniW p e below s _ _ _ T_230_3_1 (mkF m 232 #[.val (.int p0), .val (.long q1), .second, .val (.int p2), .val (.int p3), .val (.int p4), .val (.int (3 : Int32)), .val (.int (g0_19 p0)), .val (.int (1 : Int32)), .val (.ref b3), .val (.ref b4), .val (.ref b28), .val (.ref b55), .val (.ref b84), .val (.long (g0_189 p2 p3 p4)), .second, .val (.int (1 : Int32))] [(.int (g0_19 p0))])
    rcases own_mk3 p0 cy230_3_1_h6 with h7 | h7 | h7
    · skip
      refine FiniW.cast (g' := (mkF m 232 #[.val (.int p0), .val (.long q1), .second, .val (.int p2), .val (.int p3), .val (.int p4), .val (.int (3 : Int32)), .val (.int (1 : Int32)), .val (.int (1 : Int32)), .val (.ref b3), .val (.ref b4), .val (.ref b28), .val (.ref b55), .val (.ref b84), .val (.long (g0_189 p2 p3 p4)), .second, .val (.int (1 : Int32))] [(.int (1 : Int32))])) (by rw [h7]) ?_
      show FiniW p e below s _ _ _ T_230_3_1 (mkF m 232 #[.val (.int p0), .val (.long q1), .second, .val (.int p2), .val (.int p3), .val (.int p4), .val (.int (3 : Int32)), .val (.int (1 : Int32)), .val (.int (1 : Int32)), .val (.ref b3), .val (.ref b4), .val (.ref b28), .val (.ref b55), .val (.ref b84), .val (.long (g0_189 p2 p3 p4)), .second, .val (.int (1 : Int32))] [(.int (1 : Int32))])
      refine FiniW.st (fun _ k => XS.iconst X_230_3_1.here hx rfl (hb hby at_232) k) ?_
      show FiniW p e below s _ _ _ T_230_3_1 (mkF m 233 #[.val (.int p0), .val (.long q1), .second, .val (.int p2), .val (.int p3), .val (.int p4), .val (.int (3 : Int32)), .val (.int (1 : Int32)), .val (.int (1 : Int32)), .val (.ref b3), .val (.ref b4), .val (.ref b28), .val (.ref b55), .val (.ref b84), .val (.long (g0_189 p2 p3 p4)), .second, .val (.int (1 : Int32))] [(.int (2 : Int32)), (.int (1 : Int32))])
      refine FiniW.st (fun _ k => XS.icmpYes X_230_3_1.here hx rfl (pc0 := 233) (pc' := 258) rfl (hb hby at_233) rfl (XT.ii_lt_t (by decide : (1 : Int32) < (2 : Int32))) (by decide) (by decide) k) ?_
      show FiniW p e below s _ _ _ T_230_3_1 (mkF m 258 #[.val (.int p0), .val (.long q1), .second, .val (.int p2), .val (.int p3), .val (.int p4), .val (.int (3 : Int32)), .val (.int (1 : Int32)), .val (.int (1 : Int32)), .val (.ref b3), .val (.ref b4), .val (.ref b28), .val (.ref b55), .val (.ref b84), .val (.long (g0_189 p2 p3 p4)), .second, .val (.int (1 : Int32))] [])
      refine FiniW.st (fun _ k => XS.iload X_230_3_1.here hx rfl (hb hby at_258) rfl k) ?_
      show FiniW p e below s _ _ _ T_230_3_1 (mkF m 260 #[.val (.int p0), .val (.long q1), .second, .val (.int p2), .val (.int p3), .val (.int p4), .val (.int (3 : Int32)), .val (.int (1 : Int32)), .val (.int (1 : Int32)), .val (.ref b3), .val (.ref b4), .val (.ref b28), .val (.ref b55), .val (.ref b84), .val (.long (g0_189 p2 p3 p4)), .second, .val (.int (1 : Int32))] [(.int (1 : Int32))])
      refine FiniW.st (fun _ k => XS.iconst X_230_3_1.here hx rfl (hb hby at_260) k) ?_
      show FiniW p e below s _ _ _ T_230_3_1 (mkF m 261 #[.val (.int p0), .val (.long q1), .second, .val (.int p2), .val (.int p3), .val (.int p4), .val (.int (3 : Int32)), .val (.int (1 : Int32)), .val (.int (1 : Int32)), .val (.ref b3), .val (.ref b4), .val (.ref b28), .val (.ref b55), .val (.ref b84), .val (.long (g0_189 p2 p3 p4)), .second, .val (.int (1 : Int32))] [(.int (3 : Int32)), (.int (1 : Int32))])
      refine FiniW.st (fun _ k => XS.icmpYes X_230_3_1.here hx rfl (pc0 := 261) (pc' := 286) rfl (hb hby at_261) rfl (XT.ii_lt_t (by decide : (1 : Int32) < (3 : Int32))) (by decide) (by decide) k) ?_
      show FiniW p e below s _ _ _ T_230_3_1 (mkF m 286 #[.val (.int p0), .val (.long q1), .second, .val (.int p2), .val (.int p3), .val (.int p4), .val (.int (3 : Int32)), .val (.int (1 : Int32)), .val (.int (1 : Int32)), .val (.ref b3), .val (.ref b4), .val (.ref b28), .val (.ref b55), .val (.ref b84), .val (.long (g0_189 p2 p3 p4)), .second, .val (.int (1 : Int32))] [])
      refine FiniW.st (fun _ k => XS.iload X_230_3_1.here hx rfl (hb hby at_286) rfl k) ?_
      show FiniW p e below s _ _ _ T_230_3_1 (mkF m 288 #[.val (.int p0), .val (.long q1), .second, .val (.int p2), .val (.int p3), .val (.int p4), .val (.int (3 : Int32)), .val (.int (1 : Int32)), .val (.int (1 : Int32)), .val (.ref b3), .val (.ref b4), .val (.ref b28), .val (.ref b55), .val (.ref b84), .val (.long (g0_189 p2 p3 p4)), .second, .val (.int (1 : Int32))] [(.int (1 : Int32))])
      refine FiniW.st (fun _ k => XS.ifNo X_230_3_1.here hx rfl (hb hby at_288) rfl (XT.i0_eq_f (by decide : ¬ (1 : Int32) = (0 : Int32))) k) ?_
      show FiniW p e below s _ _ _ T_230_3_1 (mkF m 291 #[.val (.int p0), .val (.long q1), .second, .val (.int p2), .val (.int p3), .val (.int p4), .val (.int (3 : Int32)), .val (.int (1 : Int32)), .val (.int (1 : Int32)), .val (.ref b3), .val (.ref b4), .val (.ref b28), .val (.ref b55), .val (.ref b84), .val (.long (g0_189 p2 p3 p4)), .second, .val (.int (1 : Int32))] [])
      refine FiniW.st (fun _ k => XS.aload X_230_3_1.here hx rfl (hb hby at_291) rfl rfl k) ?_
      show FiniW p e below s _ _ _ T_230_3_1 (mkF m 293 #[.val (.int p0), .val (.long q1), .second, .val (.int p2), .val (.int p3), .val (.int p4), .val (.int (3 : Int32)), .val (.int (1 : Int32)), .val (.int (1 : Int32)), .val (.ref b3), .val (.ref b4), .val (.ref b28), .val (.ref b55), .val (.ref b84), .val (.long (g0_189 p2 p3 p4)), .second, .val (.int (1 : Int32))] [(.ref b84)])
      obtain ⟨T159, X159, e159, st159⟩ := pureV X_230_3_1 hx hZ hown (hw _ (List.mem_of_getElem? (i := 123) rfl)) (hw _ (List.mem_of_getElem? (i := 124) rfl)) (hw _ (List.mem_of_getElem? (i := 126) rfl)) (hw _ (List.mem_of_getElem? (i := 125) rfl)) (hw _ (List.mem_of_getElem? (i := 95) rfl)) (hw _ (List.mem_of_getElem? (i := 127) rfl)) (notFace_of_selects (args := #[]) (mvT hZ (hw _ (List.mem_of_getElem? (i := 126) rfl)))) H230_3_1_E_b84 (by decide) (rm14 l Z a0 hw [] b84 (3 : Int32) (1 : Int32) h_230_3_1 H230_3_1_F_b84_size H230_3_1_F_b84_handed) e_230_3_1 (W := 0) (by decide) (by decide) (by decide) (by decide) (g := (mkF m 293 #[.val (.int p0), .val (.long q1), .second, .val (.int p2), .val (.int p3), .val (.int p4), .val (.int (3 : Int32)), .val (.int (1 : Int32)), .val (.int (1 : Int32)), .val (.ref b3), .val (.ref b4), .val (.ref b28), .val (.ref b55), .val (.ref b84), .val (.long (g0_189 p2 p3 p4)), .second, .val (.int (1 : Int32))] [(.ref b84)])) rfl (by rw [hml]; rfl) (argsL := []) (rest := []) rfl (lenOf pd_9 rfl) rfl (by show 2 * 0 + _ ≤ _; exact Nat.le_of_eq rfl) (hb hby at_293)
      refine FiniW.st st159 ?_
      show FiniW p e below s _ _ _ T159 (mkF m 296 #[.val (.int p0), .val (.long q1), .second, .val (.int p2), .val (.int p3), .val (.int p4), .val (.int (3 : Int32)), .val (.int (1 : Int32)), .val (.int (1 : Int32)), .val (.ref b3), .val (.ref b4), .val (.ref b28), .val (.ref b55), .val (.ref b84), .val (.long (g0_189 p2 p3 p4)), .second, .val (.int (1 : Int32))] [(.int (1 : Int32))])
      refine FiniW.st (fun _ k => XS.iload X159.here hx rfl (hb hby at_296) rfl k) ?_
      show FiniW p e below s _ _ _ T159 (mkF m 298 #[.val (.int p0), .val (.long q1), .second, .val (.int p2), .val (.int p3), .val (.int p4), .val (.int (3 : Int32)), .val (.int (1 : Int32)), .val (.int (1 : Int32)), .val (.ref b3), .val (.ref b4), .val (.ref b28), .val (.ref b55), .val (.ref b84), .val (.long (g0_189 p2 p3 p4)), .second, .val (.int (1 : Int32))] [(.int (1 : Int32)), (.int (1 : Int32))])
      refine FiniW.st (fun _ k => XS.iload X159.here hx rfl (hb hby at_298) rfl k) ?_
      show FiniW p e below s _ _ _ T159 (mkF m 300 #[.val (.int p0), .val (.long q1), .second, .val (.int p2), .val (.int p3), .val (.int p4), .val (.int (3 : Int32)), .val (.int (1 : Int32)), .val (.int (1 : Int32)), .val (.ref b3), .val (.ref b4), .val (.ref b28), .val (.ref b55), .val (.ref b84), .val (.long (g0_189 p2 p3 p4)), .second, .val (.int (1 : Int32))] [(.int (3 : Int32)), (.int (1 : Int32)), (.int (1 : Int32))])
      refine FiniW.st (fun _ k => XS.icmpNo X159.here hx rfl (hb hby at_300) rfl (XT.ii_ge_f (by decide : (1 : Int32) < (3 : Int32))) k) ?_
      show FiniW p e below s _ _ _ T159 (mkF m 303 #[.val (.int p0), .val (.long q1), .second, .val (.int p2), .val (.int p3), .val (.int p4), .val (.int (3 : Int32)), .val (.int (1 : Int32)), .val (.int (1 : Int32)), .val (.ref b3), .val (.ref b4), .val (.ref b28), .val (.ref b55), .val (.ref b84), .val (.long (g0_189 p2 p3 p4)), .second, .val (.int (1 : Int32))] [(.int (1 : Int32))])
      refine FiniW.st (fun _ k => XS.iconst X159.here hx rfl (hb hby at_303) k) ?_
      show FiniW p e below s _ _ _ T159 (mkF m 304 #[.val (.int p0), .val (.long q1), .second, .val (.int p2), .val (.int p3), .val (.int p4), .val (.int (3 : Int32)), .val (.int (1 : Int32)), .val (.int (1 : Int32)), .val (.ref b3), .val (.ref b4), .val (.ref b28), .val (.ref b55), .val (.ref b84), .val (.long (g0_189 p2 p3 p4)), .second, .val (.int (1 : Int32))] [(.int (1 : Int32)), (.int (1 : Int32))])
      refine FiniW.st (fun _ k => XS.goto X159.here hx rfl (pc0 := 304) (pc' := 308) rfl (hb hby at_304) (by decide) (by decide) k) ?_
      show FiniW p e below s _ _ _ T159 (mkF m 308 #[.val (.int p0), .val (.long q1), .second, .val (.int p2), .val (.int p3), .val (.int p4), .val (.int (3 : Int32)), .val (.int (1 : Int32)), .val (.int (1 : Int32)), .val (.ref b3), .val (.ref b4), .val (.ref b28), .val (.ref b55), .val (.ref b84), .val (.long (g0_189 p2 p3 p4)), .second, .val (.int (1 : Int32))] [(.int (1 : Int32)), (.int (1 : Int32))])
      refine FiniW.st (fun _ k => XS.icmpNo X159.here hx rfl (hb hby at_308) rfl (XT.ii_ne_f (by decide : (1 : Int32) = (1 : Int32))) k) ?_
      show FiniW p e below s _ _ _ T159 (mkF m 311 #[.val (.int p0), .val (.long q1), .second, .val (.int p2), .val (.int p3), .val (.int p4), .val (.int (3 : Int32)), .val (.int (1 : Int32)), .val (.int (1 : Int32)), .val (.ref b3), .val (.ref b4), .val (.ref b28), .val (.ref b55), .val (.ref b84), .val (.long (g0_189 p2 p3 p4)), .second, .val (.int (1 : Int32))] [])
      refine FiniW.st (fun _ k => XS.iconst X159.here hx rfl (hb hby at_311) k) ?_
      show FiniW p e below s _ _ _ T159 (mkF m 312 #[.val (.int p0), .val (.long q1), .second, .val (.int p2), .val (.int p3), .val (.int p4), .val (.int (3 : Int32)), .val (.int (1 : Int32)), .val (.int (1 : Int32)), .val (.ref b3), .val (.ref b4), .val (.ref b28), .val (.ref b55), .val (.ref b84), .val (.long (g0_189 p2 p3 p4)), .second, .val (.int (1 : Int32))] [(.int (1 : Int32))])
      refine FiniW.st (fun _ k => XS.goto X159.here hx rfl (pc0 := 312) (pc' := 316) rfl (hb hby at_312) (by decide) (by decide) k) ?_
      show FiniW p e below s _ _ _ T159 (mkF m 316 #[.val (.int p0), .val (.long q1), .second, .val (.int p2), .val (.int p3), .val (.int p4), .val (.int (3 : Int32)), .val (.int (1 : Int32)), .val (.int (1 : Int32)), .val (.ref b3), .val (.ref b4), .val (.ref b28), .val (.ref b55), .val (.ref b84), .val (.long (g0_189 p2 p3 p4)), .second, .val (.int (1 : Int32))] [(.int (1 : Int32))])
      refine FiniW.st (fun _ k => XS.istore X159.here hx rfl (hb hby at_316) rfl (l' := #[.val (.int p0), .val (.long q1), .second, .val (.int p2), .val (.int p3), .val (.int p4), .val (.int (3 : Int32)), .val (.int (1 : Int32)), .val (.int (1 : Int32)), .val (.ref b3), .val (.ref b4), .val (.ref b28), .val (.ref b55), .val (.ref b84), .val (.long (g0_189 p2 p3 p4)), .second, .val (.int (1 : Int32))]) rfl k) ?_
      show FiniW p e below s _ _ _ T159 (mkF m 318 #[.val (.int p0), .val (.long q1), .second, .val (.int p2), .val (.int p3), .val (.int p4), .val (.int (3 : Int32)), .val (.int (1 : Int32)), .val (.int (1 : Int32)), .val (.ref b3), .val (.ref b4), .val (.ref b28), .val (.ref b55), .val (.ref b84), .val (.long (g0_189 p2 p3 p4)), .second, .val (.int (1 : Int32))] [])
      refine FiniW.st (fun _ k => XS.iload X159.here hx rfl (hb hby at_318) rfl k) ?_
      show FiniW p e below s _ _ _ T159 (mkF m 320 #[.val (.int p0), .val (.long q1), .second, .val (.int p2), .val (.int p3), .val (.int p4), .val (.int (3 : Int32)), .val (.int (1 : Int32)), .val (.int (1 : Int32)), .val (.ref b3), .val (.ref b4), .val (.ref b28), .val (.ref b55), .val (.ref b84), .val (.long (g0_189 p2 p3 p4)), .second, .val (.int (1 : Int32))] [(.int (1 : Int32))])
      refine FiniW.st (fun _ k => XS.ifNo X159.here hx rfl (hb hby at_320) rfl (XT.i0_eq_f (by decide : ¬ (1 : Int32) = (0 : Int32))) k) ?_
      show FiniW p e below s _ _ _ T159 (mkF m 323 #[.val (.int p0), .val (.long q1), .second, .val (.int p2), .val (.int p3), .val (.int p4), .val (.int (3 : Int32)), .val (.int (1 : Int32)), .val (.int (1 : Int32)), .val (.ref b3), .val (.ref b4), .val (.ref b28), .val (.ref b55), .val (.ref b84), .val (.long (g0_189 p2 p3 p4)), .second, .val (.int (1 : Int32))] [])
      refine FiniW.st (fun _ k => XS.aload X159.here hx rfl (hb hby at_323) rfl rfl k) ?_
      show FiniW p e below s _ _ _ T159 (mkF m 325 #[.val (.int p0), .val (.long q1), .second, .val (.int p2), .val (.int p3), .val (.int p4), .val (.int (3 : Int32)), .val (.int (1 : Int32)), .val (.int (1 : Int32)), .val (.ref b3), .val (.ref b4), .val (.ref b28), .val (.ref b55), .val (.ref b84), .val (.long (g0_189 p2 p3 p4)), .second, .val (.int (1 : Int32))] [(.ref b84)])
      obtain ⟨T160, X160, e160, st160⟩ := pureV X159 hx hZ hown (hw _ (List.mem_of_getElem? (i := 128) rfl)) (hw _ (List.mem_of_getElem? (i := 129) rfl)) (hw _ (List.mem_of_getElem? (i := 131) rfl)) (hw _ (List.mem_of_getElem? (i := 130) rfl)) (hw _ (List.mem_of_getElem? (i := 95) rfl)) (hw _ (List.mem_of_getElem? (i := 132) rfl)) (notFace_of_selects (args := #[]) (mvT hZ (hw _ (List.mem_of_getElem? (i := 131) rfl)))) H230_3_1_E_b84 (by decide) (rm15 l Z a0 hw [] b84 ((((0 : Int64) + p2.toInt64) + p3.toInt64) + p4.toInt64) h_230_3_1 H230_3_1_F_b84_values) e159 (W := 0) (by decide) (by decide) (by decide) (by decide) (g := (mkF m 325 #[.val (.int p0), .val (.long q1), .second, .val (.int p2), .val (.int p3), .val (.int p4), .val (.int (3 : Int32)), .val (.int (1 : Int32)), .val (.int (1 : Int32)), .val (.ref b3), .val (.ref b4), .val (.ref b28), .val (.ref b55), .val (.ref b84), .val (.long (g0_189 p2 p3 p4)), .second, .val (.int (1 : Int32))] [(.ref b84)])) rfl (by rw [hml]; rfl) (argsL := []) (rest := []) rfl (lenOf pd_10 rfl) rfl (by show 2 * 0 + _ ≤ _; exact Nat.le_of_eq rfl) (hb hby at_325)
      refine FiniW.st st160 ?_
      show FiniW p e below s _ _ _ T160 (mkF m 328 #[.val (.int p0), .val (.long q1), .second, .val (.int p2), .val (.int p3), .val (.int p4), .val (.int (3 : Int32)), .val (.int (1 : Int32)), .val (.int (1 : Int32)), .val (.ref b3), .val (.ref b4), .val (.ref b28), .val (.ref b55), .val (.ref b84), .val (.long (g0_189 p2 p3 p4)), .second, .val (.int (1 : Int32))] [(.long ((((0 : Int64) + p2.toInt64) + p3.toInt64) + p4.toInt64))])
      refine FiniW.st (fun _ k => XS.lload X160.here hx rfl (hb hby at_328) rfl k) ?_
      show FiniW p e below s _ _ _ T160 (mkF m 330 #[.val (.int p0), .val (.long q1), .second, .val (.int p2), .val (.int p3), .val (.int p4), .val (.int (3 : Int32)), .val (.int (1 : Int32)), .val (.int (1 : Int32)), .val (.ref b3), .val (.ref b4), .val (.ref b28), .val (.ref b55), .val (.ref b84), .val (.long (g0_189 p2 p3 p4)), .second, .val (.int (1 : Int32))] [(.long (g0_189 p2 p3 p4)), (.long ((((0 : Int64) + p2.toInt64) + p3.toInt64) + p4.toInt64))])
      refine FiniW.st (fun _ k => XT.lcmp X160.here hx rfl (hb hby at_330) rfl k) ?_
      show FiniW p e below s _ _ _ T160 (mkF m 331 #[.val (.int p0), .val (.long q1), .second, .val (.int p2), .val (.int p3), .val (.int p4), .val (.int (3 : Int32)), .val (.int (1 : Int32)), .val (.int (1 : Int32)), .val (.ref b3), .val (.ref b4), .val (.ref b28), .val (.ref b55), .val (.ref b84), .val (.long (g0_189 p2 p3 p4)), .second, .val (.int (1 : Int32))] [(.int (XT.cmpL ((((0 : Int64) + p2.toInt64) + p3.toInt64) + p4.toInt64) (g0_189 p2 p3 p4)))])
      refine FiniW.st (fun _ k => XS.ifNo X160.here hx rfl (hb hby at_331) rfl (XT.ll_ne_f (show ((((0 : Int64) + p2.toInt64) + p3.toInt64) + p4.toInt64) = (g0_189 p2 p3 p4) by first | (rw [Int64.zero_add]; done) | (rw [Int64.zero_add]; rfl))) k) ?_
      show FiniW p e below s _ _ _ T160 (mkF m 334 #[.val (.int p0), .val (.long q1), .second, .val (.int p2), .val (.int p3), .val (.int p4), .val (.int (3 : Int32)), .val (.int (1 : Int32)), .val (.int (1 : Int32)), .val (.ref b3), .val (.ref b4), .val (.ref b28), .val (.ref b55), .val (.ref b84), .val (.long (g0_189 p2 p3 p4)), .second, .val (.int (1 : Int32))] [])
      refine FiniW.st (fun _ k => XS.iconst X160.here hx rfl (hb hby at_334) k) ?_
      show FiniW p e below s _ _ _ T160 (mkF m 335 #[.val (.int p0), .val (.long q1), .second, .val (.int p2), .val (.int p3), .val (.int p4), .val (.int (3 : Int32)), .val (.int (1 : Int32)), .val (.int (1 : Int32)), .val (.ref b3), .val (.ref b4), .val (.ref b28), .val (.ref b55), .val (.ref b84), .val (.long (g0_189 p2 p3 p4)), .second, .val (.int (1 : Int32))] [(.int (1 : Int32))])
      refine FiniW.st (fun _ k => XS.goto X160.here hx rfl (pc0 := 335) (pc' := 339) rfl (hb hby at_335) (by decide) (by decide) k) ?_
      show FiniW p e below s _ _ _ T160 (mkF m 339 #[.val (.int p0), .val (.long q1), .second, .val (.int p2), .val (.int p3), .val (.int p4), .val (.int (3 : Int32)), .val (.int (1 : Int32)), .val (.int (1 : Int32)), .val (.ref b3), .val (.ref b4), .val (.ref b28), .val (.ref b55), .val (.ref b84), .val (.long (g0_189 p2 p3 p4)), .second, .val (.int (1 : Int32))] [(.int (1 : Int32))])
      refine FiniW.st (fun _ k => XS.istore X160.here hx rfl (hb hby at_339) rfl (l' := #[.val (.int p0), .val (.long q1), .second, .val (.int p2), .val (.int p3), .val (.int p4), .val (.int (3 : Int32)), .val (.int (1 : Int32)), .val (.int (1 : Int32)), .val (.ref b3), .val (.ref b4), .val (.ref b28), .val (.ref b55), .val (.ref b84), .val (.long (g0_189 p2 p3 p4)), .second, .val (.int (1 : Int32))]) rfl k) ?_
      show FiniW p e below s _ _ _ T160 (mkF m 341 #[.val (.int p0), .val (.long q1), .second, .val (.int p2), .val (.int p3), .val (.int p4), .val (.int (3 : Int32)), .val (.int (1 : Int32)), .val (.int (1 : Int32)), .val (.ref b3), .val (.ref b4), .val (.ref b28), .val (.ref b55), .val (.ref b84), .val (.long (g0_189 p2 p3 p4)), .second, .val (.int (1 : Int32))] [])
      refine FiniW.st (fun _ k => XS.iload X160.here hx rfl (hb hby at_341) rfl k) ?_
      show FiniW p e below s _ _ _ T160 (mkF m 343 #[.val (.int p0), .val (.long q1), .second, .val (.int p2), .val (.int p3), .val (.int p4), .val (.int (3 : Int32)), .val (.int (1 : Int32)), .val (.int (1 : Int32)), .val (.ref b3), .val (.ref b4), .val (.ref b28), .val (.ref b55), .val (.ref b84), .val (.long (g0_189 p2 p3 p4)), .second, .val (.int (1 : Int32))] [(.int (1 : Int32))])
      exact FiniW.retN X160 hx hlk (t := .boolean) Bd.returns (by simp) (hb hby at_343) nb1 hS_230_3_1 (by rw [e160]; exact H230_3_1_G) (by decide) (by decide) ⟨rfl, N_230_3_1⟩
    · skip
      refine FiniW.cast (g' := (mkF m 232 #[.val (.int p0), .val (.long q1), .second, .val (.int p2), .val (.int p3), .val (.int p4), .val (.int (3 : Int32)), .val (.int (2 : Int32)), .val (.int (1 : Int32)), .val (.ref b3), .val (.ref b4), .val (.ref b28), .val (.ref b55), .val (.ref b84), .val (.long (g0_189 p2 p3 p4)), .second, .val (.int (1 : Int32))] [(.int (2 : Int32))])) (by rw [h7]) ?_
      show FiniW p e below s _ _ _ T_230_3_1 (mkF m 232 #[.val (.int p0), .val (.long q1), .second, .val (.int p2), .val (.int p3), .val (.int p4), .val (.int (3 : Int32)), .val (.int (2 : Int32)), .val (.int (1 : Int32)), .val (.ref b3), .val (.ref b4), .val (.ref b28), .val (.ref b55), .val (.ref b84), .val (.long (g0_189 p2 p3 p4)), .second, .val (.int (1 : Int32))] [(.int (2 : Int32))])
      refine FiniW.st (fun _ k => XS.iconst X_230_3_1.here hx rfl (hb hby at_232) k) ?_
      show FiniW p e below s _ _ _ T_230_3_1 (mkF m 233 #[.val (.int p0), .val (.long q1), .second, .val (.int p2), .val (.int p3), .val (.int p4), .val (.int (3 : Int32)), .val (.int (2 : Int32)), .val (.int (1 : Int32)), .val (.ref b3), .val (.ref b4), .val (.ref b28), .val (.ref b55), .val (.ref b84), .val (.long (g0_189 p2 p3 p4)), .second, .val (.int (1 : Int32))] [(.int (2 : Int32)), (.int (2 : Int32))])
      refine FiniW.st (fun _ k => XS.icmpNo X_230_3_1.here hx rfl (hb hby at_233) rfl (XT.ii_lt_f (by decide : ¬ (2 : Int32) < (2 : Int32))) k) ?_
      show FiniW p e below s _ _ _ T_230_3_1 (mkF m 236 #[.val (.int p0), .val (.long q1), .second, .val (.int p2), .val (.int p3), .val (.int p4), .val (.int (3 : Int32)), .val (.int (2 : Int32)), .val (.int (1 : Int32)), .val (.ref b3), .val (.ref b4), .val (.ref b28), .val (.ref b55), .val (.ref b84), .val (.long (g0_189 p2 p3 p4)), .second, .val (.int (1 : Int32))] [])
      refine FiniW.st (fun _ k => XS.iload X_230_3_1.here hx rfl (hb hby at_236) rfl k) ?_
      show FiniW p e below s _ _ _ T_230_3_1 (mkF m 238 #[.val (.int p0), .val (.long q1), .second, .val (.int p2), .val (.int p3), .val (.int p4), .val (.int (3 : Int32)), .val (.int (2 : Int32)), .val (.int (1 : Int32)), .val (.ref b3), .val (.ref b4), .val (.ref b28), .val (.ref b55), .val (.ref b84), .val (.long (g0_189 p2 p3 p4)), .second, .val (.int (1 : Int32))] [(.int (1 : Int32))])
      refine FiniW.st (fun _ k => XS.ifNo X_230_3_1.here hx rfl (hb hby at_238) rfl (XT.i0_eq_f (by decide : ¬ (1 : Int32) = (0 : Int32))) k) ?_
      show FiniW p e below s _ _ _ T_230_3_1 (mkF m 241 #[.val (.int p0), .val (.long q1), .second, .val (.int p2), .val (.int p3), .val (.int p4), .val (.int (3 : Int32)), .val (.int (2 : Int32)), .val (.int (1 : Int32)), .val (.ref b3), .val (.ref b4), .val (.ref b28), .val (.ref b55), .val (.ref b84), .val (.long (g0_189 p2 p3 p4)), .second, .val (.int (1 : Int32))] [])
      refine FiniW.st (fun _ k => XS.aload X_230_3_1.here hx rfl (hb hby at_241) rfl rfl k) ?_
      show FiniW p e below s _ _ _ T_230_3_1 (mkF m 243 #[.val (.int p0), .val (.long q1), .second, .val (.int p2), .val (.int p3), .val (.int p4), .val (.int (3 : Int32)), .val (.int (2 : Int32)), .val (.int (1 : Int32)), .val (.ref b3), .val (.ref b4), .val (.ref b28), .val (.ref b55), .val (.ref b84), .val (.long (g0_189 p2 p3 p4)), .second, .val (.int (1 : Int32))] [(.ref b84)])
      obtain ⟨v161, T161, L161, X161, hQ161, st161⟩ := callV X_230_3_1 hx hZ hown (hw _ (List.mem_of_getElem? (i := 114) rfl)) (hw _ (List.mem_of_getElem? (i := 115) rfl)) (hw _ (List.mem_of_getElem? (i := 117) rfl)) (hw _ (List.mem_of_getElem? (i := 116) rfl)) (hw _ (List.mem_of_getElem? (i := 95) rfl)) (hw _ (List.mem_of_getElem? (i := 118) rfl)) (notFace_of_selects (args := #[]) (mvT hZ (hw _ (List.mem_of_getElem? (i := 117) rfl)))) H230_3_1_E_b84 (by decide) (rm13 l Z a0 hw [] b84 b89 (3 : Int32) ((((0 : Int64) + p2.toInt64) + p3.toInt64) + p4.toInt64) (1 : Int32) (upd (upd (upd (upd (fun _ => .null) 0 (.ref b4)) 1 (.ref b28)) 0 .null) 2 (.ref b55)) b28 h_230_3_1 n0 H230_3_1_Z H230_3_1_E_b84 H230_3_1_F_b84_objects H230_3_1_F_b84_size H230_3_1_F_b84_values H230_3_1_F_b84_handed H230_3_1_A_b89 H230_3_1_E_b28 ge230_3_1_b84 ge230_3_1_b89 ne230_3_1_b84_b89 (⟨by decide, by decide⟩) rfl) e_230_3_1 (W := 0) (by decide) (by decide) (by decide) (by decide) (g := (mkF m 243 #[.val (.int p0), .val (.long q1), .second, .val (.int p2), .val (.int p3), .val (.int p4), .val (.int (3 : Int32)), .val (.int (2 : Int32)), .val (.int (1 : Int32)), .val (.ref b3), .val (.ref b4), .val (.ref b28), .val (.ref b55), .val (.ref b84), .val (.long (g0_189 p2 p3 p4)), .second, .val (.int (1 : Int32))] [(.ref b84)])) rfl (by rw [hml]; rfl) (argsL := []) (rest := []) rfl (lenOf pd_8 rfl) rfl (by show 2 * 0 + _ ≤ _; exact Nat.le_of_eq rfl) (hb hby at_243)
      obtain ⟨rfl, Nq161, K161, Fo161, Ar161, Fs161, Fv161, Fh161⟩ := hQ161
      have N161 := Fr.app N_230_3_1 Nq161
      refine FiniW.st st161 ?_
      show FiniW p e below s _ _ _ T161 (mkF m 246 #[.val (.int p0), .val (.long q1), .second, .val (.int p2), .val (.int p3), .val (.int p4), .val (.int (3 : Int32)), .val (.int (2 : Int32)), .val (.int (1 : Int32)), .val (.ref b3), .val (.ref b4), .val (.ref b28), .val (.ref b55), .val (.ref b84), .val (.long (g0_189 p2 p3 p4)), .second, .val (.int (1 : Int32))] [(.ref b28)])
      refine FiniW.st (fun _ k => XS.aload X161.here hx rfl (hb hby at_246) rfl rfl k) ?_
      show FiniW p e below s _ _ _ T161 (mkF m 248 #[.val (.int p0), .val (.long q1), .second, .val (.int p2), .val (.int p3), .val (.int p4), .val (.int (3 : Int32)), .val (.int (2 : Int32)), .val (.int (1 : Int32)), .val (.ref b3), .val (.ref b4), .val (.ref b28), .val (.ref b55), .val (.ref b84), .val (.long (g0_189 p2 p3 p4)), .second, .val (.int (1 : Int32))] [(.ref b28), (.ref b28)])
      refine FiniW.st (fun _ k => Jvm.RoadKit.acmp (g := (mkF m 248 #[.val (.int p0), .val (.long q1), .second, .val (.int p2), .val (.int p3), .val (.int p4), .val (.int (3 : Int32)), .val (.int (2 : Int32)), .val (.int (1 : Int32)), .val (.ref b3), .val (.ref b4), .val (.ref b28), .val (.ref b55), .val (.ref b84), .val (.long (g0_189 p2 p3 p4)), .second, .val (.int (1 : Int32))] [(.ref b28), (.ref b28)])) X161 hx rfl rfl rfl (pc0 := 248) (pc' := 251) (same := true) rfl (hb hby at_248) rfl (decide_eq_true rfl) (by decide) (by decide) k) ?_
      show FiniW p e below s _ _ _ T161 (mkF m 251 #[.val (.int p0), .val (.long q1), .second, .val (.int p2), .val (.int p3), .val (.int p4), .val (.int (3 : Int32)), .val (.int (2 : Int32)), .val (.int (1 : Int32)), .val (.ref b3), .val (.ref b4), .val (.ref b28), .val (.ref b55), .val (.ref b84), .val (.long (g0_189 p2 p3 p4)), .second, .val (.int (1 : Int32))] [])
      refine FiniW.st (fun _ k => XS.iconst X161.here hx rfl (hb hby at_251) k) ?_
      show FiniW p e below s _ _ _ T161 (mkF m 252 #[.val (.int p0), .val (.long q1), .second, .val (.int p2), .val (.int p3), .val (.int p4), .val (.int (3 : Int32)), .val (.int (2 : Int32)), .val (.int (1 : Int32)), .val (.ref b3), .val (.ref b4), .val (.ref b28), .val (.ref b55), .val (.ref b84), .val (.long (g0_189 p2 p3 p4)), .second, .val (.int (1 : Int32))] [(.int (1 : Int32))])
      refine FiniW.st (fun _ k => XS.goto X161.here hx rfl (pc0 := 252) (pc' := 256) rfl (hb hby at_252) (by decide) (by decide) k) ?_
      show FiniW p e below s _ _ _ T161 (mkF m 256 #[.val (.int p0), .val (.long q1), .second, .val (.int p2), .val (.int p3), .val (.int p4), .val (.int (3 : Int32)), .val (.int (2 : Int32)), .val (.int (1 : Int32)), .val (.ref b3), .val (.ref b4), .val (.ref b28), .val (.ref b55), .val (.ref b84), .val (.long (g0_189 p2 p3 p4)), .second, .val (.int (1 : Int32))] [(.int (1 : Int32))])
      refine FiniW.st (fun _ k => XS.istore X161.here hx rfl (hb hby at_256) rfl (l' := #[.val (.int p0), .val (.long q1), .second, .val (.int p2), .val (.int p3), .val (.int p4), .val (.int (3 : Int32)), .val (.int (2 : Int32)), .val (.int (1 : Int32)), .val (.ref b3), .val (.ref b4), .val (.ref b28), .val (.ref b55), .val (.ref b84), .val (.long (g0_189 p2 p3 p4)), .second, .val (.int (1 : Int32))]) rfl k) ?_
      show FiniW p e below s _ _ _ T161 (mkF m 258 #[.val (.int p0), .val (.long q1), .second, .val (.int p2), .val (.int p3), .val (.int p4), .val (.int (3 : Int32)), .val (.int (2 : Int32)), .val (.int (1 : Int32)), .val (.ref b3), .val (.ref b4), .val (.ref b28), .val (.ref b55), .val (.ref b84), .val (.long (g0_189 p2 p3 p4)), .second, .val (.int (1 : Int32))] [])
      refine FiniW.st (fun _ k => XS.iload X161.here hx rfl (hb hby at_258) rfl k) ?_
      show FiniW p e below s _ _ _ T161 (mkF m 260 #[.val (.int p0), .val (.long q1), .second, .val (.int p2), .val (.int p3), .val (.int p4), .val (.int (3 : Int32)), .val (.int (2 : Int32)), .val (.int (1 : Int32)), .val (.ref b3), .val (.ref b4), .val (.ref b28), .val (.ref b55), .val (.ref b84), .val (.long (g0_189 p2 p3 p4)), .second, .val (.int (1 : Int32))] [(.int (2 : Int32))])
      refine FiniW.st (fun _ k => XS.iconst X161.here hx rfl (hb hby at_260) k) ?_
      show FiniW p e below s _ _ _ T161 (mkF m 261 #[.val (.int p0), .val (.long q1), .second, .val (.int p2), .val (.int p3), .val (.int p4), .val (.int (3 : Int32)), .val (.int (2 : Int32)), .val (.int (1 : Int32)), .val (.ref b3), .val (.ref b4), .val (.ref b28), .val (.ref b55), .val (.ref b84), .val (.long (g0_189 p2 p3 p4)), .second, .val (.int (1 : Int32))] [(.int (3 : Int32)), (.int (2 : Int32))])
      refine FiniW.st (fun _ k => XS.icmpYes X161.here hx rfl (pc0 := 261) (pc' := 286) rfl (hb hby at_261) rfl (XT.ii_lt_t (by decide : (2 : Int32) < (3 : Int32))) (by decide) (by decide) k) ?_
      show FiniW p e below s _ _ _ T161 (mkF m 286 #[.val (.int p0), .val (.long q1), .second, .val (.int p2), .val (.int p3), .val (.int p4), .val (.int (3 : Int32)), .val (.int (2 : Int32)), .val (.int (1 : Int32)), .val (.ref b3), .val (.ref b4), .val (.ref b28), .val (.ref b55), .val (.ref b84), .val (.long (g0_189 p2 p3 p4)), .second, .val (.int (1 : Int32))] [])
      refine FiniW.st (fun _ k => XS.iload X161.here hx rfl (hb hby at_286) rfl k) ?_
      show FiniW p e below s _ _ _ T161 (mkF m 288 #[.val (.int p0), .val (.long q1), .second, .val (.int p2), .val (.int p3), .val (.int p4), .val (.int (3 : Int32)), .val (.int (2 : Int32)), .val (.int (1 : Int32)), .val (.ref b3), .val (.ref b4), .val (.ref b28), .val (.ref b55), .val (.ref b84), .val (.long (g0_189 p2 p3 p4)), .second, .val (.int (1 : Int32))] [(.int (1 : Int32))])
      refine FiniW.st (fun _ k => XS.ifNo X161.here hx rfl (hb hby at_288) rfl (XT.i0_eq_f (by decide : ¬ (1 : Int32) = (0 : Int32))) k) ?_
      show FiniW p e below s _ _ _ T161 (mkF m 291 #[.val (.int p0), .val (.long q1), .second, .val (.int p2), .val (.int p3), .val (.int p4), .val (.int (3 : Int32)), .val (.int (2 : Int32)), .val (.int (1 : Int32)), .val (.ref b3), .val (.ref b4), .val (.ref b28), .val (.ref b55), .val (.ref b84), .val (.long (g0_189 p2 p3 p4)), .second, .val (.int (1 : Int32))] [])
      refine FiniW.st (fun _ k => XS.aload X161.here hx rfl (hb hby at_291) rfl rfl k) ?_
      show FiniW p e below s _ _ _ T161 (mkF m 293 #[.val (.int p0), .val (.long q1), .second, .val (.int p2), .val (.int p3), .val (.int p4), .val (.int (3 : Int32)), .val (.int (2 : Int32)), .val (.int (1 : Int32)), .val (.ref b3), .val (.ref b4), .val (.ref b28), .val (.ref b55), .val (.ref b84), .val (.long (g0_189 p2 p3 p4)), .second, .val (.int (1 : Int32))] [(.ref b84)])
      have Ex_163 : Exa Z T161.heap b84 "com/example/mapcodex/mapcodex/pbf/ObjectBatch" := (H230_3_1_E_b84.keep K161)
      obtain ⟨T162, X162, e162, st162⟩ := pureV X161 hx hZ hown (hw _ (List.mem_of_getElem? (i := 123) rfl)) (hw _ (List.mem_of_getElem? (i := 124) rfl)) (hw _ (List.mem_of_getElem? (i := 126) rfl)) (hw _ (List.mem_of_getElem? (i := 125) rfl)) (hw _ (List.mem_of_getElem? (i := 95) rfl)) (hw _ (List.mem_of_getElem? (i := 127) rfl)) (notFace_of_selects (args := #[]) (mvT hZ (hw _ (List.mem_of_getElem? (i := 126) rfl)))) Ex_163 (by decide) (rm14 l Z a0 hw [] b84 (3 : Int32) (2 : Int32) T161.heap Fs161 Fh161) rfl (W := 0) (by decide) (by decide) (by decide) (by decide) (g := (mkF m 293 #[.val (.int p0), .val (.long q1), .second, .val (.int p2), .val (.int p3), .val (.int p4), .val (.int (3 : Int32)), .val (.int (2 : Int32)), .val (.int (1 : Int32)), .val (.ref b3), .val (.ref b4), .val (.ref b28), .val (.ref b55), .val (.ref b84), .val (.long (g0_189 p2 p3 p4)), .second, .val (.int (1 : Int32))] [(.ref b84)])) rfl (by rw [hml]; rfl) (argsL := []) (rest := []) rfl (lenOf pd_9 rfl) rfl (by show 2 * 0 + _ ≤ _; exact Nat.le_of_eq rfl) (hb hby at_293)
      refine FiniW.st st162 ?_
      show FiniW p e below s _ _ _ T162 (mkF m 296 #[.val (.int p0), .val (.long q1), .second, .val (.int p2), .val (.int p3), .val (.int p4), .val (.int (3 : Int32)), .val (.int (2 : Int32)), .val (.int (1 : Int32)), .val (.ref b3), .val (.ref b4), .val (.ref b28), .val (.ref b55), .val (.ref b84), .val (.long (g0_189 p2 p3 p4)), .second, .val (.int (1 : Int32))] [(.int (1 : Int32))])
      refine FiniW.st (fun _ k => XS.iload X162.here hx rfl (hb hby at_296) rfl k) ?_
      show FiniW p e below s _ _ _ T162 (mkF m 298 #[.val (.int p0), .val (.long q1), .second, .val (.int p2), .val (.int p3), .val (.int p4), .val (.int (3 : Int32)), .val (.int (2 : Int32)), .val (.int (1 : Int32)), .val (.ref b3), .val (.ref b4), .val (.ref b28), .val (.ref b55), .val (.ref b84), .val (.long (g0_189 p2 p3 p4)), .second, .val (.int (1 : Int32))] [(.int (2 : Int32)), (.int (1 : Int32))])
      refine FiniW.st (fun _ k => XS.iload X162.here hx rfl (hb hby at_298) rfl k) ?_
      show FiniW p e below s _ _ _ T162 (mkF m 300 #[.val (.int p0), .val (.long q1), .second, .val (.int p2), .val (.int p3), .val (.int p4), .val (.int (3 : Int32)), .val (.int (2 : Int32)), .val (.int (1 : Int32)), .val (.ref b3), .val (.ref b4), .val (.ref b28), .val (.ref b55), .val (.ref b84), .val (.long (g0_189 p2 p3 p4)), .second, .val (.int (1 : Int32))] [(.int (3 : Int32)), (.int (2 : Int32)), (.int (1 : Int32))])
      refine FiniW.st (fun _ k => XS.icmpNo X162.here hx rfl (hb hby at_300) rfl (XT.ii_ge_f (by decide : (2 : Int32) < (3 : Int32))) k) ?_
      show FiniW p e below s _ _ _ T162 (mkF m 303 #[.val (.int p0), .val (.long q1), .second, .val (.int p2), .val (.int p3), .val (.int p4), .val (.int (3 : Int32)), .val (.int (2 : Int32)), .val (.int (1 : Int32)), .val (.ref b3), .val (.ref b4), .val (.ref b28), .val (.ref b55), .val (.ref b84), .val (.long (g0_189 p2 p3 p4)), .second, .val (.int (1 : Int32))] [(.int (1 : Int32))])
      refine FiniW.st (fun _ k => XS.iconst X162.here hx rfl (hb hby at_303) k) ?_
      show FiniW p e below s _ _ _ T162 (mkF m 304 #[.val (.int p0), .val (.long q1), .second, .val (.int p2), .val (.int p3), .val (.int p4), .val (.int (3 : Int32)), .val (.int (2 : Int32)), .val (.int (1 : Int32)), .val (.ref b3), .val (.ref b4), .val (.ref b28), .val (.ref b55), .val (.ref b84), .val (.long (g0_189 p2 p3 p4)), .second, .val (.int (1 : Int32))] [(.int (1 : Int32)), (.int (1 : Int32))])
      refine FiniW.st (fun _ k => XS.goto X162.here hx rfl (pc0 := 304) (pc' := 308) rfl (hb hby at_304) (by decide) (by decide) k) ?_
      show FiniW p e below s _ _ _ T162 (mkF m 308 #[.val (.int p0), .val (.long q1), .second, .val (.int p2), .val (.int p3), .val (.int p4), .val (.int (3 : Int32)), .val (.int (2 : Int32)), .val (.int (1 : Int32)), .val (.ref b3), .val (.ref b4), .val (.ref b28), .val (.ref b55), .val (.ref b84), .val (.long (g0_189 p2 p3 p4)), .second, .val (.int (1 : Int32))] [(.int (1 : Int32)), (.int (1 : Int32))])
      refine FiniW.st (fun _ k => XS.icmpNo X162.here hx rfl (hb hby at_308) rfl (XT.ii_ne_f (by decide : (1 : Int32) = (1 : Int32))) k) ?_
      show FiniW p e below s _ _ _ T162 (mkF m 311 #[.val (.int p0), .val (.long q1), .second, .val (.int p2), .val (.int p3), .val (.int p4), .val (.int (3 : Int32)), .val (.int (2 : Int32)), .val (.int (1 : Int32)), .val (.ref b3), .val (.ref b4), .val (.ref b28), .val (.ref b55), .val (.ref b84), .val (.long (g0_189 p2 p3 p4)), .second, .val (.int (1 : Int32))] [])
      refine FiniW.st (fun _ k => XS.iconst X162.here hx rfl (hb hby at_311) k) ?_
      show FiniW p e below s _ _ _ T162 (mkF m 312 #[.val (.int p0), .val (.long q1), .second, .val (.int p2), .val (.int p3), .val (.int p4), .val (.int (3 : Int32)), .val (.int (2 : Int32)), .val (.int (1 : Int32)), .val (.ref b3), .val (.ref b4), .val (.ref b28), .val (.ref b55), .val (.ref b84), .val (.long (g0_189 p2 p3 p4)), .second, .val (.int (1 : Int32))] [(.int (1 : Int32))])
      refine FiniW.st (fun _ k => XS.goto X162.here hx rfl (pc0 := 312) (pc' := 316) rfl (hb hby at_312) (by decide) (by decide) k) ?_
      show FiniW p e below s _ _ _ T162 (mkF m 316 #[.val (.int p0), .val (.long q1), .second, .val (.int p2), .val (.int p3), .val (.int p4), .val (.int (3 : Int32)), .val (.int (2 : Int32)), .val (.int (1 : Int32)), .val (.ref b3), .val (.ref b4), .val (.ref b28), .val (.ref b55), .val (.ref b84), .val (.long (g0_189 p2 p3 p4)), .second, .val (.int (1 : Int32))] [(.int (1 : Int32))])
      refine FiniW.st (fun _ k => XS.istore X162.here hx rfl (hb hby at_316) rfl (l' := #[.val (.int p0), .val (.long q1), .second, .val (.int p2), .val (.int p3), .val (.int p4), .val (.int (3 : Int32)), .val (.int (2 : Int32)), .val (.int (1 : Int32)), .val (.ref b3), .val (.ref b4), .val (.ref b28), .val (.ref b55), .val (.ref b84), .val (.long (g0_189 p2 p3 p4)), .second, .val (.int (1 : Int32))]) rfl k) ?_
      show FiniW p e below s _ _ _ T162 (mkF m 318 #[.val (.int p0), .val (.long q1), .second, .val (.int p2), .val (.int p3), .val (.int p4), .val (.int (3 : Int32)), .val (.int (2 : Int32)), .val (.int (1 : Int32)), .val (.ref b3), .val (.ref b4), .val (.ref b28), .val (.ref b55), .val (.ref b84), .val (.long (g0_189 p2 p3 p4)), .second, .val (.int (1 : Int32))] [])
      refine FiniW.st (fun _ k => XS.iload X162.here hx rfl (hb hby at_318) rfl k) ?_
      show FiniW p e below s _ _ _ T162 (mkF m 320 #[.val (.int p0), .val (.long q1), .second, .val (.int p2), .val (.int p3), .val (.int p4), .val (.int (3 : Int32)), .val (.int (2 : Int32)), .val (.int (1 : Int32)), .val (.ref b3), .val (.ref b4), .val (.ref b28), .val (.ref b55), .val (.ref b84), .val (.long (g0_189 p2 p3 p4)), .second, .val (.int (1 : Int32))] [(.int (1 : Int32))])
      refine FiniW.st (fun _ k => XS.ifNo X162.here hx rfl (hb hby at_320) rfl (XT.i0_eq_f (by decide : ¬ (1 : Int32) = (0 : Int32))) k) ?_
      show FiniW p e below s _ _ _ T162 (mkF m 323 #[.val (.int p0), .val (.long q1), .second, .val (.int p2), .val (.int p3), .val (.int p4), .val (.int (3 : Int32)), .val (.int (2 : Int32)), .val (.int (1 : Int32)), .val (.ref b3), .val (.ref b4), .val (.ref b28), .val (.ref b55), .val (.ref b84), .val (.long (g0_189 p2 p3 p4)), .second, .val (.int (1 : Int32))] [])
      refine FiniW.st (fun _ k => XS.aload X162.here hx rfl (hb hby at_323) rfl rfl k) ?_
      show FiniW p e below s _ _ _ T162 (mkF m 325 #[.val (.int p0), .val (.long q1), .second, .val (.int p2), .val (.int p3), .val (.int p4), .val (.int (3 : Int32)), .val (.int (2 : Int32)), .val (.int (1 : Int32)), .val (.ref b3), .val (.ref b4), .val (.ref b28), .val (.ref b55), .val (.ref b84), .val (.long (g0_189 p2 p3 p4)), .second, .val (.int (1 : Int32))] [(.ref b84)])
      obtain ⟨T164, X164, e164, st164⟩ := pureV X162 hx hZ hown (hw _ (List.mem_of_getElem? (i := 128) rfl)) (hw _ (List.mem_of_getElem? (i := 129) rfl)) (hw _ (List.mem_of_getElem? (i := 131) rfl)) (hw _ (List.mem_of_getElem? (i := 130) rfl)) (hw _ (List.mem_of_getElem? (i := 95) rfl)) (hw _ (List.mem_of_getElem? (i := 132) rfl)) (notFace_of_selects (args := #[]) (mvT hZ (hw _ (List.mem_of_getElem? (i := 131) rfl)))) Ex_163 (by decide) (rm15 l Z a0 hw [] b84 ((((0 : Int64) + p2.toInt64) + p3.toInt64) + p4.toInt64) T161.heap Fv161) e162 (W := 0) (by decide) (by decide) (by decide) (by decide) (g := (mkF m 325 #[.val (.int p0), .val (.long q1), .second, .val (.int p2), .val (.int p3), .val (.int p4), .val (.int (3 : Int32)), .val (.int (2 : Int32)), .val (.int (1 : Int32)), .val (.ref b3), .val (.ref b4), .val (.ref b28), .val (.ref b55), .val (.ref b84), .val (.long (g0_189 p2 p3 p4)), .second, .val (.int (1 : Int32))] [(.ref b84)])) rfl (by rw [hml]; rfl) (argsL := []) (rest := []) rfl (lenOf pd_10 rfl) rfl (by show 2 * 0 + _ ≤ _; exact Nat.le_of_eq rfl) (hb hby at_325)
      refine FiniW.st st164 ?_
      show FiniW p e below s _ _ _ T164 (mkF m 328 #[.val (.int p0), .val (.long q1), .second, .val (.int p2), .val (.int p3), .val (.int p4), .val (.int (3 : Int32)), .val (.int (2 : Int32)), .val (.int (1 : Int32)), .val (.ref b3), .val (.ref b4), .val (.ref b28), .val (.ref b55), .val (.ref b84), .val (.long (g0_189 p2 p3 p4)), .second, .val (.int (1 : Int32))] [(.long ((((0 : Int64) + p2.toInt64) + p3.toInt64) + p4.toInt64))])
      refine FiniW.st (fun _ k => XS.lload X164.here hx rfl (hb hby at_328) rfl k) ?_
      show FiniW p e below s _ _ _ T164 (mkF m 330 #[.val (.int p0), .val (.long q1), .second, .val (.int p2), .val (.int p3), .val (.int p4), .val (.int (3 : Int32)), .val (.int (2 : Int32)), .val (.int (1 : Int32)), .val (.ref b3), .val (.ref b4), .val (.ref b28), .val (.ref b55), .val (.ref b84), .val (.long (g0_189 p2 p3 p4)), .second, .val (.int (1 : Int32))] [(.long (g0_189 p2 p3 p4)), (.long ((((0 : Int64) + p2.toInt64) + p3.toInt64) + p4.toInt64))])
      refine FiniW.st (fun _ k => XT.lcmp X164.here hx rfl (hb hby at_330) rfl k) ?_
      show FiniW p e below s _ _ _ T164 (mkF m 331 #[.val (.int p0), .val (.long q1), .second, .val (.int p2), .val (.int p3), .val (.int p4), .val (.int (3 : Int32)), .val (.int (2 : Int32)), .val (.int (1 : Int32)), .val (.ref b3), .val (.ref b4), .val (.ref b28), .val (.ref b55), .val (.ref b84), .val (.long (g0_189 p2 p3 p4)), .second, .val (.int (1 : Int32))] [(.int (XT.cmpL ((((0 : Int64) + p2.toInt64) + p3.toInt64) + p4.toInt64) (g0_189 p2 p3 p4)))])
      refine FiniW.st (fun _ k => XS.ifNo X164.here hx rfl (hb hby at_331) rfl (XT.ll_ne_f (show ((((0 : Int64) + p2.toInt64) + p3.toInt64) + p4.toInt64) = (g0_189 p2 p3 p4) by first | (rw [Int64.zero_add]; done) | (rw [Int64.zero_add]; rfl))) k) ?_
      show FiniW p e below s _ _ _ T164 (mkF m 334 #[.val (.int p0), .val (.long q1), .second, .val (.int p2), .val (.int p3), .val (.int p4), .val (.int (3 : Int32)), .val (.int (2 : Int32)), .val (.int (1 : Int32)), .val (.ref b3), .val (.ref b4), .val (.ref b28), .val (.ref b55), .val (.ref b84), .val (.long (g0_189 p2 p3 p4)), .second, .val (.int (1 : Int32))] [])
      refine FiniW.st (fun _ k => XS.iconst X164.here hx rfl (hb hby at_334) k) ?_
      show FiniW p e below s _ _ _ T164 (mkF m 335 #[.val (.int p0), .val (.long q1), .second, .val (.int p2), .val (.int p3), .val (.int p4), .val (.int (3 : Int32)), .val (.int (2 : Int32)), .val (.int (1 : Int32)), .val (.ref b3), .val (.ref b4), .val (.ref b28), .val (.ref b55), .val (.ref b84), .val (.long (g0_189 p2 p3 p4)), .second, .val (.int (1 : Int32))] [(.int (1 : Int32))])
      refine FiniW.st (fun _ k => XS.goto X164.here hx rfl (pc0 := 335) (pc' := 339) rfl (hb hby at_335) (by decide) (by decide) k) ?_
      show FiniW p e below s _ _ _ T164 (mkF m 339 #[.val (.int p0), .val (.long q1), .second, .val (.int p2), .val (.int p3), .val (.int p4), .val (.int (3 : Int32)), .val (.int (2 : Int32)), .val (.int (1 : Int32)), .val (.ref b3), .val (.ref b4), .val (.ref b28), .val (.ref b55), .val (.ref b84), .val (.long (g0_189 p2 p3 p4)), .second, .val (.int (1 : Int32))] [(.int (1 : Int32))])
      refine FiniW.st (fun _ k => XS.istore X164.here hx rfl (hb hby at_339) rfl (l' := #[.val (.int p0), .val (.long q1), .second, .val (.int p2), .val (.int p3), .val (.int p4), .val (.int (3 : Int32)), .val (.int (2 : Int32)), .val (.int (1 : Int32)), .val (.ref b3), .val (.ref b4), .val (.ref b28), .val (.ref b55), .val (.ref b84), .val (.long (g0_189 p2 p3 p4)), .second, .val (.int (1 : Int32))]) rfl k) ?_
      show FiniW p e below s _ _ _ T164 (mkF m 341 #[.val (.int p0), .val (.long q1), .second, .val (.int p2), .val (.int p3), .val (.int p4), .val (.int (3 : Int32)), .val (.int (2 : Int32)), .val (.int (1 : Int32)), .val (.ref b3), .val (.ref b4), .val (.ref b28), .val (.ref b55), .val (.ref b84), .val (.long (g0_189 p2 p3 p4)), .second, .val (.int (1 : Int32))] [])
      refine FiniW.st (fun _ k => XS.iload X164.here hx rfl (hb hby at_341) rfl k) ?_
      show FiniW p e below s _ _ _ T164 (mkF m 343 #[.val (.int p0), .val (.long q1), .second, .val (.int p2), .val (.int p3), .val (.int p4), .val (.int (3 : Int32)), .val (.int (2 : Int32)), .val (.int (1 : Int32)), .val (.ref b3), .val (.ref b4), .val (.ref b28), .val (.ref b55), .val (.ref b84), .val (.long (g0_189 p2 p3 p4)), .second, .val (.int (1 : Int32))] [(.int (1 : Int32))])
      have Zs_165 : kk_230_3_1 ≤ T161.heap.size := (Nat.le_trans H230_3_1_G K161.1)
      exact FiniW.retN X164 hx hlk (t := .boolean) Bd.returns (by simp) (hb hby at_343) nb1 hS_230_3_1 (by rw [e164]; exact Zs_165) (by decide) (by decide) ⟨rfl, N161⟩
    · skip
      refine FiniW.cast (g' := (mkF m 232 #[.val (.int p0), .val (.long q1), .second, .val (.int p2), .val (.int p3), .val (.int p4), .val (.int (3 : Int32)), .val (.int (3 : Int32)), .val (.int (1 : Int32)), .val (.ref b3), .val (.ref b4), .val (.ref b28), .val (.ref b55), .val (.ref b84), .val (.long (g0_189 p2 p3 p4)), .second, .val (.int (1 : Int32))] [(.int (3 : Int32))])) (by rw [h7]) ?_
      show FiniW p e below s _ _ _ T_230_3_1 (mkF m 232 #[.val (.int p0), .val (.long q1), .second, .val (.int p2), .val (.int p3), .val (.int p4), .val (.int (3 : Int32)), .val (.int (3 : Int32)), .val (.int (1 : Int32)), .val (.ref b3), .val (.ref b4), .val (.ref b28), .val (.ref b55), .val (.ref b84), .val (.long (g0_189 p2 p3 p4)), .second, .val (.int (1 : Int32))] [(.int (3 : Int32))])
      refine FiniW.st (fun _ k => XS.iconst X_230_3_1.here hx rfl (hb hby at_232) k) ?_
      show FiniW p e below s _ _ _ T_230_3_1 (mkF m 233 #[.val (.int p0), .val (.long q1), .second, .val (.int p2), .val (.int p3), .val (.int p4), .val (.int (3 : Int32)), .val (.int (3 : Int32)), .val (.int (1 : Int32)), .val (.ref b3), .val (.ref b4), .val (.ref b28), .val (.ref b55), .val (.ref b84), .val (.long (g0_189 p2 p3 p4)), .second, .val (.int (1 : Int32))] [(.int (2 : Int32)), (.int (3 : Int32))])
      refine FiniW.st (fun _ k => XS.icmpNo X_230_3_1.here hx rfl (hb hby at_233) rfl (XT.ii_lt_f (by decide : ¬ (3 : Int32) < (2 : Int32))) k) ?_
      show FiniW p e below s _ _ _ T_230_3_1 (mkF m 236 #[.val (.int p0), .val (.long q1), .second, .val (.int p2), .val (.int p3), .val (.int p4), .val (.int (3 : Int32)), .val (.int (3 : Int32)), .val (.int (1 : Int32)), .val (.ref b3), .val (.ref b4), .val (.ref b28), .val (.ref b55), .val (.ref b84), .val (.long (g0_189 p2 p3 p4)), .second, .val (.int (1 : Int32))] [])
      refine FiniW.st (fun _ k => XS.iload X_230_3_1.here hx rfl (hb hby at_236) rfl k) ?_
      show FiniW p e below s _ _ _ T_230_3_1 (mkF m 238 #[.val (.int p0), .val (.long q1), .second, .val (.int p2), .val (.int p3), .val (.int p4), .val (.int (3 : Int32)), .val (.int (3 : Int32)), .val (.int (1 : Int32)), .val (.ref b3), .val (.ref b4), .val (.ref b28), .val (.ref b55), .val (.ref b84), .val (.long (g0_189 p2 p3 p4)), .second, .val (.int (1 : Int32))] [(.int (1 : Int32))])
      refine FiniW.st (fun _ k => XS.ifNo X_230_3_1.here hx rfl (hb hby at_238) rfl (XT.i0_eq_f (by decide : ¬ (1 : Int32) = (0 : Int32))) k) ?_
      show FiniW p e below s _ _ _ T_230_3_1 (mkF m 241 #[.val (.int p0), .val (.long q1), .second, .val (.int p2), .val (.int p3), .val (.int p4), .val (.int (3 : Int32)), .val (.int (3 : Int32)), .val (.int (1 : Int32)), .val (.ref b3), .val (.ref b4), .val (.ref b28), .val (.ref b55), .val (.ref b84), .val (.long (g0_189 p2 p3 p4)), .second, .val (.int (1 : Int32))] [])
      refine FiniW.st (fun _ k => XS.aload X_230_3_1.here hx rfl (hb hby at_241) rfl rfl k) ?_
      show FiniW p e below s _ _ _ T_230_3_1 (mkF m 243 #[.val (.int p0), .val (.long q1), .second, .val (.int p2), .val (.int p3), .val (.int p4), .val (.int (3 : Int32)), .val (.int (3 : Int32)), .val (.int (1 : Int32)), .val (.ref b3), .val (.ref b4), .val (.ref b28), .val (.ref b55), .val (.ref b84), .val (.long (g0_189 p2 p3 p4)), .second, .val (.int (1 : Int32))] [(.ref b84)])
      obtain ⟨v166, T166, L166, X166, hQ166, st166⟩ := callV X_230_3_1 hx hZ hown (hw _ (List.mem_of_getElem? (i := 114) rfl)) (hw _ (List.mem_of_getElem? (i := 115) rfl)) (hw _ (List.mem_of_getElem? (i := 117) rfl)) (hw _ (List.mem_of_getElem? (i := 116) rfl)) (hw _ (List.mem_of_getElem? (i := 95) rfl)) (hw _ (List.mem_of_getElem? (i := 118) rfl)) (notFace_of_selects (args := #[]) (mvT hZ (hw _ (List.mem_of_getElem? (i := 117) rfl)))) H230_3_1_E_b84 (by decide) (rm13 l Z a0 hw [] b84 b89 (3 : Int32) ((((0 : Int64) + p2.toInt64) + p3.toInt64) + p4.toInt64) (1 : Int32) (upd (upd (upd (upd (fun _ => .null) 0 (.ref b4)) 1 (.ref b28)) 0 .null) 2 (.ref b55)) b28 h_230_3_1 n0 H230_3_1_Z H230_3_1_E_b84 H230_3_1_F_b84_objects H230_3_1_F_b84_size H230_3_1_F_b84_values H230_3_1_F_b84_handed H230_3_1_A_b89 H230_3_1_E_b28 ge230_3_1_b84 ge230_3_1_b89 ne230_3_1_b84_b89 (⟨by decide, by decide⟩) rfl) e_230_3_1 (W := 0) (by decide) (by decide) (by decide) (by decide) (g := (mkF m 243 #[.val (.int p0), .val (.long q1), .second, .val (.int p2), .val (.int p3), .val (.int p4), .val (.int (3 : Int32)), .val (.int (3 : Int32)), .val (.int (1 : Int32)), .val (.ref b3), .val (.ref b4), .val (.ref b28), .val (.ref b55), .val (.ref b84), .val (.long (g0_189 p2 p3 p4)), .second, .val (.int (1 : Int32))] [(.ref b84)])) rfl (by rw [hml]; rfl) (argsL := []) (rest := []) rfl (lenOf pd_8 rfl) rfl (by show 2 * 0 + _ ≤ _; exact Nat.le_of_eq rfl) (hb hby at_243)
      obtain ⟨rfl, Nq166, K166, Fo166, Ar166, Fs166, Fv166, Fh166⟩ := hQ166
      have N166 := Fr.app N_230_3_1 Nq166
      refine FiniW.st st166 ?_
      show FiniW p e below s _ _ _ T166 (mkF m 246 #[.val (.int p0), .val (.long q1), .second, .val (.int p2), .val (.int p3), .val (.int p4), .val (.int (3 : Int32)), .val (.int (3 : Int32)), .val (.int (1 : Int32)), .val (.ref b3), .val (.ref b4), .val (.ref b28), .val (.ref b55), .val (.ref b84), .val (.long (g0_189 p2 p3 p4)), .second, .val (.int (1 : Int32))] [(.ref b28)])
      refine FiniW.st (fun _ k => XS.aload X166.here hx rfl (hb hby at_246) rfl rfl k) ?_
      show FiniW p e below s _ _ _ T166 (mkF m 248 #[.val (.int p0), .val (.long q1), .second, .val (.int p2), .val (.int p3), .val (.int p4), .val (.int (3 : Int32)), .val (.int (3 : Int32)), .val (.int (1 : Int32)), .val (.ref b3), .val (.ref b4), .val (.ref b28), .val (.ref b55), .val (.ref b84), .val (.long (g0_189 p2 p3 p4)), .second, .val (.int (1 : Int32))] [(.ref b28), (.ref b28)])
      refine FiniW.st (fun _ k => Jvm.RoadKit.acmp (g := (mkF m 248 #[.val (.int p0), .val (.long q1), .second, .val (.int p2), .val (.int p3), .val (.int p4), .val (.int (3 : Int32)), .val (.int (3 : Int32)), .val (.int (1 : Int32)), .val (.ref b3), .val (.ref b4), .val (.ref b28), .val (.ref b55), .val (.ref b84), .val (.long (g0_189 p2 p3 p4)), .second, .val (.int (1 : Int32))] [(.ref b28), (.ref b28)])) X166 hx rfl rfl rfl (pc0 := 248) (pc' := 251) (same := true) rfl (hb hby at_248) rfl (decide_eq_true rfl) (by decide) (by decide) k) ?_
      show FiniW p e below s _ _ _ T166 (mkF m 251 #[.val (.int p0), .val (.long q1), .second, .val (.int p2), .val (.int p3), .val (.int p4), .val (.int (3 : Int32)), .val (.int (3 : Int32)), .val (.int (1 : Int32)), .val (.ref b3), .val (.ref b4), .val (.ref b28), .val (.ref b55), .val (.ref b84), .val (.long (g0_189 p2 p3 p4)), .second, .val (.int (1 : Int32))] [])
      refine FiniW.st (fun _ k => XS.iconst X166.here hx rfl (hb hby at_251) k) ?_
      show FiniW p e below s _ _ _ T166 (mkF m 252 #[.val (.int p0), .val (.long q1), .second, .val (.int p2), .val (.int p3), .val (.int p4), .val (.int (3 : Int32)), .val (.int (3 : Int32)), .val (.int (1 : Int32)), .val (.ref b3), .val (.ref b4), .val (.ref b28), .val (.ref b55), .val (.ref b84), .val (.long (g0_189 p2 p3 p4)), .second, .val (.int (1 : Int32))] [(.int (1 : Int32))])
      refine FiniW.st (fun _ k => XS.goto X166.here hx rfl (pc0 := 252) (pc' := 256) rfl (hb hby at_252) (by decide) (by decide) k) ?_
      show FiniW p e below s _ _ _ T166 (mkF m 256 #[.val (.int p0), .val (.long q1), .second, .val (.int p2), .val (.int p3), .val (.int p4), .val (.int (3 : Int32)), .val (.int (3 : Int32)), .val (.int (1 : Int32)), .val (.ref b3), .val (.ref b4), .val (.ref b28), .val (.ref b55), .val (.ref b84), .val (.long (g0_189 p2 p3 p4)), .second, .val (.int (1 : Int32))] [(.int (1 : Int32))])
      refine FiniW.st (fun _ k => XS.istore X166.here hx rfl (hb hby at_256) rfl (l' := #[.val (.int p0), .val (.long q1), .second, .val (.int p2), .val (.int p3), .val (.int p4), .val (.int (3 : Int32)), .val (.int (3 : Int32)), .val (.int (1 : Int32)), .val (.ref b3), .val (.ref b4), .val (.ref b28), .val (.ref b55), .val (.ref b84), .val (.long (g0_189 p2 p3 p4)), .second, .val (.int (1 : Int32))]) rfl k) ?_
      show FiniW p e below s _ _ _ T166 (mkF m 258 #[.val (.int p0), .val (.long q1), .second, .val (.int p2), .val (.int p3), .val (.int p4), .val (.int (3 : Int32)), .val (.int (3 : Int32)), .val (.int (1 : Int32)), .val (.ref b3), .val (.ref b4), .val (.ref b28), .val (.ref b55), .val (.ref b84), .val (.long (g0_189 p2 p3 p4)), .second, .val (.int (1 : Int32))] [])
      refine FiniW.st (fun _ k => XS.iload X166.here hx rfl (hb hby at_258) rfl k) ?_
      show FiniW p e below s _ _ _ T166 (mkF m 260 #[.val (.int p0), .val (.long q1), .second, .val (.int p2), .val (.int p3), .val (.int p4), .val (.int (3 : Int32)), .val (.int (3 : Int32)), .val (.int (1 : Int32)), .val (.ref b3), .val (.ref b4), .val (.ref b28), .val (.ref b55), .val (.ref b84), .val (.long (g0_189 p2 p3 p4)), .second, .val (.int (1 : Int32))] [(.int (3 : Int32))])
      refine FiniW.st (fun _ k => XS.iconst X166.here hx rfl (hb hby at_260) k) ?_
      show FiniW p e below s _ _ _ T166 (mkF m 261 #[.val (.int p0), .val (.long q1), .second, .val (.int p2), .val (.int p3), .val (.int p4), .val (.int (3 : Int32)), .val (.int (3 : Int32)), .val (.int (1 : Int32)), .val (.ref b3), .val (.ref b4), .val (.ref b28), .val (.ref b55), .val (.ref b84), .val (.long (g0_189 p2 p3 p4)), .second, .val (.int (1 : Int32))] [(.int (3 : Int32)), (.int (3 : Int32))])
      refine FiniW.st (fun _ k => XS.icmpNo X166.here hx rfl (hb hby at_261) rfl (XT.ii_lt_f (by decide : ¬ (3 : Int32) < (3 : Int32))) k) ?_
      show FiniW p e below s _ _ _ T166 (mkF m 264 #[.val (.int p0), .val (.long q1), .second, .val (.int p2), .val (.int p3), .val (.int p4), .val (.int (3 : Int32)), .val (.int (3 : Int32)), .val (.int (1 : Int32)), .val (.ref b3), .val (.ref b4), .val (.ref b28), .val (.ref b55), .val (.ref b84), .val (.long (g0_189 p2 p3 p4)), .second, .val (.int (1 : Int32))] [])
      refine FiniW.st (fun _ k => XS.iload X166.here hx rfl (hb hby at_264) rfl k) ?_
      show FiniW p e below s _ _ _ T166 (mkF m 266 #[.val (.int p0), .val (.long q1), .second, .val (.int p2), .val (.int p3), .val (.int p4), .val (.int (3 : Int32)), .val (.int (3 : Int32)), .val (.int (1 : Int32)), .val (.ref b3), .val (.ref b4), .val (.ref b28), .val (.ref b55), .val (.ref b84), .val (.long (g0_189 p2 p3 p4)), .second, .val (.int (1 : Int32))] [(.int (1 : Int32))])
      refine FiniW.st (fun _ k => XS.ifNo X166.here hx rfl (hb hby at_266) rfl (XT.i0_eq_f (by decide : ¬ (1 : Int32) = (0 : Int32))) k) ?_
      show FiniW p e below s _ _ _ T166 (mkF m 269 #[.val (.int p0), .val (.long q1), .second, .val (.int p2), .val (.int p3), .val (.int p4), .val (.int (3 : Int32)), .val (.int (3 : Int32)), .val (.int (1 : Int32)), .val (.ref b3), .val (.ref b4), .val (.ref b28), .val (.ref b55), .val (.ref b84), .val (.long (g0_189 p2 p3 p4)), .second, .val (.int (1 : Int32))] [])
      refine FiniW.st (fun _ k => XS.aload X166.here hx rfl (hb hby at_269) rfl rfl k) ?_
      show FiniW p e below s _ _ _ T166 (mkF m 271 #[.val (.int p0), .val (.long q1), .second, .val (.int p2), .val (.int p3), .val (.int p4), .val (.int (3 : Int32)), .val (.int (3 : Int32)), .val (.int (1 : Int32)), .val (.ref b3), .val (.ref b4), .val (.ref b28), .val (.ref b55), .val (.ref b84), .val (.long (g0_189 p2 p3 p4)), .second, .val (.int (1 : Int32))] [(.ref b84)])
      have Zs_168 : n0 ≤ T166.heap.size := (Nat.le_trans H230_3_1_Z K166.1)
      have Ex_169 : Exa Z T166.heap b84 "com/example/mapcodex/mapcodex/pbf/ObjectBatch" := (H230_3_1_E_b84.keep K166)
      have Ex_170 : Exa Z T166.heap b55 "com/example/mapcodex/mapcodex/osm/Way" := (H230_3_1_E_b55.keep K166)
      obtain ⟨v167, T167, L167, X167, hQ167, st167⟩ := callV X166 hx hZ hown (hw _ (List.mem_of_getElem? (i := 114) rfl)) (hw _ (List.mem_of_getElem? (i := 115) rfl)) (hw _ (List.mem_of_getElem? (i := 117) rfl)) (hw _ (List.mem_of_getElem? (i := 116) rfl)) (hw _ (List.mem_of_getElem? (i := 95) rfl)) (hw _ (List.mem_of_getElem? (i := 118) rfl)) (notFace_of_selects (args := #[]) (mvT hZ (hw _ (List.mem_of_getElem? (i := 117) rfl)))) Ex_169 (by decide) (rm13 l Z a0 hw [] b84 b89 (3 : Int32) ((((0 : Int64) + p2.toInt64) + p3.toInt64) + p4.toInt64) (2 : Int32) (upd (upd (upd (upd (upd (fun _ => .null) 0 (.ref b4)) 1 (.ref b28)) 0 .null) 2 (.ref b55)) 1 .null) b55 T166.heap n0 Zs_168 Ex_169 Fo166 Fs166 Fv166 Fh166 Ar166 Ex_170 ge230_3_1_b84 ge230_3_1_b89 ne230_3_1_b84_b89 (⟨by decide, by decide⟩) rfl) rfl (W := 0) (by decide) (by decide) (by decide) (by decide) (g := (mkF m 271 #[.val (.int p0), .val (.long q1), .second, .val (.int p2), .val (.int p3), .val (.int p4), .val (.int (3 : Int32)), .val (.int (3 : Int32)), .val (.int (1 : Int32)), .val (.ref b3), .val (.ref b4), .val (.ref b28), .val (.ref b55), .val (.ref b84), .val (.long (g0_189 p2 p3 p4)), .second, .val (.int (1 : Int32))] [(.ref b84)])) rfl (by rw [hml]; rfl) (argsL := []) (rest := []) rfl (lenOf pd_8 rfl) rfl (by show 2 * 0 + _ ≤ _; exact Nat.le_of_eq rfl) (hb hby at_271)
      obtain ⟨rfl, Nq167, K167, Fo167, Ar167, Fs167, Fv167, Fh167⟩ := hQ167
      have N167 := Fr.app N166 Nq167
      refine FiniW.st st167 ?_
      show FiniW p e below s _ _ _ T167 (mkF m 274 #[.val (.int p0), .val (.long q1), .second, .val (.int p2), .val (.int p3), .val (.int p4), .val (.int (3 : Int32)), .val (.int (3 : Int32)), .val (.int (1 : Int32)), .val (.ref b3), .val (.ref b4), .val (.ref b28), .val (.ref b55), .val (.ref b84), .val (.long (g0_189 p2 p3 p4)), .second, .val (.int (1 : Int32))] [(.ref b55)])
      refine FiniW.st (fun _ k => XS.aload X167.here hx rfl (hb hby at_274) rfl rfl k) ?_
      show FiniW p e below s _ _ _ T167 (mkF m 276 #[.val (.int p0), .val (.long q1), .second, .val (.int p2), .val (.int p3), .val (.int p4), .val (.int (3 : Int32)), .val (.int (3 : Int32)), .val (.int (1 : Int32)), .val (.ref b3), .val (.ref b4), .val (.ref b28), .val (.ref b55), .val (.ref b84), .val (.long (g0_189 p2 p3 p4)), .second, .val (.int (1 : Int32))] [(.ref b55), (.ref b55)])
      refine FiniW.st (fun _ k => Jvm.RoadKit.acmp (g := (mkF m 276 #[.val (.int p0), .val (.long q1), .second, .val (.int p2), .val (.int p3), .val (.int p4), .val (.int (3 : Int32)), .val (.int (3 : Int32)), .val (.int (1 : Int32)), .val (.ref b3), .val (.ref b4), .val (.ref b28), .val (.ref b55), .val (.ref b84), .val (.long (g0_189 p2 p3 p4)), .second, .val (.int (1 : Int32))] [(.ref b55), (.ref b55)])) X167 hx rfl rfl rfl (pc0 := 276) (pc' := 279) (same := true) rfl (hb hby at_276) rfl (decide_eq_true rfl) (by decide) (by decide) k) ?_
      show FiniW p e below s _ _ _ T167 (mkF m 279 #[.val (.int p0), .val (.long q1), .second, .val (.int p2), .val (.int p3), .val (.int p4), .val (.int (3 : Int32)), .val (.int (3 : Int32)), .val (.int (1 : Int32)), .val (.ref b3), .val (.ref b4), .val (.ref b28), .val (.ref b55), .val (.ref b84), .val (.long (g0_189 p2 p3 p4)), .second, .val (.int (1 : Int32))] [])
      refine FiniW.st (fun _ k => XS.iconst X167.here hx rfl (hb hby at_279) k) ?_
      show FiniW p e below s _ _ _ T167 (mkF m 280 #[.val (.int p0), .val (.long q1), .second, .val (.int p2), .val (.int p3), .val (.int p4), .val (.int (3 : Int32)), .val (.int (3 : Int32)), .val (.int (1 : Int32)), .val (.ref b3), .val (.ref b4), .val (.ref b28), .val (.ref b55), .val (.ref b84), .val (.long (g0_189 p2 p3 p4)), .second, .val (.int (1 : Int32))] [(.int (1 : Int32))])
      refine FiniW.st (fun _ k => XS.goto X167.here hx rfl (pc0 := 280) (pc' := 284) rfl (hb hby at_280) (by decide) (by decide) k) ?_
      show FiniW p e below s _ _ _ T167 (mkF m 284 #[.val (.int p0), .val (.long q1), .second, .val (.int p2), .val (.int p3), .val (.int p4), .val (.int (3 : Int32)), .val (.int (3 : Int32)), .val (.int (1 : Int32)), .val (.ref b3), .val (.ref b4), .val (.ref b28), .val (.ref b55), .val (.ref b84), .val (.long (g0_189 p2 p3 p4)), .second, .val (.int (1 : Int32))] [(.int (1 : Int32))])
      refine FiniW.st (fun _ k => XS.istore X167.here hx rfl (hb hby at_284) rfl (l' := #[.val (.int p0), .val (.long q1), .second, .val (.int p2), .val (.int p3), .val (.int p4), .val (.int (3 : Int32)), .val (.int (3 : Int32)), .val (.int (1 : Int32)), .val (.ref b3), .val (.ref b4), .val (.ref b28), .val (.ref b55), .val (.ref b84), .val (.long (g0_189 p2 p3 p4)), .second, .val (.int (1 : Int32))]) rfl k) ?_
      show FiniW p e below s _ _ _ T167 (mkF m 286 #[.val (.int p0), .val (.long q1), .second, .val (.int p2), .val (.int p3), .val (.int p4), .val (.int (3 : Int32)), .val (.int (3 : Int32)), .val (.int (1 : Int32)), .val (.ref b3), .val (.ref b4), .val (.ref b28), .val (.ref b55), .val (.ref b84), .val (.long (g0_189 p2 p3 p4)), .second, .val (.int (1 : Int32))] [])
      refine FiniW.st (fun _ k => XS.iload X167.here hx rfl (hb hby at_286) rfl k) ?_
      show FiniW p e below s _ _ _ T167 (mkF m 288 #[.val (.int p0), .val (.long q1), .second, .val (.int p2), .val (.int p3), .val (.int p4), .val (.int (3 : Int32)), .val (.int (3 : Int32)), .val (.int (1 : Int32)), .val (.ref b3), .val (.ref b4), .val (.ref b28), .val (.ref b55), .val (.ref b84), .val (.long (g0_189 p2 p3 p4)), .second, .val (.int (1 : Int32))] [(.int (1 : Int32))])
      refine FiniW.st (fun _ k => XS.ifNo X167.here hx rfl (hb hby at_288) rfl (XT.i0_eq_f (by decide : ¬ (1 : Int32) = (0 : Int32))) k) ?_
      show FiniW p e below s _ _ _ T167 (mkF m 291 #[.val (.int p0), .val (.long q1), .second, .val (.int p2), .val (.int p3), .val (.int p4), .val (.int (3 : Int32)), .val (.int (3 : Int32)), .val (.int (1 : Int32)), .val (.ref b3), .val (.ref b4), .val (.ref b28), .val (.ref b55), .val (.ref b84), .val (.long (g0_189 p2 p3 p4)), .second, .val (.int (1 : Int32))] [])
      refine FiniW.st (fun _ k => XS.aload X167.here hx rfl (hb hby at_291) rfl rfl k) ?_
      show FiniW p e below s _ _ _ T167 (mkF m 293 #[.val (.int p0), .val (.long q1), .second, .val (.int p2), .val (.int p3), .val (.int p4), .val (.int (3 : Int32)), .val (.int (3 : Int32)), .val (.int (1 : Int32)), .val (.ref b3), .val (.ref b4), .val (.ref b28), .val (.ref b55), .val (.ref b84), .val (.long (g0_189 p2 p3 p4)), .second, .val (.int (1 : Int32))] [(.ref b84)])
      have Ex_172 : Exa Z T167.heap b84 "com/example/mapcodex/mapcodex/pbf/ObjectBatch" := (Ex_169.keep K167)
      obtain ⟨T171, X171, e171, st171⟩ := pureV X167 hx hZ hown (hw _ (List.mem_of_getElem? (i := 123) rfl)) (hw _ (List.mem_of_getElem? (i := 124) rfl)) (hw _ (List.mem_of_getElem? (i := 126) rfl)) (hw _ (List.mem_of_getElem? (i := 125) rfl)) (hw _ (List.mem_of_getElem? (i := 95) rfl)) (hw _ (List.mem_of_getElem? (i := 127) rfl)) (notFace_of_selects (args := #[]) (mvT hZ (hw _ (List.mem_of_getElem? (i := 126) rfl)))) Ex_172 (by decide) (rm14 l Z a0 hw [] b84 (3 : Int32) (3 : Int32) T167.heap Fs167 Fh167) rfl (W := 0) (by decide) (by decide) (by decide) (by decide) (g := (mkF m 293 #[.val (.int p0), .val (.long q1), .second, .val (.int p2), .val (.int p3), .val (.int p4), .val (.int (3 : Int32)), .val (.int (3 : Int32)), .val (.int (1 : Int32)), .val (.ref b3), .val (.ref b4), .val (.ref b28), .val (.ref b55), .val (.ref b84), .val (.long (g0_189 p2 p3 p4)), .second, .val (.int (1 : Int32))] [(.ref b84)])) rfl (by rw [hml]; rfl) (argsL := []) (rest := []) rfl (lenOf pd_9 rfl) rfl (by show 2 * 0 + _ ≤ _; exact Nat.le_of_eq rfl) (hb hby at_293)
      refine FiniW.st st171 ?_
      show FiniW p e below s _ _ _ T171 (mkF m 296 #[.val (.int p0), .val (.long q1), .second, .val (.int p2), .val (.int p3), .val (.int p4), .val (.int (3 : Int32)), .val (.int (3 : Int32)), .val (.int (1 : Int32)), .val (.ref b3), .val (.ref b4), .val (.ref b28), .val (.ref b55), .val (.ref b84), .val (.long (g0_189 p2 p3 p4)), .second, .val (.int (1 : Int32))] [(.int (0 : Int32))])
      refine FiniW.st (fun _ k => XS.iload X171.here hx rfl (hb hby at_296) rfl k) ?_
      show FiniW p e below s _ _ _ T171 (mkF m 298 #[.val (.int p0), .val (.long q1), .second, .val (.int p2), .val (.int p3), .val (.int p4), .val (.int (3 : Int32)), .val (.int (3 : Int32)), .val (.int (1 : Int32)), .val (.ref b3), .val (.ref b4), .val (.ref b28), .val (.ref b55), .val (.ref b84), .val (.long (g0_189 p2 p3 p4)), .second, .val (.int (1 : Int32))] [(.int (3 : Int32)), (.int (0 : Int32))])
      refine FiniW.st (fun _ k => XS.iload X171.here hx rfl (hb hby at_298) rfl k) ?_
      show FiniW p e below s _ _ _ T171 (mkF m 300 #[.val (.int p0), .val (.long q1), .second, .val (.int p2), .val (.int p3), .val (.int p4), .val (.int (3 : Int32)), .val (.int (3 : Int32)), .val (.int (1 : Int32)), .val (.ref b3), .val (.ref b4), .val (.ref b28), .val (.ref b55), .val (.ref b84), .val (.long (g0_189 p2 p3 p4)), .second, .val (.int (1 : Int32))] [(.int (3 : Int32)), (.int (3 : Int32)), (.int (0 : Int32))])
      refine FiniW.st (fun _ k => XS.icmpYes X171.here hx rfl (pc0 := 300) (pc' := 307) rfl (hb hby at_300) rfl (XT.ii_ge_t (by decide : ¬ (3 : Int32) < (3 : Int32))) (by decide) (by decide) k) ?_
      show FiniW p e below s _ _ _ T171 (mkF m 307 #[.val (.int p0), .val (.long q1), .second, .val (.int p2), .val (.int p3), .val (.int p4), .val (.int (3 : Int32)), .val (.int (3 : Int32)), .val (.int (1 : Int32)), .val (.ref b3), .val (.ref b4), .val (.ref b28), .val (.ref b55), .val (.ref b84), .val (.long (g0_189 p2 p3 p4)), .second, .val (.int (1 : Int32))] [(.int (0 : Int32))])
      refine FiniW.st (fun _ k => XS.iconst X171.here hx rfl (hb hby at_307) k) ?_
      show FiniW p e below s _ _ _ T171 (mkF m 308 #[.val (.int p0), .val (.long q1), .second, .val (.int p2), .val (.int p3), .val (.int p4), .val (.int (3 : Int32)), .val (.int (3 : Int32)), .val (.int (1 : Int32)), .val (.ref b3), .val (.ref b4), .val (.ref b28), .val (.ref b55), .val (.ref b84), .val (.long (g0_189 p2 p3 p4)), .second, .val (.int (1 : Int32))] [(.int (0 : Int32)), (.int (0 : Int32))])
      refine FiniW.st (fun _ k => XS.icmpNo X171.here hx rfl (hb hby at_308) rfl (XT.ii_ne_f (by decide : (0 : Int32) = (0 : Int32))) k) ?_
      show FiniW p e below s _ _ _ T171 (mkF m 311 #[.val (.int p0), .val (.long q1), .second, .val (.int p2), .val (.int p3), .val (.int p4), .val (.int (3 : Int32)), .val (.int (3 : Int32)), .val (.int (1 : Int32)), .val (.ref b3), .val (.ref b4), .val (.ref b28), .val (.ref b55), .val (.ref b84), .val (.long (g0_189 p2 p3 p4)), .second, .val (.int (1 : Int32))] [])
      refine FiniW.st (fun _ k => XS.iconst X171.here hx rfl (hb hby at_311) k) ?_
      show FiniW p e below s _ _ _ T171 (mkF m 312 #[.val (.int p0), .val (.long q1), .second, .val (.int p2), .val (.int p3), .val (.int p4), .val (.int (3 : Int32)), .val (.int (3 : Int32)), .val (.int (1 : Int32)), .val (.ref b3), .val (.ref b4), .val (.ref b28), .val (.ref b55), .val (.ref b84), .val (.long (g0_189 p2 p3 p4)), .second, .val (.int (1 : Int32))] [(.int (1 : Int32))])
      refine FiniW.st (fun _ k => XS.goto X171.here hx rfl (pc0 := 312) (pc' := 316) rfl (hb hby at_312) (by decide) (by decide) k) ?_
      show FiniW p e below s _ _ _ T171 (mkF m 316 #[.val (.int p0), .val (.long q1), .second, .val (.int p2), .val (.int p3), .val (.int p4), .val (.int (3 : Int32)), .val (.int (3 : Int32)), .val (.int (1 : Int32)), .val (.ref b3), .val (.ref b4), .val (.ref b28), .val (.ref b55), .val (.ref b84), .val (.long (g0_189 p2 p3 p4)), .second, .val (.int (1 : Int32))] [(.int (1 : Int32))])
      refine FiniW.st (fun _ k => XS.istore X171.here hx rfl (hb hby at_316) rfl (l' := #[.val (.int p0), .val (.long q1), .second, .val (.int p2), .val (.int p3), .val (.int p4), .val (.int (3 : Int32)), .val (.int (3 : Int32)), .val (.int (1 : Int32)), .val (.ref b3), .val (.ref b4), .val (.ref b28), .val (.ref b55), .val (.ref b84), .val (.long (g0_189 p2 p3 p4)), .second, .val (.int (1 : Int32))]) rfl k) ?_
      show FiniW p e below s _ _ _ T171 (mkF m 318 #[.val (.int p0), .val (.long q1), .second, .val (.int p2), .val (.int p3), .val (.int p4), .val (.int (3 : Int32)), .val (.int (3 : Int32)), .val (.int (1 : Int32)), .val (.ref b3), .val (.ref b4), .val (.ref b28), .val (.ref b55), .val (.ref b84), .val (.long (g0_189 p2 p3 p4)), .second, .val (.int (1 : Int32))] [])
      refine FiniW.st (fun _ k => XS.iload X171.here hx rfl (hb hby at_318) rfl k) ?_
      show FiniW p e below s _ _ _ T171 (mkF m 320 #[.val (.int p0), .val (.long q1), .second, .val (.int p2), .val (.int p3), .val (.int p4), .val (.int (3 : Int32)), .val (.int (3 : Int32)), .val (.int (1 : Int32)), .val (.ref b3), .val (.ref b4), .val (.ref b28), .val (.ref b55), .val (.ref b84), .val (.long (g0_189 p2 p3 p4)), .second, .val (.int (1 : Int32))] [(.int (1 : Int32))])
      refine FiniW.st (fun _ k => XS.ifNo X171.here hx rfl (hb hby at_320) rfl (XT.i0_eq_f (by decide : ¬ (1 : Int32) = (0 : Int32))) k) ?_
      show FiniW p e below s _ _ _ T171 (mkF m 323 #[.val (.int p0), .val (.long q1), .second, .val (.int p2), .val (.int p3), .val (.int p4), .val (.int (3 : Int32)), .val (.int (3 : Int32)), .val (.int (1 : Int32)), .val (.ref b3), .val (.ref b4), .val (.ref b28), .val (.ref b55), .val (.ref b84), .val (.long (g0_189 p2 p3 p4)), .second, .val (.int (1 : Int32))] [])
      refine FiniW.st (fun _ k => XS.aload X171.here hx rfl (hb hby at_323) rfl rfl k) ?_
      show FiniW p e below s _ _ _ T171 (mkF m 325 #[.val (.int p0), .val (.long q1), .second, .val (.int p2), .val (.int p3), .val (.int p4), .val (.int (3 : Int32)), .val (.int (3 : Int32)), .val (.int (1 : Int32)), .val (.ref b3), .val (.ref b4), .val (.ref b28), .val (.ref b55), .val (.ref b84), .val (.long (g0_189 p2 p3 p4)), .second, .val (.int (1 : Int32))] [(.ref b84)])
      obtain ⟨T173, X173, e173, st173⟩ := pureV X171 hx hZ hown (hw _ (List.mem_of_getElem? (i := 128) rfl)) (hw _ (List.mem_of_getElem? (i := 129) rfl)) (hw _ (List.mem_of_getElem? (i := 131) rfl)) (hw _ (List.mem_of_getElem? (i := 130) rfl)) (hw _ (List.mem_of_getElem? (i := 95) rfl)) (hw _ (List.mem_of_getElem? (i := 132) rfl)) (notFace_of_selects (args := #[]) (mvT hZ (hw _ (List.mem_of_getElem? (i := 131) rfl)))) Ex_172 (by decide) (rm15 l Z a0 hw [] b84 ((((0 : Int64) + p2.toInt64) + p3.toInt64) + p4.toInt64) T167.heap Fv167) e171 (W := 0) (by decide) (by decide) (by decide) (by decide) (g := (mkF m 325 #[.val (.int p0), .val (.long q1), .second, .val (.int p2), .val (.int p3), .val (.int p4), .val (.int (3 : Int32)), .val (.int (3 : Int32)), .val (.int (1 : Int32)), .val (.ref b3), .val (.ref b4), .val (.ref b28), .val (.ref b55), .val (.ref b84), .val (.long (g0_189 p2 p3 p4)), .second, .val (.int (1 : Int32))] [(.ref b84)])) rfl (by rw [hml]; rfl) (argsL := []) (rest := []) rfl (lenOf pd_10 rfl) rfl (by show 2 * 0 + _ ≤ _; exact Nat.le_of_eq rfl) (hb hby at_325)
      refine FiniW.st st173 ?_
      show FiniW p e below s _ _ _ T173 (mkF m 328 #[.val (.int p0), .val (.long q1), .second, .val (.int p2), .val (.int p3), .val (.int p4), .val (.int (3 : Int32)), .val (.int (3 : Int32)), .val (.int (1 : Int32)), .val (.ref b3), .val (.ref b4), .val (.ref b28), .val (.ref b55), .val (.ref b84), .val (.long (g0_189 p2 p3 p4)), .second, .val (.int (1 : Int32))] [(.long ((((0 : Int64) + p2.toInt64) + p3.toInt64) + p4.toInt64))])
      refine FiniW.st (fun _ k => XS.lload X173.here hx rfl (hb hby at_328) rfl k) ?_
      show FiniW p e below s _ _ _ T173 (mkF m 330 #[.val (.int p0), .val (.long q1), .second, .val (.int p2), .val (.int p3), .val (.int p4), .val (.int (3 : Int32)), .val (.int (3 : Int32)), .val (.int (1 : Int32)), .val (.ref b3), .val (.ref b4), .val (.ref b28), .val (.ref b55), .val (.ref b84), .val (.long (g0_189 p2 p3 p4)), .second, .val (.int (1 : Int32))] [(.long (g0_189 p2 p3 p4)), (.long ((((0 : Int64) + p2.toInt64) + p3.toInt64) + p4.toInt64))])
      refine FiniW.st (fun _ k => XT.lcmp X173.here hx rfl (hb hby at_330) rfl k) ?_
      show FiniW p e below s _ _ _ T173 (mkF m 331 #[.val (.int p0), .val (.long q1), .second, .val (.int p2), .val (.int p3), .val (.int p4), .val (.int (3 : Int32)), .val (.int (3 : Int32)), .val (.int (1 : Int32)), .val (.ref b3), .val (.ref b4), .val (.ref b28), .val (.ref b55), .val (.ref b84), .val (.long (g0_189 p2 p3 p4)), .second, .val (.int (1 : Int32))] [(.int (XT.cmpL ((((0 : Int64) + p2.toInt64) + p3.toInt64) + p4.toInt64) (g0_189 p2 p3 p4)))])
      refine FiniW.st (fun _ k => XS.ifNo X173.here hx rfl (hb hby at_331) rfl (XT.ll_ne_f (show ((((0 : Int64) + p2.toInt64) + p3.toInt64) + p4.toInt64) = (g0_189 p2 p3 p4) by first | (rw [Int64.zero_add]; done) | (rw [Int64.zero_add]; rfl))) k) ?_
      show FiniW p e below s _ _ _ T173 (mkF m 334 #[.val (.int p0), .val (.long q1), .second, .val (.int p2), .val (.int p3), .val (.int p4), .val (.int (3 : Int32)), .val (.int (3 : Int32)), .val (.int (1 : Int32)), .val (.ref b3), .val (.ref b4), .val (.ref b28), .val (.ref b55), .val (.ref b84), .val (.long (g0_189 p2 p3 p4)), .second, .val (.int (1 : Int32))] [])
      refine FiniW.st (fun _ k => XS.iconst X173.here hx rfl (hb hby at_334) k) ?_
      show FiniW p e below s _ _ _ T173 (mkF m 335 #[.val (.int p0), .val (.long q1), .second, .val (.int p2), .val (.int p3), .val (.int p4), .val (.int (3 : Int32)), .val (.int (3 : Int32)), .val (.int (1 : Int32)), .val (.ref b3), .val (.ref b4), .val (.ref b28), .val (.ref b55), .val (.ref b84), .val (.long (g0_189 p2 p3 p4)), .second, .val (.int (1 : Int32))] [(.int (1 : Int32))])
      refine FiniW.st (fun _ k => XS.goto X173.here hx rfl (pc0 := 335) (pc' := 339) rfl (hb hby at_335) (by decide) (by decide) k) ?_
      show FiniW p e below s _ _ _ T173 (mkF m 339 #[.val (.int p0), .val (.long q1), .second, .val (.int p2), .val (.int p3), .val (.int p4), .val (.int (3 : Int32)), .val (.int (3 : Int32)), .val (.int (1 : Int32)), .val (.ref b3), .val (.ref b4), .val (.ref b28), .val (.ref b55), .val (.ref b84), .val (.long (g0_189 p2 p3 p4)), .second, .val (.int (1 : Int32))] [(.int (1 : Int32))])
      refine FiniW.st (fun _ k => XS.istore X173.here hx rfl (hb hby at_339) rfl (l' := #[.val (.int p0), .val (.long q1), .second, .val (.int p2), .val (.int p3), .val (.int p4), .val (.int (3 : Int32)), .val (.int (3 : Int32)), .val (.int (1 : Int32)), .val (.ref b3), .val (.ref b4), .val (.ref b28), .val (.ref b55), .val (.ref b84), .val (.long (g0_189 p2 p3 p4)), .second, .val (.int (1 : Int32))]) rfl k) ?_
      show FiniW p e below s _ _ _ T173 (mkF m 341 #[.val (.int p0), .val (.long q1), .second, .val (.int p2), .val (.int p3), .val (.int p4), .val (.int (3 : Int32)), .val (.int (3 : Int32)), .val (.int (1 : Int32)), .val (.ref b3), .val (.ref b4), .val (.ref b28), .val (.ref b55), .val (.ref b84), .val (.long (g0_189 p2 p3 p4)), .second, .val (.int (1 : Int32))] [])
      refine FiniW.st (fun _ k => XS.iload X173.here hx rfl (hb hby at_341) rfl k) ?_
      show FiniW p e below s _ _ _ T173 (mkF m 343 #[.val (.int p0), .val (.long q1), .second, .val (.int p2), .val (.int p3), .val (.int p4), .val (.int (3 : Int32)), .val (.int (3 : Int32)), .val (.int (1 : Int32)), .val (.ref b3), .val (.ref b4), .val (.ref b28), .val (.ref b55), .val (.ref b84), .val (.long (g0_189 p2 p3 p4)), .second, .val (.int (1 : Int32))] [(.int (1 : Int32))])
      have Zs_174 : kk_230_3_1 ≤ T167.heap.size := (Nat.le_trans (Nat.le_trans H230_3_1_G K166.1) K167.1)
      exact FiniW.retN X173 hx hlk (t := .boolean) Bd.returns (by simp) (hb hby at_343) nb1 hS_230_3_1 (by rw [e173]; exact Zs_174) (by decide) (by decide) ⟨rfl, N167⟩
  have B40 : ∀ (T_40 : State) (h_40 : Heap) (locs : List Loc) (vm_40 : Vm) (kk_40 : Nat) (X_40 : Stand p l e room_1 (s.setVm vm_40) m #[(.int p0), (.long q1), (.int p2), (.int p3), (.int p4)] below meth c T_40 locs 0 0) (e_40 : T_40.heap = h_40) (hZ_40 : Z.Warmed39 (s.setVm vm_40).vm) (hown_40 : (s.setVm vm_40).vm.findClass "com/example/mapcodex/mapcodex/pbf/ObjectBatchNextPinLaw" = some m.cls) (hS_40 : s.Since vm_40 kk_40) (N_40 : Fr n0 locs) (H40_D : Old Z n0 h_40) (H40_S_java_util_ArrayList_DEFAULTCAPACITY_EMPTY_ELEMENTDATA : Sta Z Z.heap "java/util/ArrayList" "DEFAULTCAPACITY_EMPTY_ELEMENTDATA" "[Ljava/lang/Object;" (.ref dd)) (H40_S_java_util_ImmutableCollections_EMPTY_LIST : Sta Z Z.heap "java/util/ImmutableCollections" "EMPTY_LIST" "Ljava/util/ImmutableCollections$ListN;" (.ref el)) (H40_S_com_example_mapcodex_mapcodex_osm_Metadata_NONE : Sta Z Z.heap "com/example/mapcodex/mapcodex/osm/Metadata" "NONE" "Lcom/example/mapcodex/mapcodex/osm/Metadata;" (.ref md)) (H40_E_md : Exa Z h_40 md "com/example/mapcodex/mapcodex/osm/Metadata") (H40_Z : n0 ≤ h_40.size) (H40_G : kk_40 ≤ h_40.size), FiniW p e below s (fun v h' L => v = some (.int 1) ∧ Fr n0 L) (Room.cells room_1) (Room.slots room_1) T_40 (mkF m 40 #[.val (.int p0), .val (.long q1), .second, .val (.int p2), .val (.int p3), .val (.int p4), .val (.int (g0_7 p0)), .val (.int (g0_19 p0)), .unset, .unset, .unset, .unset, .unset, .unset, .unset, .unset, .unset] [(.int (own_late p0))]) := by
    intro T_40 h_40 locs vm_40 kk_40 X_40 e_40 hZ_40 hown_40 hS_40  N_40 H40_D H40_S_java_util_ArrayList_DEFAULTCAPACITY_EMPTY_ELEMENTDATA H40_S_java_util_ImmutableCollections_EMPTY_LIST H40_S_com_example_mapcodex_mapcodex_osm_Metadata_NONE H40_E_md H40_Z H40_G 
    have hZ := hZ_40
    have hown := hown_40
    refine FiniW.st (fun _ k => XS.istore X_40.here hx rfl (hb hby at_40) rfl (l' := #[.val (.int p0), .val (.long q1), .second, .val (.int p2), .val (.int p3), .val (.int p4), .val (.int (g0_7 p0)), .val (.int (g0_19 p0)), .val (.int (own_late p0)), .unset, .unset, .unset, .unset, .unset, .unset, .unset, .unset]) rfl k) ?_
    show FiniW p e below s _ _ _ T_40 (mkF m 42 #[.val (.int p0), .val (.long q1), .second, .val (.int p2), .val (.int p3), .val (.int p4), .val (.int (g0_7 p0)), .val (.int (g0_19 p0)), .val (.int (own_late p0)), .unset, .unset, .unset, .unset, .unset, .unset, .unset, .unset] [])
    refine FiniW.st (fun _ k => XS.iconst X_40.here hx rfl (hb hby at_42) k) ?_
    show FiniW p e below s _ _ _ T_40 (mkF m 43 #[.val (.int p0), .val (.long q1), .second, .val (.int p2), .val (.int p3), .val (.int p4), .val (.int (g0_7 p0)), .val (.int (g0_19 p0)), .val (.int (own_late p0)), .unset, .unset, .unset, .unset, .unset, .unset, .unset, .unset] [(.int (0 : Int32))])
    obtain ⟨T3, h3, k3, X3, e3, E3, A3, Ea3, st3⟩ := newPE X_40 hx hZ (hw _ (List.mem_of_getElem? (i := 0) rfl)) e_40 (g := (mkF m 43 #[.val (.int p0), .val (.long q1), .second, .val (.int p2), .val (.int p3), .val (.int p4), .val (.int (g0_7 p0)), .val (.int (g0_19 p0)), .val (.int (own_late p0)), .unset, .unset, .unset, .unset, .unset, .unset, .unset, .unset] [(.int (0 : Int32))])) rfl (hb hby at_43) rfl (by decide) (cap := 0) (by decide) (by decide) (by decide) (by decide) (ad := "[J") (by decide)
    obtain ⟨b3, g3⟩ : ∃ z, z = h_40.size := ⟨_, rfl⟩
    rw [← g3] at A3 st3 Ea3
    have ne_md_b3 : md ≠ b3 := Nat.ne_of_lt (Nat.lt_of_lt_of_le H40_E_md.lt (Nat.le_of_eq g3.symm))
    have ge_b3 : n0 ≤ b3 := Nat.le_trans H40_Z (Nat.le_of_eq g3.symm)
    have Ar3 : AryJ Z h3 b3 (0 : Int32) (fun _ => 0) := AryJ.new A3 (by decide)
    refine FiniW.st st3 ?_
    show FiniW p e below s _ _ _ T3 (mkF m 45 #[.val (.int p0), .val (.long q1), .second, .val (.int p2), .val (.int p3), .val (.int p4), .val (.int (g0_7 p0)), .val (.int (g0_19 p0)), .val (.int (own_late p0)), .unset, .unset, .unset, .unset, .unset, .unset, .unset, .unset] [(.ref b3)])
    refine FiniW.st (fun _ k => XS.astore X3.here hx rfl (hb hby at_45) rfl rfl (l' := #[.val (.int p0), .val (.long q1), .second, .val (.int p2), .val (.int p3), .val (.int p4), .val (.int (g0_7 p0)), .val (.int (g0_19 p0)), .val (.int (own_late p0)), .val (.ref b3), .unset, .unset, .unset, .unset, .unset, .unset, .unset]) rfl k) ?_
    show FiniW p e below s _ _ _ T3 (mkF m 47 #[.val (.int p0), .val (.long q1), .second, .val (.int p2), .val (.int p3), .val (.int p4), .val (.int (g0_7 p0)), .val (.int (g0_19 p0)), .val (.int (own_late p0)), .val (.ref b3), .unset, .unset, .unset, .unset, .unset, .unset, .unset] [])
    obtain ⟨T4, h4, X4, e4, E4, A4, D4, -, st4⟩ := newO X3 hx hZ hown (hw _ (List.mem_of_getElem? (i := 1) rfl)) (hw _ (List.mem_of_getElem? (i := 2) rfl)) (hw _ (List.mem_of_getElem? (i := 3) rfl)) e3 (g := (mkF m 47 #[.val (.int p0), .val (.long q1), .second, .val (.int p2), .val (.int p3), .val (.int p4), .val (.int (g0_7 p0)), .val (.int (g0_19 p0)), .val (.int (own_late p0)), .val (.ref b3), .unset, .unset, .unset, .unset, .unset, .unset, .unset] [])) rfl (hb hby at_47) (by decide) (by decide)
    obtain ⟨b4, g4⟩ : ∃ z, z = h3.size := ⟨_, rfl⟩
    rw [← g4] at A4 D4 st4
    have Ex_5 : Exa Z h3 md "com/example/mapcodex/mapcodex/osm/Metadata" := (H40_E_md.ext E3)
    have ne_md_b4 : md ≠ b4 := Nat.ne_of_lt (Nat.lt_of_lt_of_le Ex_5.lt (Nat.le_of_eq g4.symm))
    have ne_b3_b4 : b3 ≠ b4 := Nat.ne_of_lt (Nat.lt_of_lt_of_le Ea3.lt (Nat.le_of_eq g4.symm))
    have Zs_6 : n0 ≤ h3.size := (Nat.le_trans H40_Z E3.1)
    have ge_b4 : n0 ≤ b4 := Nat.le_trans Zs_6 (Nat.le_of_eq g4.symm)
    have Fn4_id : Fld Z h4 b4 "com/example/mapcodex/mapcodex/osm/Way" "id" "J" (.long (0 : Int64)) := D4 (Or.inr (hw _ (List.mem_of_getElem? (i := 50) rfl))) (ty := .long) (by decide)
    have Fn4_nodes : Fld Z h4 b4 "com/example/mapcodex/mapcodex/osm/Way" "nodes" "[J" .null := D4 (Or.inr (hw _ (List.mem_of_getElem? (i := 52) rfl))) (ty := (.array .long)) (by decide)
    have Fn4_tags : Fld Z h4 b4 "com/example/mapcodex/mapcodex/osm/Way" "tags" "Ljava/util/List;" .null := D4 (Or.inr (hw _ (List.mem_of_getElem? (i := 75) rfl))) (ty := (.object "java/util/List")) (by decide)
    have Fn4_metadata : Fld Z h4 b4 "com/example/mapcodex/mapcodex/osm/Way" "metadata" "Lcom/example/mapcodex/mapcodex/osm/Metadata;" .null := D4 (Or.inr (hw _ (List.mem_of_getElem? (i := 91) rfl))) (ty := (.object "com/example/mapcodex/mapcodex/osm/Metadata")) (by decide)
    refine FiniW.st st4 ?_
    show FiniW p e below s _ _ _ T4 (mkF m 50 #[.val (.int p0), .val (.long q1), .second, .val (.int p2), .val (.int p3), .val (.int p4), .val (.int (g0_7 p0)), .val (.int (g0_19 p0)), .val (.int (own_late p0)), .val (.ref b3), .unset, .unset, .unset, .unset, .unset, .unset, .unset] [(.ref b4)])
    refine FiniW.st (fun _ k => XS.dup X4.here hx rfl (hb hby at_50) rfl rfl k) ?_
    show FiniW p e below s _ _ _ T4 (mkF m 51 #[.val (.int p0), .val (.long q1), .second, .val (.int p2), .val (.int p3), .val (.int p4), .val (.int (g0_7 p0)), .val (.int (g0_19 p0)), .val (.int (own_late p0)), .val (.ref b3), .unset, .unset, .unset, .unset, .unset, .unset, .unset] [(.ref b4), (.ref b4)])
    refine FiniW.st (fun _ k => XS.lloadN X4.here hx rfl (hb hby at_51) rfl k) ?_
    show FiniW p e below s _ _ _ T4 (mkF m 52 #[.val (.int p0), .val (.long q1), .second, .val (.int p2), .val (.int p3), .val (.int p4), .val (.int (g0_7 p0)), .val (.int (g0_19 p0)), .val (.int (own_late p0)), .val (.ref b3), .unset, .unset, .unset, .unset, .unset, .unset, .unset] [(.long q1), (.ref b4), (.ref b4)])
    refine FiniW.st (fun _ k => XS.aload X4.here hx rfl (hb hby at_52) rfl rfl k) ?_
    show FiniW p e below s _ _ _ T4 (mkF m 54 #[.val (.int p0), .val (.long q1), .second, .val (.int p2), .val (.int p3), .val (.int p4), .val (.int (g0_7 p0)), .val (.int (g0_19 p0)), .val (.int (own_late p0)), .val (.ref b3), .unset, .unset, .unset, .unset, .unset, .unset, .unset] [(.ref b3), (.long q1), (.ref b4), (.ref b4)])
    obtain ⟨T7, h7, X7, e7, E7, A7, D7, -, st7⟩ := newO X4 hx hZ hown (hw _ (List.mem_of_getElem? (i := 4) rfl)) (hw _ (List.mem_of_getElem? (i := 5) rfl)) (hw _ (List.mem_of_getElem? (i := 6) rfl)) e4 (g := (mkF m 54 #[.val (.int p0), .val (.long q1), .second, .val (.int p2), .val (.int p3), .val (.int p4), .val (.int (g0_7 p0)), .val (.int (g0_19 p0)), .val (.int (own_late p0)), .val (.ref b3), .unset, .unset, .unset, .unset, .unset, .unset, .unset] [(.ref b3), (.long q1), (.ref b4), (.ref b4)])) rfl (hb hby at_54) (by decide) (by decide)
    obtain ⟨b7, g7⟩ : ∃ z, z = h4.size := ⟨_, rfl⟩
    rw [← g7] at A7 D7 st7
    have Ex_8 : Exa Z h4 md "com/example/mapcodex/mapcodex/osm/Metadata" := (Ex_5.ext E4)
    have ne_md_b7 : md ≠ b7 := Nat.ne_of_lt (Nat.lt_of_lt_of_le Ex_8.lt (Nat.le_of_eq g7.symm))
    have Ex_9 : Exa Z h4 b3 "[J" := (Ea3.ext E4)
    have ne_b3_b7 : b3 ≠ b7 := Nat.ne_of_lt (Nat.lt_of_lt_of_le Ex_9.lt (Nat.le_of_eq g7.symm))
    have ne_b4_b7 : b4 ≠ b7 := Nat.ne_of_lt (Nat.lt_of_lt_of_le A4.lt (Nat.le_of_eq g7.symm))
    have Zs_10 : n0 ≤ h4.size := (Nat.le_trans Zs_6 E4.1)
    have ge_b7 : n0 ≤ b7 := Nat.le_trans Zs_10 (Nat.le_of_eq g7.symm)
    have Fn7_modCount : Fld Z h7 b7 "java/util/AbstractList" "modCount" "I" (.int (0 : Int32)) := D7 (Or.inl (hw _ (List.mem_of_getElem? (i := 26) rfl))) (ty := .int) (by decide)
    have Fn7_elementData : Fld Z h7 b7 "java/util/ArrayList" "elementData" "[Ljava/lang/Object;" .null := D7 (Or.inl (hw _ (List.mem_of_getElem? (i := 29) rfl))) (ty := (.array (.object "java/lang/Object"))) (by decide)
    have Fn7_size : Fld Z h7 b7 "java/util/ArrayList" "size" "I" (.int (0 : Int32)) := D7 (Or.inl (hw _ (List.mem_of_getElem? (i := 67) rfl))) (ty := .int) (by decide)
    refine FiniW.st st7 ?_
    show FiniW p e below s _ _ _ T7 (mkF m 57 #[.val (.int p0), .val (.long q1), .second, .val (.int p2), .val (.int p3), .val (.int p4), .val (.int (g0_7 p0)), .val (.int (g0_19 p0)), .val (.int (own_late p0)), .val (.ref b3), .unset, .unset, .unset, .unset, .unset, .unset, .unset] [(.ref b7), (.ref b3), (.long q1), (.ref b4), (.ref b4)])
    refine FiniW.st (fun _ k => XS.dup X7.here hx rfl (hb hby at_57) rfl rfl k) ?_
    show FiniW p e below s _ _ _ T7 (mkF m 58 #[.val (.int p0), .val (.long q1), .second, .val (.int p2), .val (.int p3), .val (.int p4), .val (.int (g0_7 p0)), .val (.int (g0_19 p0)), .val (.int (own_late p0)), .val (.ref b3), .unset, .unset, .unset, .unset, .unset, .unset, .unset] [(.ref b7), (.ref b7), (.ref b3), (.long q1), (.ref b4), (.ref b4)])
    have Zs_12 : n0 ≤ h7.size := (Nat.le_trans Zs_10 E7.1)
    have Od_13 : Old Z n0 h7 := (Old.ext (Old.ext (Old.ext H40_D E3) E4) E7)
    obtain ⟨v11, T11, L11, X11, hQ11, st11⟩ := callNew X7 hx hZ hown rfl (hw _ (List.mem_of_getElem? (i := 7) rfl)) (hw _ (List.mem_of_getElem? (i := 8) rfl)) (hw _ (List.mem_of_getElem? (i := 6) rfl)) (hw _ (List.mem_of_getElem? (i := 9) rfl)) (by decide) (rm1 l Z a0 hw [] b7 dd (0 : Int32) (0 : Int32) h7 n0 Zs_12 A7 Fn7_modCount Fn7_size Fn7_elementData Od_13 S_dd ge_b7) e7 (W := 6) (by decide) (by decide) (by decide) (by decide) (g := (mkF m 58 #[.val (.int p0), .val (.long q1), .second, .val (.int p2), .val (.int p3), .val (.int p4), .val (.int (g0_7 p0)), .val (.int (g0_19 p0)), .val (.int (own_late p0)), .val (.ref b3), .unset, .unset, .unset, .unset, .unset, .unset, .unset] [(.ref b7), (.ref b7), (.ref b3), (.long q1), (.ref b4), (.ref b4)])) rfl (by rw [hml]; rfl) (argsL := []) (rest := [(.ref b7), (.ref b3), (.long q1), (.ref b4), (.ref b4)]) rfl (lenOf pd_0 rfl) rfl (by show 2 * 0 + _ ≤ _; exact Nat.le_of_eq rfl) (hb hby at_58)
    obtain ⟨rfl, Nq11, K11, Fs11⟩ := hQ11
    have N11 := Fr.app N_40 Nq11
    refine FiniW.st st11 ?_
    show FiniW p e below s _ _ _ T11 (mkF m 61 #[.val (.int p0), .val (.long q1), .second, .val (.int p2), .val (.int p3), .val (.int p4), .val (.int (g0_7 p0)), .val (.int (g0_19 p0)), .val (.int (own_late p0)), .val (.ref b3), .unset, .unset, .unset, .unset, .unset, .unset, .unset] [(.ref b7), (.ref b3), (.long q1), (.ref b4), (.ref b4)])
    have Od_15 : Old Z n0 T11.heap := (Old.keep Od_13 K11 (allS (P := fun x => n0 ≤ x) ge_b7 all0))
    obtain ⟨T14, X14, e14, st14⟩ := getS2 X11 hx hZ hown (host := "") (Or.inl (hw _ (List.mem_of_getElem? (i := 30) rfl))) Via.refl rfl (Sta.ext Od_15.2 H40_S_com_example_mapcodex_mapcodex_osm_Metadata_NONE) (g := (mkF m 61 #[.val (.int p0), .val (.long q1), .second, .val (.int p2), .val (.int p3), .val (.int p4), .val (.int (g0_7 p0)), .val (.int (g0_19 p0)), .val (.int (own_late p0)), .val (.ref b3), .unset, .unset, .unset, .unset, .unset, .unset, .unset] [(.ref b7), (.ref b3), (.long q1), (.ref b4), (.ref b4)])) rfl (hb hby at_61)
    refine FiniW.st st14 ?_
    show FiniW p e below s _ _ _ T14 (mkF m 64 #[.val (.int p0), .val (.long q1), .second, .val (.int p2), .val (.int p3), .val (.int p4), .val (.int (g0_7 p0)), .val (.int (g0_19 p0)), .val (.int (own_late p0)), .val (.ref b3), .unset, .unset, .unset, .unset, .unset, .unset, .unset] [(.ref md), (.ref b7), (.ref b3), (.long q1), (.ref b4), (.ref b4)])
    have Zs_17 : n0 ≤ T11.heap.size := (Nat.le_trans Zs_12 K11.1)
    have Ex_18 : Exa Z T11.heap b4 "com/example/mapcodex/mapcodex/osm/Way" := ((A4.ext E7).keep K11)
    have F_19 : Fld Z T11.heap b4 "com/example/mapcodex/mapcodex/osm/Way" "id" "J" (.long (0 : Int64)) := ((Fn4_id.ext E7).keep K11 (ninS ne_b4_b7 nin0))
    have F_20 : Fld Z T11.heap b4 "com/example/mapcodex/mapcodex/osm/Way" "nodes" "[J" .null := ((Fn4_nodes.ext E7).keep K11 (ninS ne_b4_b7 nin0))
    have F_21 : Fld Z T11.heap b4 "com/example/mapcodex/mapcodex/osm/Way" "tags" "Ljava/util/List;" .null := ((Fn4_tags.ext E7).keep K11 (ninS ne_b4_b7 nin0))
    have F_22 : Fld Z T11.heap b4 "com/example/mapcodex/mapcodex/osm/Way" "metadata" "Lcom/example/mapcodex/mapcodex/osm/Metadata;" .null := ((Fn4_metadata.ext E7).keep K11 (ninS ne_b4_b7 nin0))
    have Ex_23 : Exa Z T11.heap b3 "[J" := ((Ex_9.ext E7).keep K11)
    have Ar_24 : AryJ Z T11.heap b3 (0 : Int32) (fun _ => 0) := (((Ar3.ext E4).ext E7).keep K11 (ninS ne_b3_b7 nin0))
    have Ex_25 : Exa Z T11.heap b7 "java/util/ArrayList" := (A7.keep K11)
    have Ex_26 : Exa Z T11.heap md "com/example/mapcodex/mapcodex/osm/Metadata" := ((Ex_8.ext E7).keep K11)
    have Zs_27 : kk_40 ≤ T11.heap.size := (Nat.le_trans (Nat.le_trans (Nat.le_trans (Nat.le_trans H40_G E3.1) E4.1) E7.1) K11.1)
    obtain ⟨v16, T16, L16, X16, hS16, hZ16, hown16, hQ16, st16⟩ := callNewW X14 hx hZ hown hS_40 Zs_27 rfl (hw _ (List.mem_of_getElem? (i := 33) rfl)) (hw _ (List.mem_of_getElem? (i := 34) rfl)) (hw _ (List.mem_of_getElem? (i := 3) rfl)) (hw _ (List.mem_of_getElem? (i := 35) rfl)) (by decide) (rm5 l Z a0 hw [] b4 q1 b3 b7 md el (fun _ => 0) T11.heap n0 Zs_17 Ex_18 F_19 F_20 F_21 F_22 Ex_23 Ar_24 Ex_25 Fs11 Ex_26 Od_15 S_el ge_b4 (Ne.symm ne_b4_b7)) e14 (W := 1) (by decide) (by decide) (by decide) (by decide) (g := (mkF m 64 #[.val (.int p0), .val (.long q1), .second, .val (.int p2), .val (.int p3), .val (.int p4), .val (.int (g0_7 p0)), .val (.int (g0_19 p0)), .val (.int (own_late p0)), .val (.ref b3), .unset, .unset, .unset, .unset, .unset, .unset, .unset] [(.ref md), (.ref b7), (.ref b3), (.long q1), (.ref b4), (.ref b4)])) rfl (by rw [hml]; rfl) (argsL := [(.long q1), (.ref b3), (.ref b7), (.ref md)]) (rest := [(.ref b4)]) rfl (lenOf pd_6 rfl) rfl (by show 2 * 0 + _ ≤ _; exact Nat.le_of_eq rfl) (hb hby at_64)
    obtain ⟨rfl, Nq16, K16⟩ := hQ16
    have N16 := Fr.app N11 Nq16
    have hZ := hZ16
    have hown := hown16
    refine FiniW.st st16 ?_
    show FiniW p e below s _ _ _ T16 (mkF m 67 #[.val (.int p0), .val (.long q1), .second, .val (.int p2), .val (.int p3), .val (.int p4), .val (.int (g0_7 p0)), .val (.int (g0_19 p0)), .val (.int (own_late p0)), .val (.ref b3), .unset, .unset, .unset, .unset, .unset, .unset, .unset] [(.ref b4)])
    refine FiniW.st (fun _ k => XS.astore X16.here hx rfl (hb hby at_67) rfl rfl (l' := #[.val (.int p0), .val (.long q1), .second, .val (.int p2), .val (.int p3), .val (.int p4), .val (.int (g0_7 p0)), .val (.int (g0_19 p0)), .val (.int (own_late p0)), .val (.ref b3), .val (.ref b4), .unset, .unset, .unset, .unset, .unset, .unset]) rfl k) ?_
    show FiniW p e below s _ _ _ T16 (mkF m 69 #[.val (.int p0), .val (.long q1), .second, .val (.int p2), .val (.int p3), .val (.int p4), .val (.int (g0_7 p0)), .val (.int (g0_19 p0)), .val (.int (own_late p0)), .val (.ref b3), .val (.ref b4), .unset, .unset, .unset, .unset, .unset, .unset] [])
    obtain ⟨T28, h28, X28, e28, E28, A28, D28, -, st28⟩ := newO X16 hx hZ hown (hw _ (List.mem_of_getElem? (i := 1) rfl)) (hw _ (List.mem_of_getElem? (i := 2) rfl)) (hw _ (List.mem_of_getElem? (i := 3) rfl)) rfl (g := (mkF m 69 #[.val (.int p0), .val (.long q1), .second, .val (.int p2), .val (.int p3), .val (.int p4), .val (.int (g0_7 p0)), .val (.int (g0_19 p0)), .val (.int (own_late p0)), .val (.ref b3), .val (.ref b4), .unset, .unset, .unset, .unset, .unset, .unset] [])) rfl (hb hby at_69) (by decide) (by decide)
    obtain ⟨b28, g28⟩ : ∃ z, z = T16.heap.size := ⟨_, rfl⟩
    rw [← g28] at A28 D28 st28
    have Ex_29 : Exa Z T16.heap md "com/example/mapcodex/mapcodex/osm/Metadata" := (Ex_26.keep K16)
    have ne_md_b28 : md ≠ b28 := Nat.ne_of_lt (Nat.lt_of_lt_of_le Ex_29.lt (Nat.le_of_eq g28.symm))
    have Ex_30 : Exa Z T16.heap b3 "[J" := (Ex_23.keep K16)
    have ne_b3_b28 : b3 ≠ b28 := Nat.ne_of_lt (Nat.lt_of_lt_of_le Ex_30.lt (Nat.le_of_eq g28.symm))
    have Ex_31 : Exa Z T16.heap b4 "com/example/mapcodex/mapcodex/osm/Way" := (Ex_18.keep K16)
    have ne_b4_b28 : b4 ≠ b28 := Nat.ne_of_lt (Nat.lt_of_lt_of_le Ex_31.lt (Nat.le_of_eq g28.symm))
    have Zs_32 : n0 ≤ T16.heap.size := (Nat.le_trans Zs_17 K16.1)
    have ge_b28 : n0 ≤ b28 := Nat.le_trans Zs_32 (Nat.le_of_eq g28.symm)
    have Fn28_id : Fld Z h28 b28 "com/example/mapcodex/mapcodex/osm/Way" "id" "J" (.long (0 : Int64)) := D28 (Or.inr (hw _ (List.mem_of_getElem? (i := 50) rfl))) (ty := .long) (by decide)
    have Fn28_nodes : Fld Z h28 b28 "com/example/mapcodex/mapcodex/osm/Way" "nodes" "[J" .null := D28 (Or.inr (hw _ (List.mem_of_getElem? (i := 52) rfl))) (ty := (.array .long)) (by decide)
    have Fn28_tags : Fld Z h28 b28 "com/example/mapcodex/mapcodex/osm/Way" "tags" "Ljava/util/List;" .null := D28 (Or.inr (hw _ (List.mem_of_getElem? (i := 75) rfl))) (ty := (.object "java/util/List")) (by decide)
    have Fn28_metadata : Fld Z h28 b28 "com/example/mapcodex/mapcodex/osm/Way" "metadata" "Lcom/example/mapcodex/mapcodex/osm/Metadata;" .null := D28 (Or.inr (hw _ (List.mem_of_getElem? (i := 91) rfl))) (ty := (.object "com/example/mapcodex/mapcodex/osm/Metadata")) (by decide)
    refine FiniW.st st28 ?_
    show FiniW p e below s _ _ _ T28 (mkF m 72 #[.val (.int p0), .val (.long q1), .second, .val (.int p2), .val (.int p3), .val (.int p4), .val (.int (g0_7 p0)), .val (.int (g0_19 p0)), .val (.int (own_late p0)), .val (.ref b3), .val (.ref b4), .unset, .unset, .unset, .unset, .unset, .unset] [(.ref b28)])
    refine FiniW.st (fun _ k => XS.dup X28.here hx rfl (hb hby at_72) rfl rfl k) ?_
    show FiniW p e below s _ _ _ T28 (mkF m 73 #[.val (.int p0), .val (.long q1), .second, .val (.int p2), .val (.int p3), .val (.int p4), .val (.int (g0_7 p0)), .val (.int (g0_19 p0)), .val (.int (own_late p0)), .val (.ref b3), .val (.ref b4), .unset, .unset, .unset, .unset, .unset, .unset] [(.ref b28), (.ref b28)])
    refine FiniW.st (fun _ k => XS.lloadN X28.here hx rfl (hb hby at_73) rfl k) ?_
    show FiniW p e below s _ _ _ T28 (mkF m 74 #[.val (.int p0), .val (.long q1), .second, .val (.int p2), .val (.int p3), .val (.int p4), .val (.int (g0_7 p0)), .val (.int (g0_19 p0)), .val (.int (own_late p0)), .val (.ref b3), .val (.ref b4), .unset, .unset, .unset, .unset, .unset, .unset] [(.long q1), (.ref b28), (.ref b28)])
    refine FiniW.st (fun _ k => XS.lconst X28.here hx rfl (hb hby at_74) k) ?_
    show FiniW p e below s _ _ _ T28 (mkF m 75 #[.val (.int p0), .val (.long q1), .second, .val (.int p2), .val (.int p3), .val (.int p4), .val (.int (g0_7 p0)), .val (.int (g0_19 p0)), .val (.int (own_late p0)), .val (.ref b3), .val (.ref b4), .unset, .unset, .unset, .unset, .unset, .unset] [(.long (1 : Int64)), (.long q1), (.ref b28), (.ref b28)])
    refine FiniW.st (fun _ k => XS.ladd X28.here hx rfl (hb hby at_75) rfl k) ?_
    show FiniW p e below s _ _ _ T28 (mkF m 76 #[.val (.int p0), .val (.long q1), .second, .val (.int p2), .val (.int p3), .val (.int p4), .val (.int (g0_7 p0)), .val (.int (g0_19 p0)), .val (.int (own_late p0)), .val (.ref b3), .val (.ref b4), .unset, .unset, .unset, .unset, .unset, .unset] [(.long (q1 + (1 : Int64))), (.ref b28), (.ref b28)])
    refine FiniW.st (fun _ k => XS.aload X28.here hx rfl (hb hby at_76) rfl rfl k) ?_
    show FiniW p e below s _ _ _ T28 (mkF m 78 #[.val (.int p0), .val (.long q1), .second, .val (.int p2), .val (.int p3), .val (.int p4), .val (.int (g0_7 p0)), .val (.int (g0_19 p0)), .val (.int (own_late p0)), .val (.ref b3), .val (.ref b4), .unset, .unset, .unset, .unset, .unset, .unset] [(.ref b3), (.long (q1 + (1 : Int64))), (.ref b28), (.ref b28)])
    obtain ⟨T33, h33, X33, e33, E33, A33, D33, -, st33⟩ := newO X28 hx hZ hown (hw _ (List.mem_of_getElem? (i := 4) rfl)) (hw _ (List.mem_of_getElem? (i := 5) rfl)) (hw _ (List.mem_of_getElem? (i := 6) rfl)) e28 (g := (mkF m 78 #[.val (.int p0), .val (.long q1), .second, .val (.int p2), .val (.int p3), .val (.int p4), .val (.int (g0_7 p0)), .val (.int (g0_19 p0)), .val (.int (own_late p0)), .val (.ref b3), .val (.ref b4), .unset, .unset, .unset, .unset, .unset, .unset] [(.ref b3), (.long (q1 + (1 : Int64))), (.ref b28), (.ref b28)])) rfl (hb hby at_78) (by decide) (by decide)
    obtain ⟨b33, g33⟩ : ∃ z, z = h28.size := ⟨_, rfl⟩
    rw [← g33] at A33 D33 st33
    have Ex_34 : Exa Z h28 md "com/example/mapcodex/mapcodex/osm/Metadata" := (Ex_29.ext E28)
    have ne_md_b33 : md ≠ b33 := Nat.ne_of_lt (Nat.lt_of_lt_of_le Ex_34.lt (Nat.le_of_eq g33.symm))
    have Ex_35 : Exa Z h28 b3 "[J" := (Ex_30.ext E28)
    have ne_b3_b33 : b3 ≠ b33 := Nat.ne_of_lt (Nat.lt_of_lt_of_le Ex_35.lt (Nat.le_of_eq g33.symm))
    have Ex_36 : Exa Z h28 b4 "com/example/mapcodex/mapcodex/osm/Way" := (Ex_31.ext E28)
    have ne_b4_b33 : b4 ≠ b33 := Nat.ne_of_lt (Nat.lt_of_lt_of_le Ex_36.lt (Nat.le_of_eq g33.symm))
    have ne_b28_b33 : b28 ≠ b33 := Nat.ne_of_lt (Nat.lt_of_lt_of_le A28.lt (Nat.le_of_eq g33.symm))
    have Zs_37 : n0 ≤ h28.size := (Nat.le_trans Zs_32 E28.1)
    have ge_b33 : n0 ≤ b33 := Nat.le_trans Zs_37 (Nat.le_of_eq g33.symm)
    have Fn33_modCount : Fld Z h33 b33 "java/util/AbstractList" "modCount" "I" (.int (0 : Int32)) := D33 (Or.inl (hw _ (List.mem_of_getElem? (i := 26) rfl))) (ty := .int) (by decide)
    have Fn33_elementData : Fld Z h33 b33 "java/util/ArrayList" "elementData" "[Ljava/lang/Object;" .null := D33 (Or.inl (hw _ (List.mem_of_getElem? (i := 29) rfl))) (ty := (.array (.object "java/lang/Object"))) (by decide)
    have Fn33_size : Fld Z h33 b33 "java/util/ArrayList" "size" "I" (.int (0 : Int32)) := D33 (Or.inl (hw _ (List.mem_of_getElem? (i := 67) rfl))) (ty := .int) (by decide)
    refine FiniW.st st33 ?_
    show FiniW p e below s _ _ _ T33 (mkF m 81 #[.val (.int p0), .val (.long q1), .second, .val (.int p2), .val (.int p3), .val (.int p4), .val (.int (g0_7 p0)), .val (.int (g0_19 p0)), .val (.int (own_late p0)), .val (.ref b3), .val (.ref b4), .unset, .unset, .unset, .unset, .unset, .unset] [(.ref b33), (.ref b3), (.long (q1 + (1 : Int64))), (.ref b28), (.ref b28)])
    refine FiniW.st (fun _ k => XS.dup X33.here hx rfl (hb hby at_81) rfl rfl k) ?_
    show FiniW p e below s _ _ _ T33 (mkF m 82 #[.val (.int p0), .val (.long q1), .second, .val (.int p2), .val (.int p3), .val (.int p4), .val (.int (g0_7 p0)), .val (.int (g0_19 p0)), .val (.int (own_late p0)), .val (.ref b3), .val (.ref b4), .unset, .unset, .unset, .unset, .unset, .unset] [(.ref b33), (.ref b33), (.ref b3), (.long (q1 + (1 : Int64))), (.ref b28), (.ref b28)])
    have Zs_39 : n0 ≤ h33.size := (Nat.le_trans Zs_37 E33.1)
    have Od_40 : Old Z n0 h33 := (Old.ext (Old.ext (Old.keep Od_15 K16 (allS (P := fun x => n0 ≤ x) ge_b4 all0)) E28) E33)
    obtain ⟨v38, T38, L38, X38, hQ38, st38⟩ := callNew X33 hx hZ hown rfl (hw _ (List.mem_of_getElem? (i := 7) rfl)) (hw _ (List.mem_of_getElem? (i := 8) rfl)) (hw _ (List.mem_of_getElem? (i := 6) rfl)) (hw _ (List.mem_of_getElem? (i := 9) rfl)) (by decide) (rm1 l Z a0 hw [] b33 dd (0 : Int32) (0 : Int32) h33 n0 Zs_39 A33 Fn33_modCount Fn33_size Fn33_elementData Od_40 S_dd ge_b33) e33 (W := 6) (by decide) (by decide) (by decide) (by decide) (g := (mkF m 82 #[.val (.int p0), .val (.long q1), .second, .val (.int p2), .val (.int p3), .val (.int p4), .val (.int (g0_7 p0)), .val (.int (g0_19 p0)), .val (.int (own_late p0)), .val (.ref b3), .val (.ref b4), .unset, .unset, .unset, .unset, .unset, .unset] [(.ref b33), (.ref b33), (.ref b3), (.long (q1 + (1 : Int64))), (.ref b28), (.ref b28)])) rfl (by rw [hml]; rfl) (argsL := []) (rest := [(.ref b33), (.ref b3), (.long (q1 + (1 : Int64))), (.ref b28), (.ref b28)]) rfl (lenOf pd_0 rfl) rfl (by show 2 * 0 + _ ≤ _; exact Nat.le_of_eq rfl) (hb hby at_82)
    obtain ⟨rfl, Nq38, K38, Fs38⟩ := hQ38
    have N38 := Fr.app N16 Nq38
    refine FiniW.st st38 ?_
    show FiniW p e below s _ _ _ T38 (mkF m 85 #[.val (.int p0), .val (.long q1), .second, .val (.int p2), .val (.int p3), .val (.int p4), .val (.int (g0_7 p0)), .val (.int (g0_19 p0)), .val (.int (own_late p0)), .val (.ref b3), .val (.ref b4), .unset, .unset, .unset, .unset, .unset, .unset] [(.ref b33), (.ref b3), (.long (q1 + (1 : Int64))), (.ref b28), (.ref b28)])
    have Od_42 : Old Z n0 T38.heap := (Old.keep Od_40 K38 (allS (P := fun x => n0 ≤ x) ge_b33 all0))
    obtain ⟨T41, X41, e41, st41⟩ := getS2 X38 hx hZ hown (host := "") (Or.inl (hw _ (List.mem_of_getElem? (i := 30) rfl))) Via.refl rfl (Sta.ext Od_42.2 H40_S_com_example_mapcodex_mapcodex_osm_Metadata_NONE) (g := (mkF m 85 #[.val (.int p0), .val (.long q1), .second, .val (.int p2), .val (.int p3), .val (.int p4), .val (.int (g0_7 p0)), .val (.int (g0_19 p0)), .val (.int (own_late p0)), .val (.ref b3), .val (.ref b4), .unset, .unset, .unset, .unset, .unset, .unset] [(.ref b33), (.ref b3), (.long (q1 + (1 : Int64))), (.ref b28), (.ref b28)])) rfl (hb hby at_85)
    refine FiniW.st st41 ?_
    show FiniW p e below s _ _ _ T41 (mkF m 88 #[.val (.int p0), .val (.long q1), .second, .val (.int p2), .val (.int p3), .val (.int p4), .val (.int (g0_7 p0)), .val (.int (g0_19 p0)), .val (.int (own_late p0)), .val (.ref b3), .val (.ref b4), .unset, .unset, .unset, .unset, .unset, .unset] [(.ref md), (.ref b33), (.ref b3), (.long (q1 + (1 : Int64))), (.ref b28), (.ref b28)])
    have Zs_44 : n0 ≤ T38.heap.size := (Nat.le_trans Zs_39 K38.1)
    have Ex_45 : Exa Z T38.heap b28 "com/example/mapcodex/mapcodex/osm/Way" := ((A28.ext E33).keep K38)
    have F_46 : Fld Z T38.heap b28 "com/example/mapcodex/mapcodex/osm/Way" "id" "J" (.long (0 : Int64)) := ((Fn28_id.ext E33).keep K38 (ninS ne_b28_b33 nin0))
    have F_47 : Fld Z T38.heap b28 "com/example/mapcodex/mapcodex/osm/Way" "nodes" "[J" .null := ((Fn28_nodes.ext E33).keep K38 (ninS ne_b28_b33 nin0))
    have F_48 : Fld Z T38.heap b28 "com/example/mapcodex/mapcodex/osm/Way" "tags" "Ljava/util/List;" .null := ((Fn28_tags.ext E33).keep K38 (ninS ne_b28_b33 nin0))
    have F_49 : Fld Z T38.heap b28 "com/example/mapcodex/mapcodex/osm/Way" "metadata" "Lcom/example/mapcodex/mapcodex/osm/Metadata;" .null := ((Fn28_metadata.ext E33).keep K38 (ninS ne_b28_b33 nin0))
    have Ex_50 : Exa Z T38.heap b3 "[J" := ((Ex_35.ext E33).keep K38)
    have Ar_51 : AryJ Z T38.heap b3 (0 : Int32) (fun _ => 0) := ((((Ar_24.keep K16 (ninS ne_b3_b4 nin0)).ext E28).ext E33).keep K38 (ninS ne_b3_b33 nin0))
    have Ex_52 : Exa Z T38.heap b33 "java/util/ArrayList" := (A33.keep K38)
    have Ex_53 : Exa Z T38.heap md "com/example/mapcodex/mapcodex/osm/Metadata" := ((Ex_34.ext E33).keep K38)
    have Zs_54 : T16.heap.size ≤ T38.heap.size := (Nat.le_trans (Nat.le_trans (Nat.le_trans (Nat.le_refl T16.heap.size) E28.1) E33.1) K38.1)
    obtain ⟨v43, T43, L43, X43, hS43, hZ43, hown43, hQ43, st43⟩ := callNewW X41 hx hZ hown hS16 Zs_54 rfl (hw _ (List.mem_of_getElem? (i := 33) rfl)) (hw _ (List.mem_of_getElem? (i := 34) rfl)) (hw _ (List.mem_of_getElem? (i := 3) rfl)) (hw _ (List.mem_of_getElem? (i := 35) rfl)) (by decide) (rm5 l Z a0 hw [] b28 (q1 + (1 : Int64)) b3 b33 md el (fun _ => 0) T38.heap n0 Zs_44 Ex_45 F_46 F_47 F_48 F_49 Ex_50 Ar_51 Ex_52 Fs38 Ex_53 Od_42 S_el ge_b28 (Ne.symm ne_b28_b33)) e41 (W := 1) (by decide) (by decide) (by decide) (by decide) (g := (mkF m 88 #[.val (.int p0), .val (.long q1), .second, .val (.int p2), .val (.int p3), .val (.int p4), .val (.int (g0_7 p0)), .val (.int (g0_19 p0)), .val (.int (own_late p0)), .val (.ref b3), .val (.ref b4), .unset, .unset, .unset, .unset, .unset, .unset] [(.ref md), (.ref b33), (.ref b3), (.long (q1 + (1 : Int64))), (.ref b28), (.ref b28)])) rfl (by rw [hml]; rfl) (argsL := [(.long (q1 + (1 : Int64))), (.ref b3), (.ref b33), (.ref md)]) (rest := [(.ref b28)]) rfl (lenOf pd_6 rfl) rfl (by show 2 * 0 + _ ≤ _; exact Nat.le_of_eq rfl) (hb hby at_88)
    obtain ⟨rfl, Nq43, K43⟩ := hQ43
    have N43 := Fr.app N38 Nq43
    have hZ := hZ43
    have hown := hown43
    refine FiniW.st st43 ?_
    show FiniW p e below s _ _ _ T43 (mkF m 91 #[.val (.int p0), .val (.long q1), .second, .val (.int p2), .val (.int p3), .val (.int p4), .val (.int (g0_7 p0)), .val (.int (g0_19 p0)), .val (.int (own_late p0)), .val (.ref b3), .val (.ref b4), .unset, .unset, .unset, .unset, .unset, .unset] [(.ref b28)])
    refine FiniW.st (fun _ k => XS.astore X43.here hx rfl (hb hby at_91) rfl rfl (l' := #[.val (.int p0), .val (.long q1), .second, .val (.int p2), .val (.int p3), .val (.int p4), .val (.int (g0_7 p0)), .val (.int (g0_19 p0)), .val (.int (own_late p0)), .val (.ref b3), .val (.ref b4), .val (.ref b28), .unset, .unset, .unset, .unset, .unset]) rfl k) ?_
    show FiniW p e below s _ _ _ T43 (mkF m 93 #[.val (.int p0), .val (.long q1), .second, .val (.int p2), .val (.int p3), .val (.int p4), .val (.int (g0_7 p0)), .val (.int (g0_19 p0)), .val (.int (own_late p0)), .val (.ref b3), .val (.ref b4), .val (.ref b28), .unset, .unset, .unset, .unset, .unset] [])
    obtain ⟨T55, h55, X55, e55, E55, A55, D55, -, st55⟩ := newO X43 hx hZ hown (hw _ (List.mem_of_getElem? (i := 1) rfl)) (hw _ (List.mem_of_getElem? (i := 2) rfl)) (hw _ (List.mem_of_getElem? (i := 3) rfl)) rfl (g := (mkF m 93 #[.val (.int p0), .val (.long q1), .second, .val (.int p2), .val (.int p3), .val (.int p4), .val (.int (g0_7 p0)), .val (.int (g0_19 p0)), .val (.int (own_late p0)), .val (.ref b3), .val (.ref b4), .val (.ref b28), .unset, .unset, .unset, .unset, .unset] [])) rfl (hb hby at_93) (by decide) (by decide)
    obtain ⟨b55, g55⟩ : ∃ z, z = T43.heap.size := ⟨_, rfl⟩
    rw [← g55] at A55 D55 st55
    have Ex_56 : Exa Z T43.heap md "com/example/mapcodex/mapcodex/osm/Metadata" := (Ex_53.keep K43)
    have ne_md_b55 : md ≠ b55 := Nat.ne_of_lt (Nat.lt_of_lt_of_le Ex_56.lt (Nat.le_of_eq g55.symm))
    have Ex_57 : Exa Z T43.heap b3 "[J" := (Ex_50.keep K43)
    have ne_b3_b55 : b3 ≠ b55 := Nat.ne_of_lt (Nat.lt_of_lt_of_le Ex_57.lt (Nat.le_of_eq g55.symm))
    have Ex_58 : Exa Z T43.heap b4 "com/example/mapcodex/mapcodex/osm/Way" := (((Ex_36.ext E33).keep K38).keep K43)
    have ne_b4_b55 : b4 ≠ b55 := Nat.ne_of_lt (Nat.lt_of_lt_of_le Ex_58.lt (Nat.le_of_eq g55.symm))
    have Ex_59 : Exa Z T43.heap b28 "com/example/mapcodex/mapcodex/osm/Way" := (Ex_45.keep K43)
    have ne_b28_b55 : b28 ≠ b55 := Nat.ne_of_lt (Nat.lt_of_lt_of_le Ex_59.lt (Nat.le_of_eq g55.symm))
    have Zs_60 : n0 ≤ T43.heap.size := (Nat.le_trans Zs_44 K43.1)
    have ge_b55 : n0 ≤ b55 := Nat.le_trans Zs_60 (Nat.le_of_eq g55.symm)
    have Fn55_id : Fld Z h55 b55 "com/example/mapcodex/mapcodex/osm/Way" "id" "J" (.long (0 : Int64)) := D55 (Or.inr (hw _ (List.mem_of_getElem? (i := 50) rfl))) (ty := .long) (by decide)
    have Fn55_nodes : Fld Z h55 b55 "com/example/mapcodex/mapcodex/osm/Way" "nodes" "[J" .null := D55 (Or.inr (hw _ (List.mem_of_getElem? (i := 52) rfl))) (ty := (.array .long)) (by decide)
    have Fn55_tags : Fld Z h55 b55 "com/example/mapcodex/mapcodex/osm/Way" "tags" "Ljava/util/List;" .null := D55 (Or.inr (hw _ (List.mem_of_getElem? (i := 75) rfl))) (ty := (.object "java/util/List")) (by decide)
    have Fn55_metadata : Fld Z h55 b55 "com/example/mapcodex/mapcodex/osm/Way" "metadata" "Lcom/example/mapcodex/mapcodex/osm/Metadata;" .null := D55 (Or.inr (hw _ (List.mem_of_getElem? (i := 91) rfl))) (ty := (.object "com/example/mapcodex/mapcodex/osm/Metadata")) (by decide)
    refine FiniW.st st55 ?_
    show FiniW p e below s _ _ _ T55 (mkF m 96 #[.val (.int p0), .val (.long q1), .second, .val (.int p2), .val (.int p3), .val (.int p4), .val (.int (g0_7 p0)), .val (.int (g0_19 p0)), .val (.int (own_late p0)), .val (.ref b3), .val (.ref b4), .val (.ref b28), .unset, .unset, .unset, .unset, .unset] [(.ref b55)])
    refine FiniW.st (fun _ k => XS.dup X55.here hx rfl (hb hby at_96) rfl rfl k) ?_
    show FiniW p e below s _ _ _ T55 (mkF m 97 #[.val (.int p0), .val (.long q1), .second, .val (.int p2), .val (.int p3), .val (.int p4), .val (.int (g0_7 p0)), .val (.int (g0_19 p0)), .val (.int (own_late p0)), .val (.ref b3), .val (.ref b4), .val (.ref b28), .unset, .unset, .unset, .unset, .unset] [(.ref b55), (.ref b55)])
    refine FiniW.st (fun _ k => XS.lloadN X55.here hx rfl (hb hby at_97) rfl k) ?_
    show FiniW p e below s _ _ _ T55 (mkF m 98 #[.val (.int p0), .val (.long q1), .second, .val (.int p2), .val (.int p3), .val (.int p4), .val (.int (g0_7 p0)), .val (.int (g0_19 p0)), .val (.int (own_late p0)), .val (.ref b3), .val (.ref b4), .val (.ref b28), .unset, .unset, .unset, .unset, .unset] [(.long q1), (.ref b55), (.ref b55)])
    refine FiniW.st (fun _ k => X55.ldc2J hx hown (mvT hZ (hw _ (List.mem_of_getElem? (i := 92) rfl))) rfl (hb hby at_98) k) ?_
    show FiniW p e below s _ _ _ T55 (mkF m 101 #[.val (.int p0), .val (.long q1), .second, .val (.int p2), .val (.int p3), .val (.int p4), .val (.int (g0_7 p0)), .val (.int (g0_19 p0)), .val (.int (own_late p0)), .val (.ref b3), .val (.ref b4), .val (.ref b28), .unset, .unset, .unset, .unset, .unset] [(.long (2 : Int64)), (.long q1), (.ref b55), (.ref b55)])
    refine FiniW.st (fun _ k => XS.ladd X55.here hx rfl (hb hby at_101) rfl k) ?_
    show FiniW p e below s _ _ _ T55 (mkF m 102 #[.val (.int p0), .val (.long q1), .second, .val (.int p2), .val (.int p3), .val (.int p4), .val (.int (g0_7 p0)), .val (.int (g0_19 p0)), .val (.int (own_late p0)), .val (.ref b3), .val (.ref b4), .val (.ref b28), .unset, .unset, .unset, .unset, .unset] [(.long (q1 + (2 : Int64))), (.ref b55), (.ref b55)])
    refine FiniW.st (fun _ k => XS.aload X55.here hx rfl (hb hby at_102) rfl rfl k) ?_
    show FiniW p e below s _ _ _ T55 (mkF m 104 #[.val (.int p0), .val (.long q1), .second, .val (.int p2), .val (.int p3), .val (.int p4), .val (.int (g0_7 p0)), .val (.int (g0_19 p0)), .val (.int (own_late p0)), .val (.ref b3), .val (.ref b4), .val (.ref b28), .unset, .unset, .unset, .unset, .unset] [(.ref b3), (.long (q1 + (2 : Int64))), (.ref b55), (.ref b55)])
    obtain ⟨T61, h61, X61, e61, E61, A61, D61, -, st61⟩ := newO X55 hx hZ hown (hw _ (List.mem_of_getElem? (i := 4) rfl)) (hw _ (List.mem_of_getElem? (i := 5) rfl)) (hw _ (List.mem_of_getElem? (i := 6) rfl)) e55 (g := (mkF m 104 #[.val (.int p0), .val (.long q1), .second, .val (.int p2), .val (.int p3), .val (.int p4), .val (.int (g0_7 p0)), .val (.int (g0_19 p0)), .val (.int (own_late p0)), .val (.ref b3), .val (.ref b4), .val (.ref b28), .unset, .unset, .unset, .unset, .unset] [(.ref b3), (.long (q1 + (2 : Int64))), (.ref b55), (.ref b55)])) rfl (hb hby at_104) (by decide) (by decide)
    obtain ⟨b61, g61⟩ : ∃ z, z = h55.size := ⟨_, rfl⟩
    rw [← g61] at A61 D61 st61
    have Ex_62 : Exa Z h55 md "com/example/mapcodex/mapcodex/osm/Metadata" := (Ex_56.ext E55)
    have ne_md_b61 : md ≠ b61 := Nat.ne_of_lt (Nat.lt_of_lt_of_le Ex_62.lt (Nat.le_of_eq g61.symm))
    have Ex_63 : Exa Z h55 b3 "[J" := (Ex_57.ext E55)
    have ne_b3_b61 : b3 ≠ b61 := Nat.ne_of_lt (Nat.lt_of_lt_of_le Ex_63.lt (Nat.le_of_eq g61.symm))
    have Ex_64 : Exa Z h55 b4 "com/example/mapcodex/mapcodex/osm/Way" := (Ex_58.ext E55)
    have ne_b4_b61 : b4 ≠ b61 := Nat.ne_of_lt (Nat.lt_of_lt_of_le Ex_64.lt (Nat.le_of_eq g61.symm))
    have Ex_65 : Exa Z h55 b28 "com/example/mapcodex/mapcodex/osm/Way" := (Ex_59.ext E55)
    have ne_b28_b61 : b28 ≠ b61 := Nat.ne_of_lt (Nat.lt_of_lt_of_le Ex_65.lt (Nat.le_of_eq g61.symm))
    have ne_b55_b61 : b55 ≠ b61 := Nat.ne_of_lt (Nat.lt_of_lt_of_le A55.lt (Nat.le_of_eq g61.symm))
    have Zs_66 : n0 ≤ h55.size := (Nat.le_trans Zs_60 E55.1)
    have ge_b61 : n0 ≤ b61 := Nat.le_trans Zs_66 (Nat.le_of_eq g61.symm)
    have Fn61_modCount : Fld Z h61 b61 "java/util/AbstractList" "modCount" "I" (.int (0 : Int32)) := D61 (Or.inl (hw _ (List.mem_of_getElem? (i := 26) rfl))) (ty := .int) (by decide)
    have Fn61_elementData : Fld Z h61 b61 "java/util/ArrayList" "elementData" "[Ljava/lang/Object;" .null := D61 (Or.inl (hw _ (List.mem_of_getElem? (i := 29) rfl))) (ty := (.array (.object "java/lang/Object"))) (by decide)
    have Fn61_size : Fld Z h61 b61 "java/util/ArrayList" "size" "I" (.int (0 : Int32)) := D61 (Or.inl (hw _ (List.mem_of_getElem? (i := 67) rfl))) (ty := .int) (by decide)
    refine FiniW.st st61 ?_
    show FiniW p e below s _ _ _ T61 (mkF m 107 #[.val (.int p0), .val (.long q1), .second, .val (.int p2), .val (.int p3), .val (.int p4), .val (.int (g0_7 p0)), .val (.int (g0_19 p0)), .val (.int (own_late p0)), .val (.ref b3), .val (.ref b4), .val (.ref b28), .unset, .unset, .unset, .unset, .unset] [(.ref b61), (.ref b3), (.long (q1 + (2 : Int64))), (.ref b55), (.ref b55)])
    refine FiniW.st (fun _ k => XS.dup X61.here hx rfl (hb hby at_107) rfl rfl k) ?_
    show FiniW p e below s _ _ _ T61 (mkF m 108 #[.val (.int p0), .val (.long q1), .second, .val (.int p2), .val (.int p3), .val (.int p4), .val (.int (g0_7 p0)), .val (.int (g0_19 p0)), .val (.int (own_late p0)), .val (.ref b3), .val (.ref b4), .val (.ref b28), .unset, .unset, .unset, .unset, .unset] [(.ref b61), (.ref b61), (.ref b3), (.long (q1 + (2 : Int64))), (.ref b55), (.ref b55)])
    have Zs_68 : n0 ≤ h61.size := (Nat.le_trans Zs_66 E61.1)
    have Od_69 : Old Z n0 h61 := (Old.ext (Old.ext (Old.keep Od_42 K43 (allS (P := fun x => n0 ≤ x) ge_b28 all0)) E55) E61)
    obtain ⟨v67, T67, L67, X67, hQ67, st67⟩ := callNew X61 hx hZ hown rfl (hw _ (List.mem_of_getElem? (i := 7) rfl)) (hw _ (List.mem_of_getElem? (i := 8) rfl)) (hw _ (List.mem_of_getElem? (i := 6) rfl)) (hw _ (List.mem_of_getElem? (i := 9) rfl)) (by decide) (rm1 l Z a0 hw [] b61 dd (0 : Int32) (0 : Int32) h61 n0 Zs_68 A61 Fn61_modCount Fn61_size Fn61_elementData Od_69 S_dd ge_b61) e61 (W := 6) (by decide) (by decide) (by decide) (by decide) (g := (mkF m 108 #[.val (.int p0), .val (.long q1), .second, .val (.int p2), .val (.int p3), .val (.int p4), .val (.int (g0_7 p0)), .val (.int (g0_19 p0)), .val (.int (own_late p0)), .val (.ref b3), .val (.ref b4), .val (.ref b28), .unset, .unset, .unset, .unset, .unset] [(.ref b61), (.ref b61), (.ref b3), (.long (q1 + (2 : Int64))), (.ref b55), (.ref b55)])) rfl (by rw [hml]; rfl) (argsL := []) (rest := [(.ref b61), (.ref b3), (.long (q1 + (2 : Int64))), (.ref b55), (.ref b55)]) rfl (lenOf pd_0 rfl) rfl (by show 2 * 0 + _ ≤ _; exact Nat.le_of_eq rfl) (hb hby at_108)
    obtain ⟨rfl, Nq67, K67, Fs67⟩ := hQ67
    have N67 := Fr.app N43 Nq67
    refine FiniW.st st67 ?_
    show FiniW p e below s _ _ _ T67 (mkF m 111 #[.val (.int p0), .val (.long q1), .second, .val (.int p2), .val (.int p3), .val (.int p4), .val (.int (g0_7 p0)), .val (.int (g0_19 p0)), .val (.int (own_late p0)), .val (.ref b3), .val (.ref b4), .val (.ref b28), .unset, .unset, .unset, .unset, .unset] [(.ref b61), (.ref b3), (.long (q1 + (2 : Int64))), (.ref b55), (.ref b55)])
    have Od_71 : Old Z n0 T67.heap := (Old.keep Od_69 K67 (allS (P := fun x => n0 ≤ x) ge_b61 all0))
    obtain ⟨T70, X70, e70, st70⟩ := getS2 X67 hx hZ hown (host := "") (Or.inl (hw _ (List.mem_of_getElem? (i := 30) rfl))) Via.refl rfl (Sta.ext Od_71.2 H40_S_com_example_mapcodex_mapcodex_osm_Metadata_NONE) (g := (mkF m 111 #[.val (.int p0), .val (.long q1), .second, .val (.int p2), .val (.int p3), .val (.int p4), .val (.int (g0_7 p0)), .val (.int (g0_19 p0)), .val (.int (own_late p0)), .val (.ref b3), .val (.ref b4), .val (.ref b28), .unset, .unset, .unset, .unset, .unset] [(.ref b61), (.ref b3), (.long (q1 + (2 : Int64))), (.ref b55), (.ref b55)])) rfl (hb hby at_111)
    refine FiniW.st st70 ?_
    show FiniW p e below s _ _ _ T70 (mkF m 114 #[.val (.int p0), .val (.long q1), .second, .val (.int p2), .val (.int p3), .val (.int p4), .val (.int (g0_7 p0)), .val (.int (g0_19 p0)), .val (.int (own_late p0)), .val (.ref b3), .val (.ref b4), .val (.ref b28), .unset, .unset, .unset, .unset, .unset] [(.ref md), (.ref b61), (.ref b3), (.long (q1 + (2 : Int64))), (.ref b55), (.ref b55)])
    have Zs_73 : n0 ≤ T67.heap.size := (Nat.le_trans Zs_68 K67.1)
    have Ex_74 : Exa Z T67.heap b55 "com/example/mapcodex/mapcodex/osm/Way" := ((A55.ext E61).keep K67)
    have F_75 : Fld Z T67.heap b55 "com/example/mapcodex/mapcodex/osm/Way" "id" "J" (.long (0 : Int64)) := ((Fn55_id.ext E61).keep K67 (ninS ne_b55_b61 nin0))
    have F_76 : Fld Z T67.heap b55 "com/example/mapcodex/mapcodex/osm/Way" "nodes" "[J" .null := ((Fn55_nodes.ext E61).keep K67 (ninS ne_b55_b61 nin0))
    have F_77 : Fld Z T67.heap b55 "com/example/mapcodex/mapcodex/osm/Way" "tags" "Ljava/util/List;" .null := ((Fn55_tags.ext E61).keep K67 (ninS ne_b55_b61 nin0))
    have F_78 : Fld Z T67.heap b55 "com/example/mapcodex/mapcodex/osm/Way" "metadata" "Lcom/example/mapcodex/mapcodex/osm/Metadata;" .null := ((Fn55_metadata.ext E61).keep K67 (ninS ne_b55_b61 nin0))
    have Ex_79 : Exa Z T67.heap b3 "[J" := ((Ex_63.ext E61).keep K67)
    have Ar_80 : AryJ Z T67.heap b3 (0 : Int32) (fun _ => 0) := ((((Ar_51.keep K43 (ninS ne_b3_b28 nin0)).ext E55).ext E61).keep K67 (ninS ne_b3_b61 nin0))
    have Ex_81 : Exa Z T67.heap b61 "java/util/ArrayList" := (A61.keep K67)
    have Ex_82 : Exa Z T67.heap md "com/example/mapcodex/mapcodex/osm/Metadata" := ((Ex_62.ext E61).keep K67)
    have Zs_83 : T43.heap.size ≤ T67.heap.size := (Nat.le_trans (Nat.le_trans (Nat.le_trans (Nat.le_refl T43.heap.size) E55.1) E61.1) K67.1)
    obtain ⟨v72, T72, L72, X72, hS72, hZ72, hown72, hQ72, st72⟩ := callNewW X70 hx hZ hown hS43 Zs_83 rfl (hw _ (List.mem_of_getElem? (i := 33) rfl)) (hw _ (List.mem_of_getElem? (i := 34) rfl)) (hw _ (List.mem_of_getElem? (i := 3) rfl)) (hw _ (List.mem_of_getElem? (i := 35) rfl)) (by decide) (rm5 l Z a0 hw [] b55 (q1 + (2 : Int64)) b3 b61 md el (fun _ => 0) T67.heap n0 Zs_73 Ex_74 F_75 F_76 F_77 F_78 Ex_79 Ar_80 Ex_81 Fs67 Ex_82 Od_71 S_el ge_b55 (Ne.symm ne_b55_b61)) e70 (W := 1) (by decide) (by decide) (by decide) (by decide) (g := (mkF m 114 #[.val (.int p0), .val (.long q1), .second, .val (.int p2), .val (.int p3), .val (.int p4), .val (.int (g0_7 p0)), .val (.int (g0_19 p0)), .val (.int (own_late p0)), .val (.ref b3), .val (.ref b4), .val (.ref b28), .unset, .unset, .unset, .unset, .unset] [(.ref md), (.ref b61), (.ref b3), (.long (q1 + (2 : Int64))), (.ref b55), (.ref b55)])) rfl (by rw [hml]; rfl) (argsL := [(.long (q1 + (2 : Int64))), (.ref b3), (.ref b61), (.ref md)]) (rest := [(.ref b55)]) rfl (lenOf pd_6 rfl) rfl (by show 2 * 0 + _ ≤ _; exact Nat.le_of_eq rfl) (hb hby at_114)
    obtain ⟨rfl, Nq72, K72⟩ := hQ72
    have N72 := Fr.app N67 Nq72
    have hZ := hZ72
    have hown := hown72
    refine FiniW.st st72 ?_
    show FiniW p e below s _ _ _ T72 (mkF m 117 #[.val (.int p0), .val (.long q1), .second, .val (.int p2), .val (.int p3), .val (.int p4), .val (.int (g0_7 p0)), .val (.int (g0_19 p0)), .val (.int (own_late p0)), .val (.ref b3), .val (.ref b4), .val (.ref b28), .unset, .unset, .unset, .unset, .unset] [(.ref b55)])
    refine FiniW.st (fun _ k => XS.astore X72.here hx rfl (hb hby at_117) rfl rfl (l' := #[.val (.int p0), .val (.long q1), .second, .val (.int p2), .val (.int p3), .val (.int p4), .val (.int (g0_7 p0)), .val (.int (g0_19 p0)), .val (.int (own_late p0)), .val (.ref b3), .val (.ref b4), .val (.ref b28), .val (.ref b55), .unset, .unset, .unset, .unset]) rfl k) ?_
    show FiniW p e below s _ _ _ T72 (mkF m 119 #[.val (.int p0), .val (.long q1), .second, .val (.int p2), .val (.int p3), .val (.int p4), .val (.int (g0_7 p0)), .val (.int (g0_19 p0)), .val (.int (own_late p0)), .val (.ref b3), .val (.ref b4), .val (.ref b28), .val (.ref b55), .unset, .unset, .unset, .unset] [])
    obtain ⟨T84, h84, X84, e84, E84, A84, D84, -, st84⟩ := newO X72 hx hZ hown (hw _ (List.mem_of_getElem? (i := 93) rfl)) (hw _ (List.mem_of_getElem? (i := 94) rfl)) (hw _ (List.mem_of_getElem? (i := 95) rfl)) rfl (g := (mkF m 119 #[.val (.int p0), .val (.long q1), .second, .val (.int p2), .val (.int p3), .val (.int p4), .val (.int (g0_7 p0)), .val (.int (g0_19 p0)), .val (.int (own_late p0)), .val (.ref b3), .val (.ref b4), .val (.ref b28), .val (.ref b55), .unset, .unset, .unset, .unset] [])) rfl (hb hby at_119) (by decide) (by decide)
    obtain ⟨b84, g84⟩ : ∃ z, z = T72.heap.size := ⟨_, rfl⟩
    rw [← g84] at A84 D84 st84
    have Ex_85 : Exa Z T72.heap b4 "com/example/mapcodex/mapcodex/osm/Way" := (((Ex_64.ext E61).keep K67).keep K72)
    have ne_b4_b84 : b4 ≠ b84 := Nat.ne_of_lt (Nat.lt_of_lt_of_le Ex_85.lt (Nat.le_of_eq g84.symm))
    have Ex_86 : Exa Z T72.heap b28 "com/example/mapcodex/mapcodex/osm/Way" := (((Ex_65.ext E61).keep K67).keep K72)
    have ne_b28_b84 : b28 ≠ b84 := Nat.ne_of_lt (Nat.lt_of_lt_of_le Ex_86.lt (Nat.le_of_eq g84.symm))
    have Ex_87 : Exa Z T72.heap b55 "com/example/mapcodex/mapcodex/osm/Way" := (Ex_74.keep K72)
    have ne_b55_b84 : b55 ≠ b84 := Nat.ne_of_lt (Nat.lt_of_lt_of_le Ex_87.lt (Nat.le_of_eq g84.symm))
    have Zs_88 : n0 ≤ T72.heap.size := (Nat.le_trans Zs_73 K72.1)
    have ge_b84 : n0 ≤ b84 := Nat.le_trans Zs_88 (Nat.le_of_eq g84.symm)
    have Fn84_objects : Fld Z h84 b84 "com/example/mapcodex/mapcodex/pbf/ObjectBatch" "objects" "[Ljava/lang/Object;" .null := D84 (Or.inr (hw _ (List.mem_of_getElem? (i := 103) rfl))) (ty := (.array (.object "java/lang/Object"))) (by decide)
    have Fn84_size : Fld Z h84 b84 "com/example/mapcodex/mapcodex/pbf/ObjectBatch" "size" "I" (.int (0 : Int32)) := D84 (Or.inl (hw _ (List.mem_of_getElem? (i := 110) rfl))) (ty := .int) (by decide)
    have Fn84_values : Fld Z h84 b84 "com/example/mapcodex/mapcodex/pbf/ObjectBatch" "values" "J" (.long (0 : Int64)) := D84 (Or.inl (hw _ (List.mem_of_getElem? (i := 113) rfl))) (ty := .long) (by decide)
    have Fn84_handed : Fld Z h84 b84 "com/example/mapcodex/mapcodex/pbf/ObjectBatch" "handed" "I" (.int (0 : Int32)) := D84 (Or.inl (hw _ (List.mem_of_getElem? (i := 120) rfl))) (ty := .int) (by decide)
    refine FiniW.st st84 ?_
    show FiniW p e below s _ _ _ T84 (mkF m 122 #[.val (.int p0), .val (.long q1), .second, .val (.int p2), .val (.int p3), .val (.int p4), .val (.int (g0_7 p0)), .val (.int (g0_19 p0)), .val (.int (own_late p0)), .val (.ref b3), .val (.ref b4), .val (.ref b28), .val (.ref b55), .unset, .unset, .unset, .unset] [(.ref b84)])
    refine FiniW.st (fun _ k => XS.dup X84.here hx rfl (hb hby at_122) rfl rfl k) ?_
    show FiniW p e below s _ _ _ T84 (mkF m 123 #[.val (.int p0), .val (.long q1), .second, .val (.int p2), .val (.int p3), .val (.int p4), .val (.int (g0_7 p0)), .val (.int (g0_19 p0)), .val (.int (own_late p0)), .val (.ref b3), .val (.ref b4), .val (.ref b28), .val (.ref b55), .unset, .unset, .unset, .unset] [(.ref b84), (.ref b84)])
    have Zs_90 : n0 ≤ h84.size := (Nat.le_trans Zs_88 E84.1)
    obtain ⟨v89, T89, L89, X89, hQ89, st89⟩ := callNew X84 hx hZ hown rfl (hw _ (List.mem_of_getElem? (i := 96) rfl)) (hw _ (List.mem_of_getElem? (i := 97) rfl)) (hw _ (List.mem_of_getElem? (i := 95) rfl)) (hw _ (List.mem_of_getElem? (i := 98) rfl)) (by decide) (rm11 l Z a0 hw [] b84 (0 : Int32) (0 : Int64) (0 : Int32) h84 n0 Zs_90 A84 Fn84_objects Fn84_size Fn84_values Fn84_handed ge_b84) e84 (W := 1) (by decide) (by decide) (by decide) (by decide) (g := (mkF m 123 #[.val (.int p0), .val (.long q1), .second, .val (.int p2), .val (.int p3), .val (.int p4), .val (.int (g0_7 p0)), .val (.int (g0_19 p0)), .val (.int (own_late p0)), .val (.ref b3), .val (.ref b4), .val (.ref b28), .val (.ref b55), .unset, .unset, .unset, .unset] [(.ref b84), (.ref b84)])) rfl (by rw [hml]; rfl) (argsL := []) (rest := [(.ref b84)]) rfl (lenOf pd_0 rfl) rfl (by show 2 * 0 + _ ≤ _; exact Nat.le_of_eq rfl) (hb hby at_123)
    obtain ⟨rfl, Nq89, K89, b89, sz89, ge_b89, Fo89, Ar89, Fs89, Fv89, Fh89⟩ := hQ89
    have Ex_91 : Exa Z h84 b4 "com/example/mapcodex/mapcodex/osm/Way" := (Ex_85.ext E84)
    have ne_b4_b89 : b4 ≠ b89 := Nat.ne_of_lt (Nat.lt_of_lt_of_le Ex_91.lt sz89)
    have Ex_92 : Exa Z h84 b28 "com/example/mapcodex/mapcodex/osm/Way" := (Ex_86.ext E84)
    have ne_b28_b89 : b28 ≠ b89 := Nat.ne_of_lt (Nat.lt_of_lt_of_le Ex_92.lt sz89)
    have Ex_93 : Exa Z h84 b55 "com/example/mapcodex/mapcodex/osm/Way" := (Ex_87.ext E84)
    have ne_b55_b89 : b55 ≠ b89 := Nat.ne_of_lt (Nat.lt_of_lt_of_le Ex_93.lt sz89)
    have ne_b84_b89 : b84 ≠ b89 := Nat.ne_of_lt (Nat.lt_of_lt_of_le A84.lt sz89)
    have N89 := Fr.app N72 Nq89
    refine FiniW.st st89 ?_
    show FiniW p e below s _ _ _ T89 (mkF m 126 #[.val (.int p0), .val (.long q1), .second, .val (.int p2), .val (.int p3), .val (.int p4), .val (.int (g0_7 p0)), .val (.int (g0_19 p0)), .val (.int (own_late p0)), .val (.ref b3), .val (.ref b4), .val (.ref b28), .val (.ref b55), .unset, .unset, .unset, .unset] [(.ref b84)])
    refine FiniW.st (fun _ k => XS.astore X89.here hx rfl (hb hby at_126) rfl rfl (l' := #[.val (.int p0), .val (.long q1), .second, .val (.int p2), .val (.int p3), .val (.int p4), .val (.int (g0_7 p0)), .val (.int (g0_19 p0)), .val (.int (own_late p0)), .val (.ref b3), .val (.ref b4), .val (.ref b28), .val (.ref b55), .val (.ref b84), .unset, .unset, .unset]) rfl k) ?_
    show FiniW p e below s _ _ _ T89 (mkF m 128 #[.val (.int p0), .val (.long q1), .second, .val (.int p2), .val (.int p3), .val (.int p4), .val (.int (g0_7 p0)), .val (.int (g0_19 p0)), .val (.int (own_late p0)), .val (.ref b3), .val (.ref b4), .val (.ref b28), .val (.ref b55), .val (.ref b84), .unset, .unset, .unset] [])
    refine FiniW.st (fun _ k => XS.iloadN X89.here hx rfl (hb hby at_128) rfl k) ?_
    show FiniW p e below s _ _ _ T89 (mkF m 129 #[.val (.int p0), .val (.long q1), .second, .val (.int p2), .val (.int p3), .val (.int p4), .val (.int (g0_7 p0)), .val (.int (g0_19 p0)), .val (.int (own_late p0)), .val (.ref b3), .val (.ref b4), .val (.ref b28), .val (.ref b55), .val (.ref b84), .unset, .unset, .unset] [(.int p2)])
    refine FiniW.st (fun _ k => XS.i2l X89.here hx rfl (hb hby at_129) rfl k) ?_
    show FiniW p e below s _ _ _ T89 (mkF m 130 #[.val (.int p0), .val (.long q1), .second, .val (.int p2), .val (.int p3), .val (.int p4), .val (.int (g0_7 p0)), .val (.int (g0_19 p0)), .val (.int (own_late p0)), .val (.ref b3), .val (.ref b4), .val (.ref b28), .val (.ref b55), .val (.ref b84), .unset, .unset, .unset] [(.long p2.toInt64)])
    refine FiniW.st (fun _ k => XS.lstore X89.here hx rfl (hb hby at_130) rfl (l' := #[.val (.int p0), .val (.long q1), .second, .val (.int p2), .val (.int p3), .val (.int p4), .val (.int (g0_7 p0)), .val (.int (g0_19 p0)), .val (.int (own_late p0)), .val (.ref b3), .val (.ref b4), .val (.ref b28), .val (.ref b55), .val (.ref b84), .val (.long p2.toInt64), .second, .unset]) rfl k) ?_
    show FiniW p e below s _ _ _ T89 (mkF m 132 #[.val (.int p0), .val (.long q1), .second, .val (.int p2), .val (.int p3), .val (.int p4), .val (.int (g0_7 p0)), .val (.int (g0_19 p0)), .val (.int (own_late p0)), .val (.ref b3), .val (.ref b4), .val (.ref b28), .val (.ref b55), .val (.ref b84), .val (.long p2.toInt64), .second, .unset] [])
    refine FiniW.st (fun _ k => XS.aload X89.here hx rfl (hb hby at_132) rfl rfl k) ?_
    show FiniW p e below s _ _ _ T89 (mkF m 134 #[.val (.int p0), .val (.long q1), .second, .val (.int p2), .val (.int p3), .val (.int p4), .val (.int (g0_7 p0)), .val (.int (g0_19 p0)), .val (.int (own_late p0)), .val (.ref b3), .val (.ref b4), .val (.ref b28), .val (.ref b55), .val (.ref b84), .val (.long p2.toInt64), .second, .unset] [(.ref b84)])
    refine FiniW.st (fun _ k => XS.aload X89.here hx rfl (hb hby at_134) rfl rfl k) ?_
    show FiniW p e below s _ _ _ T89 (mkF m 136 #[.val (.int p0), .val (.long q1), .second, .val (.int p2), .val (.int p3), .val (.int p4), .val (.int (g0_7 p0)), .val (.int (g0_19 p0)), .val (.int (own_late p0)), .val (.ref b3), .val (.ref b4), .val (.ref b28), .val (.ref b55), .val (.ref b84), .val (.long p2.toInt64), .second, .unset] [(.ref b4), (.ref b84)])
    refine FiniW.st (fun _ k => XS.iloadN X89.here hx rfl (hb hby at_136) rfl k) ?_
    show FiniW p e below s _ _ _ T89 (mkF m 137 #[.val (.int p0), .val (.long q1), .second, .val (.int p2), .val (.int p3), .val (.int p4), .val (.int (g0_7 p0)), .val (.int (g0_19 p0)), .val (.int (own_late p0)), .val (.ref b3), .val (.ref b4), .val (.ref b28), .val (.ref b55), .val (.ref b84), .val (.long p2.toInt64), .second, .unset] [(.int p2), (.ref b4), (.ref b84)])
    have Zs_95 : n0 ≤ T89.heap.size := (Nat.le_trans Zs_90 K89.1)
    have Ex_96 : Exa Z T89.heap b84 "com/example/mapcodex/mapcodex/pbf/ObjectBatch" := (A84.keep K89)
    have Ex_97 : Exa Z T89.heap b4 "com/example/mapcodex/mapcodex/osm/Way" := (Ex_91.keep K89)
    obtain ⟨v94, T94, L94, X94, hQ94, st94⟩ := callV X89 hx hZ hown (hw _ (List.mem_of_getElem? (i := 104) rfl)) (hw _ (List.mem_of_getElem? (i := 105) rfl)) (hw _ (List.mem_of_getElem? (i := 107) rfl)) (hw _ (List.mem_of_getElem? (i := 106) rfl)) (hw _ (List.mem_of_getElem? (i := 95) rfl)) (hw _ (List.mem_of_getElem? (i := 108) rfl)) (notFace_of_selects (args := #[]) (mvT hZ (hw _ (List.mem_of_getElem? (i := 107) rfl)))) Ex_96 (by decide) (rm12 l Z a0 hw [] b84 b4 p2 b89 (0 : Int32) (0 : Int64) (0 : Int32) (fun _ => .null) T89.heap n0 Zs_95 Ex_96 Fo89 Fs89 Fv89 Fh89 Ar89 ge_b84 ge_b89 ne_b84_b89 (⟨by decide, by decide⟩) (Ins.of_exa Ex_97 (hw _ (List.mem_of_getElem? (i := 111) rfl)))) rfl (W := 0) (by decide) (by decide) (by decide) (by decide) (g := (mkF m 137 #[.val (.int p0), .val (.long q1), .second, .val (.int p2), .val (.int p3), .val (.int p4), .val (.int (g0_7 p0)), .val (.int (g0_19 p0)), .val (.int (own_late p0)), .val (.ref b3), .val (.ref b4), .val (.ref b28), .val (.ref b55), .val (.ref b84), .val (.long p2.toInt64), .second, .unset] [(.int p2), (.ref b4), (.ref b84)])) rfl (by rw [hml]; rfl) (argsL := [(.ref b4), (.int p2)]) (rest := []) rfl (lenOf pd_7 rfl) rfl (by show 2 * 0 + _ ≤ _; exact Nat.le_of_eq rfl) (hb hby at_137)
    obtain ⟨rfl, Nq94, K94, Fo94, Ar94, Fs94, Fv94, Fh94⟩ := hQ94
    have N94 := Fr.app N89 Nq94
    refine FiniW.st st94 ?_
    show FiniW p e below s _ _ _ T94 (mkF m 140 #[.val (.int p0), .val (.long q1), .second, .val (.int p2), .val (.int p3), .val (.int p4), .val (.int (g0_7 p0)), .val (.int (g0_19 p0)), .val (.int (own_late p0)), .val (.ref b3), .val (.ref b4), .val (.ref b28), .val (.ref b55), .val (.ref b84), .val (.long p2.toInt64), .second, .unset] [])
    rcases own_kl p0 with ⟨h6, h8⟩ | ⟨h6, h8⟩ | ⟨h6, h8⟩ | ⟨h6, h8⟩
    · skip
      refine FiniW.cast (g' := (mkF m 140 #[.val (.int p0), .val (.long q1), .second, .val (.int p2), .val (.int p3), .val (.int p4), .val (.int (1 : Int32)), .val (.int (g0_19 p0)), .val (.int (0 : Int32)), .val (.ref b3), .val (.ref b4), .val (.ref b28), .val (.ref b55), .val (.ref b84), .val (.long p2.toInt64), .second, .unset] [])) (by rw [h6, h8]) ?_
      show FiniW p e below s _ _ _ T94 (mkF m 140 #[.val (.int p0), .val (.long q1), .second, .val (.int p2), .val (.int p3), .val (.int p4), .val (.int (1 : Int32)), .val (.int (g0_19 p0)), .val (.int (0 : Int32)), .val (.ref b3), .val (.ref b4), .val (.ref b28), .val (.ref b55), .val (.ref b84), .val (.long p2.toInt64), .second, .unset] [])
      refine FiniW.st (fun _ k => XS.iload X94.here hx rfl (hb hby at_140) rfl k) ?_
      show FiniW p e below s _ _ _ T94 (mkF m 142 #[.val (.int p0), .val (.long q1), .second, .val (.int p2), .val (.int p3), .val (.int p4), .val (.int (1 : Int32)), .val (.int (g0_19 p0)), .val (.int (0 : Int32)), .val (.ref b3), .val (.ref b4), .val (.ref b28), .val (.ref b55), .val (.ref b84), .val (.long p2.toInt64), .second, .unset] [(.int (1 : Int32))])
      refine FiniW.st (fun _ k => XS.iconst X94.here hx rfl (hb hby at_142) k) ?_
      show FiniW p e below s _ _ _ T94 (mkF m 143 #[.val (.int p0), .val (.long q1), .second, .val (.int p2), .val (.int p3), .val (.int p4), .val (.int (1 : Int32)), .val (.int (g0_19 p0)), .val (.int (0 : Int32)), .val (.ref b3), .val (.ref b4), .val (.ref b28), .val (.ref b55), .val (.ref b84), .val (.long p2.toInt64), .second, .unset] [(.int (2 : Int32)), (.int (1 : Int32))])
      refine FiniW.st (fun _ k => XS.icmpYes X94.here hx rfl (pc0 := 143) (pc' := 163) rfl (hb hby at_143) rfl (XT.ii_lt_t (by decide : (1 : Int32) < (2 : Int32))) (by decide) (by decide) k) ?_
      show FiniW p e below s _ _ _ T94 (mkF m 163 #[.val (.int p0), .val (.long q1), .second, .val (.int p2), .val (.int p3), .val (.int p4), .val (.int (1 : Int32)), .val (.int (g0_19 p0)), .val (.int (0 : Int32)), .val (.ref b3), .val (.ref b4), .val (.ref b28), .val (.ref b55), .val (.ref b84), .val (.long p2.toInt64), .second, .unset] [])
      refine FiniW.st (fun _ k => XS.iload X94.here hx rfl (hb hby at_163) rfl k) ?_
      show FiniW p e below s _ _ _ T94 (mkF m 165 #[.val (.int p0), .val (.long q1), .second, .val (.int p2), .val (.int p3), .val (.int p4), .val (.int (1 : Int32)), .val (.int (g0_19 p0)), .val (.int (0 : Int32)), .val (.ref b3), .val (.ref b4), .val (.ref b28), .val (.ref b55), .val (.ref b84), .val (.long p2.toInt64), .second, .unset] [(.int (1 : Int32))])
      refine FiniW.st (fun _ k => XS.iconst X94.here hx rfl (hb hby at_165) k) ?_
      show FiniW p e below s _ _ _ T94 (mkF m 166 #[.val (.int p0), .val (.long q1), .second, .val (.int p2), .val (.int p3), .val (.int p4), .val (.int (1 : Int32)), .val (.int (g0_19 p0)), .val (.int (0 : Int32)), .val (.ref b3), .val (.ref b4), .val (.ref b28), .val (.ref b55), .val (.ref b84), .val (.long p2.toInt64), .second, .unset] [(.int (3 : Int32)), (.int (1 : Int32))])
      refine FiniW.st (fun _ k => XS.icmpYes X94.here hx rfl (pc0 := 166) (pc' := 191) rfl (hb hby at_166) rfl (XT.ii_lt_t (by decide : (1 : Int32) < (3 : Int32))) (by decide) (by decide) k) ?_
      show FiniW p e below s _ _ _ T94 (mkF m 191 #[.val (.int p0), .val (.long q1), .second, .val (.int p2), .val (.int p3), .val (.int p4), .val (.int (1 : Int32)), .val (.int (g0_19 p0)), .val (.int (0 : Int32)), .val (.ref b3), .val (.ref b4), .val (.ref b28), .val (.ref b55), .val (.ref b84), .val (.long p2.toInt64), .second, .unset] [])
      refine FiniW.st (fun _ k => XS.aload X94.here hx rfl (hb hby at_191) rfl rfl k) ?_
      show FiniW p e below s _ _ _ T94 (mkF m 193 #[.val (.int p0), .val (.long q1), .second, .val (.int p2), .val (.int p3), .val (.int p4), .val (.int (1 : Int32)), .val (.int (g0_19 p0)), .val (.int (0 : Int32)), .val (.ref b3), .val (.ref b4), .val (.ref b28), .val (.ref b55), .val (.ref b84), .val (.long p2.toInt64), .second, .unset] [(.ref b84)])
      have Zs_99 : n0 ≤ T94.heap.size := (Nat.le_trans Zs_95 K94.1)
      have Ex_100 : Exa Z T94.heap b84 "com/example/mapcodex/mapcodex/pbf/ObjectBatch" := (Ex_96.keep K94)
      have Ex_101 : Exa Z T94.heap b4 "com/example/mapcodex/mapcodex/osm/Way" := (Ex_97.keep K94)
      obtain ⟨v98, T98, L98, X98, hQ98, st98⟩ := callV X94 hx hZ hown (hw _ (List.mem_of_getElem? (i := 114) rfl)) (hw _ (List.mem_of_getElem? (i := 115) rfl)) (hw _ (List.mem_of_getElem? (i := 117) rfl)) (hw _ (List.mem_of_getElem? (i := 116) rfl)) (hw _ (List.mem_of_getElem? (i := 95) rfl)) (hw _ (List.mem_of_getElem? (i := 118) rfl)) (notFace_of_selects (args := #[]) (mvT hZ (hw _ (List.mem_of_getElem? (i := 117) rfl)))) Ex_100 (by decide) (rm13 l Z a0 hw [] b84 b89 (1 : Int32) ((0 : Int64) + p2.toInt64) (0 : Int32) (upd (fun _ => .null) 0 (.ref b4)) b4 T94.heap n0 Zs_99 Ex_100 Fo94 Fs94 Fv94 Fh94 Ar94 Ex_101 ge_b84 ge_b89 ne_b84_b89 (⟨by decide, by decide⟩) rfl) rfl (W := 0) (by decide) (by decide) (by decide) (by decide) (g := (mkF m 193 #[.val (.int p0), .val (.long q1), .second, .val (.int p2), .val (.int p3), .val (.int p4), .val (.int (1 : Int32)), .val (.int (g0_19 p0)), .val (.int (0 : Int32)), .val (.ref b3), .val (.ref b4), .val (.ref b28), .val (.ref b55), .val (.ref b84), .val (.long p2.toInt64), .second, .unset] [(.ref b84)])) rfl (by rw [hml]; rfl) (argsL := []) (rest := []) rfl (lenOf pd_8 rfl) rfl (by show 2 * 0 + _ ≤ _; exact Nat.le_of_eq rfl) (hb hby at_193)
      obtain ⟨rfl, Nq98, K98, Fo98, Ar98, Fs98, Fv98, Fh98⟩ := hQ98
      have N98 := Fr.app N94 Nq98
      refine FiniW.st st98 ?_
      show FiniW p e below s _ _ _ T98 (mkF m 196 #[.val (.int p0), .val (.long q1), .second, .val (.int p2), .val (.int p3), .val (.int p4), .val (.int (1 : Int32)), .val (.int (g0_19 p0)), .val (.int (0 : Int32)), .val (.ref b3), .val (.ref b4), .val (.ref b28), .val (.ref b55), .val (.ref b84), .val (.long p2.toInt64), .second, .unset] [(.ref b4)])
      refine FiniW.st (fun _ k => XS.aload X98.here hx rfl (hb hby at_196) rfl rfl k) ?_
      show FiniW p e below s _ _ _ T98 (mkF m 198 #[.val (.int p0), .val (.long q1), .second, .val (.int p2), .val (.int p3), .val (.int p4), .val (.int (1 : Int32)), .val (.int (g0_19 p0)), .val (.int (0 : Int32)), .val (.ref b3), .val (.ref b4), .val (.ref b28), .val (.ref b55), .val (.ref b84), .val (.long p2.toInt64), .second, .unset] [(.ref b4), (.ref b4)])
      refine FiniW.st (fun _ k => Jvm.RoadKit.acmp (g := (mkF m 198 #[.val (.int p0), .val (.long q1), .second, .val (.int p2), .val (.int p3), .val (.int p4), .val (.int (1 : Int32)), .val (.int (g0_19 p0)), .val (.int (0 : Int32)), .val (.ref b3), .val (.ref b4), .val (.ref b28), .val (.ref b55), .val (.ref b84), .val (.long p2.toInt64), .second, .unset] [(.ref b4), (.ref b4)])) X98 hx rfl rfl rfl (pc0 := 198) (pc' := 201) (same := true) rfl (hb hby at_198) rfl (decide_eq_true rfl) (by decide) (by decide) k) ?_
      show FiniW p e below s _ _ _ T98 (mkF m 201 #[.val (.int p0), .val (.long q1), .second, .val (.int p2), .val (.int p3), .val (.int p4), .val (.int (1 : Int32)), .val (.int (g0_19 p0)), .val (.int (0 : Int32)), .val (.ref b3), .val (.ref b4), .val (.ref b28), .val (.ref b55), .val (.ref b84), .val (.long p2.toInt64), .second, .unset] [])
      refine FiniW.st (fun _ k => XS.iconst X98.here hx rfl (hb hby at_201) k) ?_
      show FiniW p e below s _ _ _ T98 (mkF m 202 #[.val (.int p0), .val (.long q1), .second, .val (.int p2), .val (.int p3), .val (.int p4), .val (.int (1 : Int32)), .val (.int (g0_19 p0)), .val (.int (0 : Int32)), .val (.ref b3), .val (.ref b4), .val (.ref b28), .val (.ref b55), .val (.ref b84), .val (.long p2.toInt64), .second, .unset] [(.int (1 : Int32))])
      refine FiniW.st (fun _ k => XS.goto X98.here hx rfl (pc0 := 202) (pc' := 206) rfl (hb hby at_202) (by decide) (by decide) k) ?_
      show FiniW p e below s _ _ _ T98 (mkF m 206 #[.val (.int p0), .val (.long q1), .second, .val (.int p2), .val (.int p3), .val (.int p4), .val (.int (1 : Int32)), .val (.int (g0_19 p0)), .val (.int (0 : Int32)), .val (.ref b3), .val (.ref b4), .val (.ref b28), .val (.ref b55), .val (.ref b84), .val (.long p2.toInt64), .second, .unset] [(.int (1 : Int32))])
      refine FiniW.st (fun _ k => XS.istore X98.here hx rfl (hb hby at_206) rfl (l' := #[.val (.int p0), .val (.long q1), .second, .val (.int p2), .val (.int p3), .val (.int p4), .val (.int (1 : Int32)), .val (.int (g0_19 p0)), .val (.int (0 : Int32)), .val (.ref b3), .val (.ref b4), .val (.ref b28), .val (.ref b55), .val (.ref b84), .val (.long p2.toInt64), .second, .val (.int (1 : Int32))]) rfl k) ?_
      show FiniW p e below s _ _ _ T98 (mkF m 208 #[.val (.int p0), .val (.long q1), .second, .val (.int p2), .val (.int p3), .val (.int p4), .val (.int (1 : Int32)), .val (.int (g0_19 p0)), .val (.int (0 : Int32)), .val (.ref b3), .val (.ref b4), .val (.ref b28), .val (.ref b55), .val (.ref b84), .val (.long p2.toInt64), .second, .val (.int (1 : Int32))] [])
      refine FiniW.st (fun _ k => XS.iload X98.here hx rfl (hb hby at_208) rfl k) ?_
      show FiniW p e below s _ _ _ T98 (mkF m 210 #[.val (.int p0), .val (.long q1), .second, .val (.int p2), .val (.int p3), .val (.int p4), .val (.int (1 : Int32)), .val (.int (g0_19 p0)), .val (.int (0 : Int32)), .val (.ref b3), .val (.ref b4), .val (.ref b28), .val (.ref b55), .val (.ref b84), .val (.long p2.toInt64), .second, .val (.int (1 : Int32))] [(.int (0 : Int32))])
      refine FiniW.st (fun _ k => XS.ifYes X98.here hx rfl (pc0 := 210) (pc' := 230) rfl (hb hby at_210) rfl (XT.i0_eq_t (by decide : (0 : Int32) = (0 : Int32))) (by decide) (by decide) k) ?_
      show FiniW p e below s _ _ _ T98 (mkF m 230 #[.val (.int p0), .val (.long q1), .second, .val (.int p2), .val (.int p3), .val (.int p4), .val (.int (1 : Int32)), .val (.int (g0_19 p0)), .val (.int (0 : Int32)), .val (.ref b3), .val (.ref b4), .val (.ref b28), .val (.ref b55), .val (.ref b84), .val (.long p2.toInt64), .second, .val (.int (1 : Int32))] [])
      have Zs_175 : n0 ≤ T98.heap.size := (Nat.le_trans Zs_99 K98.1)
      have Zs_176 : T72.heap.size ≤ T98.heap.size := (Nat.le_trans (Nat.le_trans (Nat.le_trans (Nat.le_trans (Nat.le_refl T72.heap.size) E84.1) K89.1) K94.1) K98.1)
      have Ex_177 : Exa Z T98.heap b4 "com/example/mapcodex/mapcodex/osm/Way" := (Ex_101.keep K98)
      have Ex_178 : Exa Z T98.heap b28 "com/example/mapcodex/mapcodex/osm/Way" := (((Ex_92.keep K89).keep K94).keep K98)
      have Ex_179 : Exa Z T98.heap b55 "com/example/mapcodex/mapcodex/osm/Way" := (((Ex_93.keep K89).keep K94).keep K98)
      have Ex_180 : Exa Z T98.heap b84 "com/example/mapcodex/mapcodex/pbf/ObjectBatch" := (Ex_100.keep K98)
      exact B230_1_0 T98 _ _ _ _ (X98.more (cells' := 18) (slots' := 4229) (by decide) (by decide)) rfl hZ hown hS72 b28 b3 b4 b55 b84 b89 N98 Zs_175 Zs_176 Ex_177 Ex_178 Ex_179 Ex_180 Fo98 Fs98 Fv98 Fh98 Ar98 ne_b4_b28 ne_b4_b55 ne_b28_b55 ne_b4_b84 ne_b28_b84 ne_b55_b84 ne_b4_b89 ne_b28_b89 ne_b55_b89 ne_b84_b89 ge_b28 ge_b4 ge_b55 ge_b84 ge_b89 h6
    · skip
      refine FiniW.cast (g' := (mkF m 140 #[.val (.int p0), .val (.long q1), .second, .val (.int p2), .val (.int p3), .val (.int p4), .val (.int (2 : Int32)), .val (.int (g0_19 p0)), .val (.int (0 : Int32)), .val (.ref b3), .val (.ref b4), .val (.ref b28), .val (.ref b55), .val (.ref b84), .val (.long p2.toInt64), .second, .unset] [])) (by rw [h6, h8]) ?_
      show FiniW p e below s _ _ _ T94 (mkF m 140 #[.val (.int p0), .val (.long q1), .second, .val (.int p2), .val (.int p3), .val (.int p4), .val (.int (2 : Int32)), .val (.int (g0_19 p0)), .val (.int (0 : Int32)), .val (.ref b3), .val (.ref b4), .val (.ref b28), .val (.ref b55), .val (.ref b84), .val (.long p2.toInt64), .second, .unset] [])
      refine FiniW.st (fun _ k => XS.iload X94.here hx rfl (hb hby at_140) rfl k) ?_
      show FiniW p e below s _ _ _ T94 (mkF m 142 #[.val (.int p0), .val (.long q1), .second, .val (.int p2), .val (.int p3), .val (.int p4), .val (.int (2 : Int32)), .val (.int (g0_19 p0)), .val (.int (0 : Int32)), .val (.ref b3), .val (.ref b4), .val (.ref b28), .val (.ref b55), .val (.ref b84), .val (.long p2.toInt64), .second, .unset] [(.int (2 : Int32))])
      refine FiniW.st (fun _ k => XS.iconst X94.here hx rfl (hb hby at_142) k) ?_
      show FiniW p e below s _ _ _ T94 (mkF m 143 #[.val (.int p0), .val (.long q1), .second, .val (.int p2), .val (.int p3), .val (.int p4), .val (.int (2 : Int32)), .val (.int (g0_19 p0)), .val (.int (0 : Int32)), .val (.ref b3), .val (.ref b4), .val (.ref b28), .val (.ref b55), .val (.ref b84), .val (.long p2.toInt64), .second, .unset] [(.int (2 : Int32)), (.int (2 : Int32))])
      refine FiniW.st (fun _ k => XS.icmpNo X94.here hx rfl (hb hby at_143) rfl (XT.ii_lt_f (by decide : ¬ (2 : Int32) < (2 : Int32))) k) ?_
      show FiniW p e below s _ _ _ T94 (mkF m 146 #[.val (.int p0), .val (.long q1), .second, .val (.int p2), .val (.int p3), .val (.int p4), .val (.int (2 : Int32)), .val (.int (g0_19 p0)), .val (.int (0 : Int32)), .val (.ref b3), .val (.ref b4), .val (.ref b28), .val (.ref b55), .val (.ref b84), .val (.long p2.toInt64), .second, .unset] [])
      refine FiniW.st (fun _ k => XS.aload X94.here hx rfl (hb hby at_146) rfl rfl k) ?_
      show FiniW p e below s _ _ _ T94 (mkF m 148 #[.val (.int p0), .val (.long q1), .second, .val (.int p2), .val (.int p3), .val (.int p4), .val (.int (2 : Int32)), .val (.int (g0_19 p0)), .val (.int (0 : Int32)), .val (.ref b3), .val (.ref b4), .val (.ref b28), .val (.ref b55), .val (.ref b84), .val (.long p2.toInt64), .second, .unset] [(.ref b84)])
      refine FiniW.st (fun _ k => XS.aload X94.here hx rfl (hb hby at_148) rfl rfl k) ?_
      show FiniW p e below s _ _ _ T94 (mkF m 150 #[.val (.int p0), .val (.long q1), .second, .val (.int p2), .val (.int p3), .val (.int p4), .val (.int (2 : Int32)), .val (.int (g0_19 p0)), .val (.int (0 : Int32)), .val (.ref b3), .val (.ref b4), .val (.ref b28), .val (.ref b55), .val (.ref b84), .val (.long p2.toInt64), .second, .unset] [(.ref b28), (.ref b84)])
      refine FiniW.st (fun _ k => XS.iload X94.here hx rfl (hb hby at_150) rfl k) ?_
      show FiniW p e below s _ _ _ T94 (mkF m 152 #[.val (.int p0), .val (.long q1), .second, .val (.int p2), .val (.int p3), .val (.int p4), .val (.int (2 : Int32)), .val (.int (g0_19 p0)), .val (.int (0 : Int32)), .val (.ref b3), .val (.ref b4), .val (.ref b28), .val (.ref b55), .val (.ref b84), .val (.long p2.toInt64), .second, .unset] [(.int p3), (.ref b28), (.ref b84)])
      have Zs_103 : n0 ≤ T94.heap.size := (Nat.le_trans Zs_95 K94.1)
      have Ex_104 : Exa Z T94.heap b84 "com/example/mapcodex/mapcodex/pbf/ObjectBatch" := (Ex_96.keep K94)
      have Ex_105 : Exa Z T94.heap b28 "com/example/mapcodex/mapcodex/osm/Way" := ((Ex_92.keep K89).keep K94)
      obtain ⟨v102, T102, L102, X102, hQ102, st102⟩ := callV X94 hx hZ hown (hw _ (List.mem_of_getElem? (i := 104) rfl)) (hw _ (List.mem_of_getElem? (i := 105) rfl)) (hw _ (List.mem_of_getElem? (i := 107) rfl)) (hw _ (List.mem_of_getElem? (i := 106) rfl)) (hw _ (List.mem_of_getElem? (i := 95) rfl)) (hw _ (List.mem_of_getElem? (i := 108) rfl)) (notFace_of_selects (args := #[]) (mvT hZ (hw _ (List.mem_of_getElem? (i := 107) rfl)))) Ex_104 (by decide) (rm12 l Z a0 hw [] b84 b28 p3 b89 (1 : Int32) ((0 : Int64) + p2.toInt64) (0 : Int32) (upd (fun _ => .null) 0 (.ref b4)) T94.heap n0 Zs_103 Ex_104 Fo94 Fs94 Fv94 Fh94 Ar94 ge_b84 ge_b89 ne_b84_b89 (⟨by decide, by decide⟩) (Ins.of_exa Ex_105 (hw _ (List.mem_of_getElem? (i := 111) rfl)))) rfl (W := 0) (by decide) (by decide) (by decide) (by decide) (g := (mkF m 152 #[.val (.int p0), .val (.long q1), .second, .val (.int p2), .val (.int p3), .val (.int p4), .val (.int (2 : Int32)), .val (.int (g0_19 p0)), .val (.int (0 : Int32)), .val (.ref b3), .val (.ref b4), .val (.ref b28), .val (.ref b55), .val (.ref b84), .val (.long p2.toInt64), .second, .unset] [(.int p3), (.ref b28), (.ref b84)])) rfl (by rw [hml]; rfl) (argsL := [(.ref b28), (.int p3)]) (rest := []) rfl (lenOf pd_7 rfl) rfl (by show 2 * 0 + _ ≤ _; exact Nat.le_of_eq rfl) (hb hby at_152)
      obtain ⟨rfl, Nq102, K102, Fo102, Ar102, Fs102, Fv102, Fh102⟩ := hQ102
      have N102 := Fr.app N94 Nq102
      refine FiniW.st st102 ?_
      show FiniW p e below s _ _ _ T102 (mkF m 155 #[.val (.int p0), .val (.long q1), .second, .val (.int p2), .val (.int p3), .val (.int p4), .val (.int (2 : Int32)), .val (.int (g0_19 p0)), .val (.int (0 : Int32)), .val (.ref b3), .val (.ref b4), .val (.ref b28), .val (.ref b55), .val (.ref b84), .val (.long p2.toInt64), .second, .unset] [])
      refine FiniW.st (fun _ k => XS.lload X102.here hx rfl (hb hby at_155) rfl k) ?_
      show FiniW p e below s _ _ _ T102 (mkF m 157 #[.val (.int p0), .val (.long q1), .second, .val (.int p2), .val (.int p3), .val (.int p4), .val (.int (2 : Int32)), .val (.int (g0_19 p0)), .val (.int (0 : Int32)), .val (.ref b3), .val (.ref b4), .val (.ref b28), .val (.ref b55), .val (.ref b84), .val (.long p2.toInt64), .second, .unset] [(.long p2.toInt64)])
      refine FiniW.st (fun _ k => XS.iload X102.here hx rfl (hb hby at_157) rfl k) ?_
      show FiniW p e below s _ _ _ T102 (mkF m 159 #[.val (.int p0), .val (.long q1), .second, .val (.int p2), .val (.int p3), .val (.int p4), .val (.int (2 : Int32)), .val (.int (g0_19 p0)), .val (.int (0 : Int32)), .val (.ref b3), .val (.ref b4), .val (.ref b28), .val (.ref b55), .val (.ref b84), .val (.long p2.toInt64), .second, .unset] [(.int p3), (.long p2.toInt64)])
      refine FiniW.st (fun _ k => XS.i2l X102.here hx rfl (hb hby at_159) rfl k) ?_
      show FiniW p e below s _ _ _ T102 (mkF m 160 #[.val (.int p0), .val (.long q1), .second, .val (.int p2), .val (.int p3), .val (.int p4), .val (.int (2 : Int32)), .val (.int (g0_19 p0)), .val (.int (0 : Int32)), .val (.ref b3), .val (.ref b4), .val (.ref b28), .val (.ref b55), .val (.ref b84), .val (.long p2.toInt64), .second, .unset] [(.long p3.toInt64), (.long p2.toInt64)])
      refine FiniW.st (fun _ k => XS.ladd X102.here hx rfl (hb hby at_160) rfl k) ?_
      show FiniW p e below s _ _ _ T102 (mkF m 161 #[.val (.int p0), .val (.long q1), .second, .val (.int p2), .val (.int p3), .val (.int p4), .val (.int (2 : Int32)), .val (.int (g0_19 p0)), .val (.int (0 : Int32)), .val (.ref b3), .val (.ref b4), .val (.ref b28), .val (.ref b55), .val (.ref b84), .val (.long p2.toInt64), .second, .unset] [(.long (p2.toInt64 + p3.toInt64))])
      refine FiniW.st (fun _ k => XS.lstore X102.here hx rfl (hb hby at_161) rfl (l' := #[.val (.int p0), .val (.long q1), .second, .val (.int p2), .val (.int p3), .val (.int p4), .val (.int (2 : Int32)), .val (.int (g0_19 p0)), .val (.int (0 : Int32)), .val (.ref b3), .val (.ref b4), .val (.ref b28), .val (.ref b55), .val (.ref b84), .val (.long (g0_161 p2 p3)), .second, .unset]) rfl k) ?_
      show FiniW p e below s _ _ _ T102 (mkF m 163 #[.val (.int p0), .val (.long q1), .second, .val (.int p2), .val (.int p3), .val (.int p4), .val (.int (2 : Int32)), .val (.int (g0_19 p0)), .val (.int (0 : Int32)), .val (.ref b3), .val (.ref b4), .val (.ref b28), .val (.ref b55), .val (.ref b84), .val (.long (g0_161 p2 p3)), .second, .unset] [])
      refine FiniW.st (fun _ k => XS.iload X102.here hx rfl (hb hby at_163) rfl k) ?_
      show FiniW p e below s _ _ _ T102 (mkF m 165 #[.val (.int p0), .val (.long q1), .second, .val (.int p2), .val (.int p3), .val (.int p4), .val (.int (2 : Int32)), .val (.int (g0_19 p0)), .val (.int (0 : Int32)), .val (.ref b3), .val (.ref b4), .val (.ref b28), .val (.ref b55), .val (.ref b84), .val (.long (g0_161 p2 p3)), .second, .unset] [(.int (2 : Int32))])
      refine FiniW.st (fun _ k => XS.iconst X102.here hx rfl (hb hby at_165) k) ?_
      show FiniW p e below s _ _ _ T102 (mkF m 166 #[.val (.int p0), .val (.long q1), .second, .val (.int p2), .val (.int p3), .val (.int p4), .val (.int (2 : Int32)), .val (.int (g0_19 p0)), .val (.int (0 : Int32)), .val (.ref b3), .val (.ref b4), .val (.ref b28), .val (.ref b55), .val (.ref b84), .val (.long (g0_161 p2 p3)), .second, .unset] [(.int (3 : Int32)), (.int (2 : Int32))])
      refine FiniW.st (fun _ k => XS.icmpYes X102.here hx rfl (pc0 := 166) (pc' := 191) rfl (hb hby at_166) rfl (XT.ii_lt_t (by decide : (2 : Int32) < (3 : Int32))) (by decide) (by decide) k) ?_
      show FiniW p e below s _ _ _ T102 (mkF m 191 #[.val (.int p0), .val (.long q1), .second, .val (.int p2), .val (.int p3), .val (.int p4), .val (.int (2 : Int32)), .val (.int (g0_19 p0)), .val (.int (0 : Int32)), .val (.ref b3), .val (.ref b4), .val (.ref b28), .val (.ref b55), .val (.ref b84), .val (.long (g0_161 p2 p3)), .second, .unset] [])
      refine FiniW.st (fun _ k => XS.aload X102.here hx rfl (hb hby at_191) rfl rfl k) ?_
      show FiniW p e below s _ _ _ T102 (mkF m 193 #[.val (.int p0), .val (.long q1), .second, .val (.int p2), .val (.int p3), .val (.int p4), .val (.int (2 : Int32)), .val (.int (g0_19 p0)), .val (.int (0 : Int32)), .val (.ref b3), .val (.ref b4), .val (.ref b28), .val (.ref b55), .val (.ref b84), .val (.long (g0_161 p2 p3)), .second, .unset] [(.ref b84)])
      have Zs_107 : n0 ≤ T102.heap.size := (Nat.le_trans Zs_103 K102.1)
      have Ex_108 : Exa Z T102.heap b84 "com/example/mapcodex/mapcodex/pbf/ObjectBatch" := (Ex_104.keep K102)
      have Ex_109 : Exa Z T102.heap b4 "com/example/mapcodex/mapcodex/osm/Way" := ((Ex_97.keep K94).keep K102)
      obtain ⟨v106, T106, L106, X106, hQ106, st106⟩ := callV X102 hx hZ hown (hw _ (List.mem_of_getElem? (i := 114) rfl)) (hw _ (List.mem_of_getElem? (i := 115) rfl)) (hw _ (List.mem_of_getElem? (i := 117) rfl)) (hw _ (List.mem_of_getElem? (i := 116) rfl)) (hw _ (List.mem_of_getElem? (i := 95) rfl)) (hw _ (List.mem_of_getElem? (i := 118) rfl)) (notFace_of_selects (args := #[]) (mvT hZ (hw _ (List.mem_of_getElem? (i := 117) rfl)))) Ex_108 (by decide) (rm13 l Z a0 hw [] b84 b89 (2 : Int32) (((0 : Int64) + p2.toInt64) + p3.toInt64) (0 : Int32) (upd (upd (fun _ => .null) 0 (.ref b4)) 1 (.ref b28)) b4 T102.heap n0 Zs_107 Ex_108 Fo102 Fs102 Fv102 Fh102 Ar102 Ex_109 ge_b84 ge_b89 ne_b84_b89 (⟨by decide, by decide⟩) rfl) rfl (W := 0) (by decide) (by decide) (by decide) (by decide) (g := (mkF m 193 #[.val (.int p0), .val (.long q1), .second, .val (.int p2), .val (.int p3), .val (.int p4), .val (.int (2 : Int32)), .val (.int (g0_19 p0)), .val (.int (0 : Int32)), .val (.ref b3), .val (.ref b4), .val (.ref b28), .val (.ref b55), .val (.ref b84), .val (.long (g0_161 p2 p3)), .second, .unset] [(.ref b84)])) rfl (by rw [hml]; rfl) (argsL := []) (rest := []) rfl (lenOf pd_8 rfl) rfl (by show 2 * 0 + _ ≤ _; exact Nat.le_of_eq rfl) (hb hby at_193)
      obtain ⟨rfl, Nq106, K106, Fo106, Ar106, Fs106, Fv106, Fh106⟩ := hQ106
      have N106 := Fr.app N102 Nq106
      refine FiniW.st st106 ?_
      show FiniW p e below s _ _ _ T106 (mkF m 196 #[.val (.int p0), .val (.long q1), .second, .val (.int p2), .val (.int p3), .val (.int p4), .val (.int (2 : Int32)), .val (.int (g0_19 p0)), .val (.int (0 : Int32)), .val (.ref b3), .val (.ref b4), .val (.ref b28), .val (.ref b55), .val (.ref b84), .val (.long (g0_161 p2 p3)), .second, .unset] [(.ref b4)])
      refine FiniW.st (fun _ k => XS.aload X106.here hx rfl (hb hby at_196) rfl rfl k) ?_
      show FiniW p e below s _ _ _ T106 (mkF m 198 #[.val (.int p0), .val (.long q1), .second, .val (.int p2), .val (.int p3), .val (.int p4), .val (.int (2 : Int32)), .val (.int (g0_19 p0)), .val (.int (0 : Int32)), .val (.ref b3), .val (.ref b4), .val (.ref b28), .val (.ref b55), .val (.ref b84), .val (.long (g0_161 p2 p3)), .second, .unset] [(.ref b4), (.ref b4)])
      refine FiniW.st (fun _ k => Jvm.RoadKit.acmp (g := (mkF m 198 #[.val (.int p0), .val (.long q1), .second, .val (.int p2), .val (.int p3), .val (.int p4), .val (.int (2 : Int32)), .val (.int (g0_19 p0)), .val (.int (0 : Int32)), .val (.ref b3), .val (.ref b4), .val (.ref b28), .val (.ref b55), .val (.ref b84), .val (.long (g0_161 p2 p3)), .second, .unset] [(.ref b4), (.ref b4)])) X106 hx rfl rfl rfl (pc0 := 198) (pc' := 201) (same := true) rfl (hb hby at_198) rfl (decide_eq_true rfl) (by decide) (by decide) k) ?_
      show FiniW p e below s _ _ _ T106 (mkF m 201 #[.val (.int p0), .val (.long q1), .second, .val (.int p2), .val (.int p3), .val (.int p4), .val (.int (2 : Int32)), .val (.int (g0_19 p0)), .val (.int (0 : Int32)), .val (.ref b3), .val (.ref b4), .val (.ref b28), .val (.ref b55), .val (.ref b84), .val (.long (g0_161 p2 p3)), .second, .unset] [])
      refine FiniW.st (fun _ k => XS.iconst X106.here hx rfl (hb hby at_201) k) ?_
      show FiniW p e below s _ _ _ T106 (mkF m 202 #[.val (.int p0), .val (.long q1), .second, .val (.int p2), .val (.int p3), .val (.int p4), .val (.int (2 : Int32)), .val (.int (g0_19 p0)), .val (.int (0 : Int32)), .val (.ref b3), .val (.ref b4), .val (.ref b28), .val (.ref b55), .val (.ref b84), .val (.long (g0_161 p2 p3)), .second, .unset] [(.int (1 : Int32))])
      refine FiniW.st (fun _ k => XS.goto X106.here hx rfl (pc0 := 202) (pc' := 206) rfl (hb hby at_202) (by decide) (by decide) k) ?_
      show FiniW p e below s _ _ _ T106 (mkF m 206 #[.val (.int p0), .val (.long q1), .second, .val (.int p2), .val (.int p3), .val (.int p4), .val (.int (2 : Int32)), .val (.int (g0_19 p0)), .val (.int (0 : Int32)), .val (.ref b3), .val (.ref b4), .val (.ref b28), .val (.ref b55), .val (.ref b84), .val (.long (g0_161 p2 p3)), .second, .unset] [(.int (1 : Int32))])
      refine FiniW.st (fun _ k => XS.istore X106.here hx rfl (hb hby at_206) rfl (l' := #[.val (.int p0), .val (.long q1), .second, .val (.int p2), .val (.int p3), .val (.int p4), .val (.int (2 : Int32)), .val (.int (g0_19 p0)), .val (.int (0 : Int32)), .val (.ref b3), .val (.ref b4), .val (.ref b28), .val (.ref b55), .val (.ref b84), .val (.long (g0_161 p2 p3)), .second, .val (.int (1 : Int32))]) rfl k) ?_
      show FiniW p e below s _ _ _ T106 (mkF m 208 #[.val (.int p0), .val (.long q1), .second, .val (.int p2), .val (.int p3), .val (.int p4), .val (.int (2 : Int32)), .val (.int (g0_19 p0)), .val (.int (0 : Int32)), .val (.ref b3), .val (.ref b4), .val (.ref b28), .val (.ref b55), .val (.ref b84), .val (.long (g0_161 p2 p3)), .second, .val (.int (1 : Int32))] [])
      refine FiniW.st (fun _ k => XS.iload X106.here hx rfl (hb hby at_208) rfl k) ?_
      show FiniW p e below s _ _ _ T106 (mkF m 210 #[.val (.int p0), .val (.long q1), .second, .val (.int p2), .val (.int p3), .val (.int p4), .val (.int (2 : Int32)), .val (.int (g0_19 p0)), .val (.int (0 : Int32)), .val (.ref b3), .val (.ref b4), .val (.ref b28), .val (.ref b55), .val (.ref b84), .val (.long (g0_161 p2 p3)), .second, .val (.int (1 : Int32))] [(.int (0 : Int32))])
      refine FiniW.st (fun _ k => XS.ifYes X106.here hx rfl (pc0 := 210) (pc' := 230) rfl (hb hby at_210) rfl (XT.i0_eq_t (by decide : (0 : Int32) = (0 : Int32))) (by decide) (by decide) k) ?_
      show FiniW p e below s _ _ _ T106 (mkF m 230 #[.val (.int p0), .val (.long q1), .second, .val (.int p2), .val (.int p3), .val (.int p4), .val (.int (2 : Int32)), .val (.int (g0_19 p0)), .val (.int (0 : Int32)), .val (.ref b3), .val (.ref b4), .val (.ref b28), .val (.ref b55), .val (.ref b84), .val (.long (g0_161 p2 p3)), .second, .val (.int (1 : Int32))] [])
      have Zs_181 : n0 ≤ T106.heap.size := (Nat.le_trans Zs_107 K106.1)
      have Zs_182 : T72.heap.size ≤ T106.heap.size := (Nat.le_trans (Nat.le_trans (Nat.le_trans (Nat.le_trans (Nat.le_trans (Nat.le_refl T72.heap.size) E84.1) K89.1) K94.1) K102.1) K106.1)
      have Ex_183 : Exa Z T106.heap b4 "com/example/mapcodex/mapcodex/osm/Way" := (Ex_109.keep K106)
      have Ex_184 : Exa Z T106.heap b28 "com/example/mapcodex/mapcodex/osm/Way" := ((Ex_105.keep K102).keep K106)
      have Ex_185 : Exa Z T106.heap b55 "com/example/mapcodex/mapcodex/osm/Way" := ((((Ex_93.keep K89).keep K94).keep K102).keep K106)
      have Ex_186 : Exa Z T106.heap b84 "com/example/mapcodex/mapcodex/pbf/ObjectBatch" := (Ex_108.keep K106)
      exact B230_2_0 T106 _ _ _ _ (X106.more (cells' := 18) (slots' := 4229) (by decide) (by decide)) rfl hZ hown hS72 b28 b3 b4 b55 b84 b89 N106 Zs_181 Zs_182 Ex_183 Ex_184 Ex_185 Ex_186 Fo106 Fs106 Fv106 Fh106 Ar106 ne_b4_b28 ne_b4_b55 ne_b28_b55 ne_b4_b84 ne_b28_b84 ne_b55_b84 ne_b4_b89 ne_b28_b89 ne_b55_b89 ne_b84_b89 ge_b28 ge_b4 ge_b55 ge_b84 ge_b89 h6
    · skip
      refine FiniW.cast (g' := (mkF m 140 #[.val (.int p0), .val (.long q1), .second, .val (.int p2), .val (.int p3), .val (.int p4), .val (.int (3 : Int32)), .val (.int (g0_19 p0)), .val (.int (0 : Int32)), .val (.ref b3), .val (.ref b4), .val (.ref b28), .val (.ref b55), .val (.ref b84), .val (.long p2.toInt64), .second, .unset] [])) (by rw [h6, h8]) ?_
      show FiniW p e below s _ _ _ T94 (mkF m 140 #[.val (.int p0), .val (.long q1), .second, .val (.int p2), .val (.int p3), .val (.int p4), .val (.int (3 : Int32)), .val (.int (g0_19 p0)), .val (.int (0 : Int32)), .val (.ref b3), .val (.ref b4), .val (.ref b28), .val (.ref b55), .val (.ref b84), .val (.long p2.toInt64), .second, .unset] [])
      refine FiniW.st (fun _ k => XS.iload X94.here hx rfl (hb hby at_140) rfl k) ?_
      show FiniW p e below s _ _ _ T94 (mkF m 142 #[.val (.int p0), .val (.long q1), .second, .val (.int p2), .val (.int p3), .val (.int p4), .val (.int (3 : Int32)), .val (.int (g0_19 p0)), .val (.int (0 : Int32)), .val (.ref b3), .val (.ref b4), .val (.ref b28), .val (.ref b55), .val (.ref b84), .val (.long p2.toInt64), .second, .unset] [(.int (3 : Int32))])
      refine FiniW.st (fun _ k => XS.iconst X94.here hx rfl (hb hby at_142) k) ?_
      show FiniW p e below s _ _ _ T94 (mkF m 143 #[.val (.int p0), .val (.long q1), .second, .val (.int p2), .val (.int p3), .val (.int p4), .val (.int (3 : Int32)), .val (.int (g0_19 p0)), .val (.int (0 : Int32)), .val (.ref b3), .val (.ref b4), .val (.ref b28), .val (.ref b55), .val (.ref b84), .val (.long p2.toInt64), .second, .unset] [(.int (2 : Int32)), (.int (3 : Int32))])
      refine FiniW.st (fun _ k => XS.icmpNo X94.here hx rfl (hb hby at_143) rfl (XT.ii_lt_f (by decide : ¬ (3 : Int32) < (2 : Int32))) k) ?_
      show FiniW p e below s _ _ _ T94 (mkF m 146 #[.val (.int p0), .val (.long q1), .second, .val (.int p2), .val (.int p3), .val (.int p4), .val (.int (3 : Int32)), .val (.int (g0_19 p0)), .val (.int (0 : Int32)), .val (.ref b3), .val (.ref b4), .val (.ref b28), .val (.ref b55), .val (.ref b84), .val (.long p2.toInt64), .second, .unset] [])
      refine FiniW.st (fun _ k => XS.aload X94.here hx rfl (hb hby at_146) rfl rfl k) ?_
      show FiniW p e below s _ _ _ T94 (mkF m 148 #[.val (.int p0), .val (.long q1), .second, .val (.int p2), .val (.int p3), .val (.int p4), .val (.int (3 : Int32)), .val (.int (g0_19 p0)), .val (.int (0 : Int32)), .val (.ref b3), .val (.ref b4), .val (.ref b28), .val (.ref b55), .val (.ref b84), .val (.long p2.toInt64), .second, .unset] [(.ref b84)])
      refine FiniW.st (fun _ k => XS.aload X94.here hx rfl (hb hby at_148) rfl rfl k) ?_
      show FiniW p e below s _ _ _ T94 (mkF m 150 #[.val (.int p0), .val (.long q1), .second, .val (.int p2), .val (.int p3), .val (.int p4), .val (.int (3 : Int32)), .val (.int (g0_19 p0)), .val (.int (0 : Int32)), .val (.ref b3), .val (.ref b4), .val (.ref b28), .val (.ref b55), .val (.ref b84), .val (.long p2.toInt64), .second, .unset] [(.ref b28), (.ref b84)])
      refine FiniW.st (fun _ k => XS.iload X94.here hx rfl (hb hby at_150) rfl k) ?_
      show FiniW p e below s _ _ _ T94 (mkF m 152 #[.val (.int p0), .val (.long q1), .second, .val (.int p2), .val (.int p3), .val (.int p4), .val (.int (3 : Int32)), .val (.int (g0_19 p0)), .val (.int (0 : Int32)), .val (.ref b3), .val (.ref b4), .val (.ref b28), .val (.ref b55), .val (.ref b84), .val (.long p2.toInt64), .second, .unset] [(.int p3), (.ref b28), (.ref b84)])
      have Zs_111 : n0 ≤ T94.heap.size := (Nat.le_trans Zs_95 K94.1)
      have Ex_112 : Exa Z T94.heap b84 "com/example/mapcodex/mapcodex/pbf/ObjectBatch" := (Ex_96.keep K94)
      have Ex_113 : Exa Z T94.heap b28 "com/example/mapcodex/mapcodex/osm/Way" := ((Ex_92.keep K89).keep K94)
      obtain ⟨v110, T110, L110, X110, hQ110, st110⟩ := callV X94 hx hZ hown (hw _ (List.mem_of_getElem? (i := 104) rfl)) (hw _ (List.mem_of_getElem? (i := 105) rfl)) (hw _ (List.mem_of_getElem? (i := 107) rfl)) (hw _ (List.mem_of_getElem? (i := 106) rfl)) (hw _ (List.mem_of_getElem? (i := 95) rfl)) (hw _ (List.mem_of_getElem? (i := 108) rfl)) (notFace_of_selects (args := #[]) (mvT hZ (hw _ (List.mem_of_getElem? (i := 107) rfl)))) Ex_112 (by decide) (rm12 l Z a0 hw [] b84 b28 p3 b89 (1 : Int32) ((0 : Int64) + p2.toInt64) (0 : Int32) (upd (fun _ => .null) 0 (.ref b4)) T94.heap n0 Zs_111 Ex_112 Fo94 Fs94 Fv94 Fh94 Ar94 ge_b84 ge_b89 ne_b84_b89 (⟨by decide, by decide⟩) (Ins.of_exa Ex_113 (hw _ (List.mem_of_getElem? (i := 111) rfl)))) rfl (W := 0) (by decide) (by decide) (by decide) (by decide) (g := (mkF m 152 #[.val (.int p0), .val (.long q1), .second, .val (.int p2), .val (.int p3), .val (.int p4), .val (.int (3 : Int32)), .val (.int (g0_19 p0)), .val (.int (0 : Int32)), .val (.ref b3), .val (.ref b4), .val (.ref b28), .val (.ref b55), .val (.ref b84), .val (.long p2.toInt64), .second, .unset] [(.int p3), (.ref b28), (.ref b84)])) rfl (by rw [hml]; rfl) (argsL := [(.ref b28), (.int p3)]) (rest := []) rfl (lenOf pd_7 rfl) rfl (by show 2 * 0 + _ ≤ _; exact Nat.le_of_eq rfl) (hb hby at_152)
      obtain ⟨rfl, Nq110, K110, Fo110, Ar110, Fs110, Fv110, Fh110⟩ := hQ110
      have N110 := Fr.app N94 Nq110
      refine FiniW.st st110 ?_
      show FiniW p e below s _ _ _ T110 (mkF m 155 #[.val (.int p0), .val (.long q1), .second, .val (.int p2), .val (.int p3), .val (.int p4), .val (.int (3 : Int32)), .val (.int (g0_19 p0)), .val (.int (0 : Int32)), .val (.ref b3), .val (.ref b4), .val (.ref b28), .val (.ref b55), .val (.ref b84), .val (.long p2.toInt64), .second, .unset] [])
      refine FiniW.st (fun _ k => XS.lload X110.here hx rfl (hb hby at_155) rfl k) ?_
      show FiniW p e below s _ _ _ T110 (mkF m 157 #[.val (.int p0), .val (.long q1), .second, .val (.int p2), .val (.int p3), .val (.int p4), .val (.int (3 : Int32)), .val (.int (g0_19 p0)), .val (.int (0 : Int32)), .val (.ref b3), .val (.ref b4), .val (.ref b28), .val (.ref b55), .val (.ref b84), .val (.long p2.toInt64), .second, .unset] [(.long p2.toInt64)])
      refine FiniW.st (fun _ k => XS.iload X110.here hx rfl (hb hby at_157) rfl k) ?_
      show FiniW p e below s _ _ _ T110 (mkF m 159 #[.val (.int p0), .val (.long q1), .second, .val (.int p2), .val (.int p3), .val (.int p4), .val (.int (3 : Int32)), .val (.int (g0_19 p0)), .val (.int (0 : Int32)), .val (.ref b3), .val (.ref b4), .val (.ref b28), .val (.ref b55), .val (.ref b84), .val (.long p2.toInt64), .second, .unset] [(.int p3), (.long p2.toInt64)])
      refine FiniW.st (fun _ k => XS.i2l X110.here hx rfl (hb hby at_159) rfl k) ?_
      show FiniW p e below s _ _ _ T110 (mkF m 160 #[.val (.int p0), .val (.long q1), .second, .val (.int p2), .val (.int p3), .val (.int p4), .val (.int (3 : Int32)), .val (.int (g0_19 p0)), .val (.int (0 : Int32)), .val (.ref b3), .val (.ref b4), .val (.ref b28), .val (.ref b55), .val (.ref b84), .val (.long p2.toInt64), .second, .unset] [(.long p3.toInt64), (.long p2.toInt64)])
      refine FiniW.st (fun _ k => XS.ladd X110.here hx rfl (hb hby at_160) rfl k) ?_
      show FiniW p e below s _ _ _ T110 (mkF m 161 #[.val (.int p0), .val (.long q1), .second, .val (.int p2), .val (.int p3), .val (.int p4), .val (.int (3 : Int32)), .val (.int (g0_19 p0)), .val (.int (0 : Int32)), .val (.ref b3), .val (.ref b4), .val (.ref b28), .val (.ref b55), .val (.ref b84), .val (.long p2.toInt64), .second, .unset] [(.long (p2.toInt64 + p3.toInt64))])
      refine FiniW.st (fun _ k => XS.lstore X110.here hx rfl (hb hby at_161) rfl (l' := #[.val (.int p0), .val (.long q1), .second, .val (.int p2), .val (.int p3), .val (.int p4), .val (.int (3 : Int32)), .val (.int (g0_19 p0)), .val (.int (0 : Int32)), .val (.ref b3), .val (.ref b4), .val (.ref b28), .val (.ref b55), .val (.ref b84), .val (.long (g0_161 p2 p3)), .second, .unset]) rfl k) ?_
      show FiniW p e below s _ _ _ T110 (mkF m 163 #[.val (.int p0), .val (.long q1), .second, .val (.int p2), .val (.int p3), .val (.int p4), .val (.int (3 : Int32)), .val (.int (g0_19 p0)), .val (.int (0 : Int32)), .val (.ref b3), .val (.ref b4), .val (.ref b28), .val (.ref b55), .val (.ref b84), .val (.long (g0_161 p2 p3)), .second, .unset] [])
      refine FiniW.st (fun _ k => XS.iload X110.here hx rfl (hb hby at_163) rfl k) ?_
      show FiniW p e below s _ _ _ T110 (mkF m 165 #[.val (.int p0), .val (.long q1), .second, .val (.int p2), .val (.int p3), .val (.int p4), .val (.int (3 : Int32)), .val (.int (g0_19 p0)), .val (.int (0 : Int32)), .val (.ref b3), .val (.ref b4), .val (.ref b28), .val (.ref b55), .val (.ref b84), .val (.long (g0_161 p2 p3)), .second, .unset] [(.int (3 : Int32))])
      refine FiniW.st (fun _ k => XS.iconst X110.here hx rfl (hb hby at_165) k) ?_
      show FiniW p e below s _ _ _ T110 (mkF m 166 #[.val (.int p0), .val (.long q1), .second, .val (.int p2), .val (.int p3), .val (.int p4), .val (.int (3 : Int32)), .val (.int (g0_19 p0)), .val (.int (0 : Int32)), .val (.ref b3), .val (.ref b4), .val (.ref b28), .val (.ref b55), .val (.ref b84), .val (.long (g0_161 p2 p3)), .second, .unset] [(.int (3 : Int32)), (.int (3 : Int32))])
      refine FiniW.st (fun _ k => XS.icmpNo X110.here hx rfl (hb hby at_166) rfl (XT.ii_lt_f (by decide : ¬ (3 : Int32) < (3 : Int32))) k) ?_
      show FiniW p e below s _ _ _ T110 (mkF m 169 #[.val (.int p0), .val (.long q1), .second, .val (.int p2), .val (.int p3), .val (.int p4), .val (.int (3 : Int32)), .val (.int (g0_19 p0)), .val (.int (0 : Int32)), .val (.ref b3), .val (.ref b4), .val (.ref b28), .val (.ref b55), .val (.ref b84), .val (.long (g0_161 p2 p3)), .second, .unset] [])
      refine FiniW.st (fun _ k => XS.iload X110.here hx rfl (hb hby at_169) rfl k) ?_
      show FiniW p e below s _ _ _ T110 (mkF m 171 #[.val (.int p0), .val (.long q1), .second, .val (.int p2), .val (.int p3), .val (.int p4), .val (.int (3 : Int32)), .val (.int (g0_19 p0)), .val (.int (0 : Int32)), .val (.ref b3), .val (.ref b4), .val (.ref b28), .val (.ref b55), .val (.ref b84), .val (.long (g0_161 p2 p3)), .second, .unset] [(.int (0 : Int32))])
      refine FiniW.st (fun _ k => XS.ifNo X110.here hx rfl (hb hby at_171) rfl (XT.i0_ne_f (by decide : (0 : Int32) = (0 : Int32))) k) ?_
      show FiniW p e below s _ _ _ T110 (mkF m 174 #[.val (.int p0), .val (.long q1), .second, .val (.int p2), .val (.int p3), .val (.int p4), .val (.int (3 : Int32)), .val (.int (g0_19 p0)), .val (.int (0 : Int32)), .val (.ref b3), .val (.ref b4), .val (.ref b28), .val (.ref b55), .val (.ref b84), .val (.long (g0_161 p2 p3)), .second, .unset] [])
      refine FiniW.st (fun _ k => XS.aload X110.here hx rfl (hb hby at_174) rfl rfl k) ?_
      show FiniW p e below s _ _ _ T110 (mkF m 176 #[.val (.int p0), .val (.long q1), .second, .val (.int p2), .val (.int p3), .val (.int p4), .val (.int (3 : Int32)), .val (.int (g0_19 p0)), .val (.int (0 : Int32)), .val (.ref b3), .val (.ref b4), .val (.ref b28), .val (.ref b55), .val (.ref b84), .val (.long (g0_161 p2 p3)), .second, .unset] [(.ref b84)])
      refine FiniW.st (fun _ k => XS.aload X110.here hx rfl (hb hby at_176) rfl rfl k) ?_
      show FiniW p e below s _ _ _ T110 (mkF m 178 #[.val (.int p0), .val (.long q1), .second, .val (.int p2), .val (.int p3), .val (.int p4), .val (.int (3 : Int32)), .val (.int (g0_19 p0)), .val (.int (0 : Int32)), .val (.ref b3), .val (.ref b4), .val (.ref b28), .val (.ref b55), .val (.ref b84), .val (.long (g0_161 p2 p3)), .second, .unset] [(.ref b55), (.ref b84)])
      refine FiniW.st (fun _ k => XS.iload X110.here hx rfl (hb hby at_178) rfl k) ?_
      show FiniW p e below s _ _ _ T110 (mkF m 180 #[.val (.int p0), .val (.long q1), .second, .val (.int p2), .val (.int p3), .val (.int p4), .val (.int (3 : Int32)), .val (.int (g0_19 p0)), .val (.int (0 : Int32)), .val (.ref b3), .val (.ref b4), .val (.ref b28), .val (.ref b55), .val (.ref b84), .val (.long (g0_161 p2 p3)), .second, .unset] [(.int p4), (.ref b55), (.ref b84)])
      have Zs_115 : n0 ≤ T110.heap.size := (Nat.le_trans Zs_111 K110.1)
      have Ex_116 : Exa Z T110.heap b84 "com/example/mapcodex/mapcodex/pbf/ObjectBatch" := (Ex_112.keep K110)
      have Ex_117 : Exa Z T110.heap b55 "com/example/mapcodex/mapcodex/osm/Way" := (((Ex_93.keep K89).keep K94).keep K110)
      obtain ⟨v114, T114, L114, X114, hQ114, st114⟩ := callV X110 hx hZ hown (hw _ (List.mem_of_getElem? (i := 104) rfl)) (hw _ (List.mem_of_getElem? (i := 105) rfl)) (hw _ (List.mem_of_getElem? (i := 107) rfl)) (hw _ (List.mem_of_getElem? (i := 106) rfl)) (hw _ (List.mem_of_getElem? (i := 95) rfl)) (hw _ (List.mem_of_getElem? (i := 108) rfl)) (notFace_of_selects (args := #[]) (mvT hZ (hw _ (List.mem_of_getElem? (i := 107) rfl)))) Ex_116 (by decide) (rm12 l Z a0 hw [] b84 b55 p4 b89 (2 : Int32) (((0 : Int64) + p2.toInt64) + p3.toInt64) (0 : Int32) (upd (upd (fun _ => .null) 0 (.ref b4)) 1 (.ref b28)) T110.heap n0 Zs_115 Ex_116 Fo110 Fs110 Fv110 Fh110 Ar110 ge_b84 ge_b89 ne_b84_b89 (⟨by decide, by decide⟩) (Ins.of_exa Ex_117 (hw _ (List.mem_of_getElem? (i := 111) rfl)))) rfl (W := 0) (by decide) (by decide) (by decide) (by decide) (g := (mkF m 180 #[.val (.int p0), .val (.long q1), .second, .val (.int p2), .val (.int p3), .val (.int p4), .val (.int (3 : Int32)), .val (.int (g0_19 p0)), .val (.int (0 : Int32)), .val (.ref b3), .val (.ref b4), .val (.ref b28), .val (.ref b55), .val (.ref b84), .val (.long (g0_161 p2 p3)), .second, .unset] [(.int p4), (.ref b55), (.ref b84)])) rfl (by rw [hml]; rfl) (argsL := [(.ref b55), (.int p4)]) (rest := []) rfl (lenOf pd_7 rfl) rfl (by show 2 * 0 + _ ≤ _; exact Nat.le_of_eq rfl) (hb hby at_180)
      obtain ⟨rfl, Nq114, K114, Fo114, Ar114, Fs114, Fv114, Fh114⟩ := hQ114
      have N114 := Fr.app N110 Nq114
      refine FiniW.st st114 ?_
      show FiniW p e below s _ _ _ T114 (mkF m 183 #[.val (.int p0), .val (.long q1), .second, .val (.int p2), .val (.int p3), .val (.int p4), .val (.int (3 : Int32)), .val (.int (g0_19 p0)), .val (.int (0 : Int32)), .val (.ref b3), .val (.ref b4), .val (.ref b28), .val (.ref b55), .val (.ref b84), .val (.long (g0_161 p2 p3)), .second, .unset] [])
      refine FiniW.st (fun _ k => XS.lload X114.here hx rfl (hb hby at_183) rfl k) ?_
      show FiniW p e below s _ _ _ T114 (mkF m 185 #[.val (.int p0), .val (.long q1), .second, .val (.int p2), .val (.int p3), .val (.int p4), .val (.int (3 : Int32)), .val (.int (g0_19 p0)), .val (.int (0 : Int32)), .val (.ref b3), .val (.ref b4), .val (.ref b28), .val (.ref b55), .val (.ref b84), .val (.long (g0_161 p2 p3)), .second, .unset] [(.long (g0_161 p2 p3))])
      refine FiniW.st (fun _ k => XS.iload X114.here hx rfl (hb hby at_185) rfl k) ?_
      show FiniW p e below s _ _ _ T114 (mkF m 187 #[.val (.int p0), .val (.long q1), .second, .val (.int p2), .val (.int p3), .val (.int p4), .val (.int (3 : Int32)), .val (.int (g0_19 p0)), .val (.int (0 : Int32)), .val (.ref b3), .val (.ref b4), .val (.ref b28), .val (.ref b55), .val (.ref b84), .val (.long (g0_161 p2 p3)), .second, .unset] [(.int p4), (.long (g0_161 p2 p3))])
      refine FiniW.st (fun _ k => XS.i2l X114.here hx rfl (hb hby at_187) rfl k) ?_
      show FiniW p e below s _ _ _ T114 (mkF m 188 #[.val (.int p0), .val (.long q1), .second, .val (.int p2), .val (.int p3), .val (.int p4), .val (.int (3 : Int32)), .val (.int (g0_19 p0)), .val (.int (0 : Int32)), .val (.ref b3), .val (.ref b4), .val (.ref b28), .val (.ref b55), .val (.ref b84), .val (.long (g0_161 p2 p3)), .second, .unset] [(.long p4.toInt64), (.long (g0_161 p2 p3))])
      refine FiniW.st (fun _ k => XS.ladd X114.here hx rfl (hb hby at_188) rfl k) ?_
      show FiniW p e below s _ _ _ T114 (mkF m 189 #[.val (.int p0), .val (.long q1), .second, .val (.int p2), .val (.int p3), .val (.int p4), .val (.int (3 : Int32)), .val (.int (g0_19 p0)), .val (.int (0 : Int32)), .val (.ref b3), .val (.ref b4), .val (.ref b28), .val (.ref b55), .val (.ref b84), .val (.long (g0_161 p2 p3)), .second, .unset] [(.long ((g0_161 p2 p3) + p4.toInt64))])
      refine FiniW.st (fun _ k => XS.lstore X114.here hx rfl (hb hby at_189) rfl (l' := #[.val (.int p0), .val (.long q1), .second, .val (.int p2), .val (.int p3), .val (.int p4), .val (.int (3 : Int32)), .val (.int (g0_19 p0)), .val (.int (0 : Int32)), .val (.ref b3), .val (.ref b4), .val (.ref b28), .val (.ref b55), .val (.ref b84), .val (.long (g0_189 p2 p3 p4)), .second, .unset]) rfl k) ?_
      show FiniW p e below s _ _ _ T114 (mkF m 191 #[.val (.int p0), .val (.long q1), .second, .val (.int p2), .val (.int p3), .val (.int p4), .val (.int (3 : Int32)), .val (.int (g0_19 p0)), .val (.int (0 : Int32)), .val (.ref b3), .val (.ref b4), .val (.ref b28), .val (.ref b55), .val (.ref b84), .val (.long (g0_189 p2 p3 p4)), .second, .unset] [])
      refine FiniW.st (fun _ k => XS.aload X114.here hx rfl (hb hby at_191) rfl rfl k) ?_
      show FiniW p e below s _ _ _ T114 (mkF m 193 #[.val (.int p0), .val (.long q1), .second, .val (.int p2), .val (.int p3), .val (.int p4), .val (.int (3 : Int32)), .val (.int (g0_19 p0)), .val (.int (0 : Int32)), .val (.ref b3), .val (.ref b4), .val (.ref b28), .val (.ref b55), .val (.ref b84), .val (.long (g0_189 p2 p3 p4)), .second, .unset] [(.ref b84)])
      have Zs_119 : n0 ≤ T114.heap.size := (Nat.le_trans Zs_115 K114.1)
      have Ex_120 : Exa Z T114.heap b84 "com/example/mapcodex/mapcodex/pbf/ObjectBatch" := (Ex_116.keep K114)
      have Ex_121 : Exa Z T114.heap b4 "com/example/mapcodex/mapcodex/osm/Way" := (((Ex_97.keep K94).keep K110).keep K114)
      obtain ⟨v118, T118, L118, X118, hQ118, st118⟩ := callV X114 hx hZ hown (hw _ (List.mem_of_getElem? (i := 114) rfl)) (hw _ (List.mem_of_getElem? (i := 115) rfl)) (hw _ (List.mem_of_getElem? (i := 117) rfl)) (hw _ (List.mem_of_getElem? (i := 116) rfl)) (hw _ (List.mem_of_getElem? (i := 95) rfl)) (hw _ (List.mem_of_getElem? (i := 118) rfl)) (notFace_of_selects (args := #[]) (mvT hZ (hw _ (List.mem_of_getElem? (i := 117) rfl)))) Ex_120 (by decide) (rm13 l Z a0 hw [] b84 b89 (3 : Int32) ((((0 : Int64) + p2.toInt64) + p3.toInt64) + p4.toInt64) (0 : Int32) (upd (upd (upd (fun _ => .null) 0 (.ref b4)) 1 (.ref b28)) 2 (.ref b55)) b4 T114.heap n0 Zs_119 Ex_120 Fo114 Fs114 Fv114 Fh114 Ar114 Ex_121 ge_b84 ge_b89 ne_b84_b89 (⟨by decide, by decide⟩) rfl) rfl (W := 0) (by decide) (by decide) (by decide) (by decide) (g := (mkF m 193 #[.val (.int p0), .val (.long q1), .second, .val (.int p2), .val (.int p3), .val (.int p4), .val (.int (3 : Int32)), .val (.int (g0_19 p0)), .val (.int (0 : Int32)), .val (.ref b3), .val (.ref b4), .val (.ref b28), .val (.ref b55), .val (.ref b84), .val (.long (g0_189 p2 p3 p4)), .second, .unset] [(.ref b84)])) rfl (by rw [hml]; rfl) (argsL := []) (rest := []) rfl (lenOf pd_8 rfl) rfl (by show 2 * 0 + _ ≤ _; exact Nat.le_of_eq rfl) (hb hby at_193)
      obtain ⟨rfl, Nq118, K118, Fo118, Ar118, Fs118, Fv118, Fh118⟩ := hQ118
      have N118 := Fr.app N114 Nq118
      refine FiniW.st st118 ?_
      show FiniW p e below s _ _ _ T118 (mkF m 196 #[.val (.int p0), .val (.long q1), .second, .val (.int p2), .val (.int p3), .val (.int p4), .val (.int (3 : Int32)), .val (.int (g0_19 p0)), .val (.int (0 : Int32)), .val (.ref b3), .val (.ref b4), .val (.ref b28), .val (.ref b55), .val (.ref b84), .val (.long (g0_189 p2 p3 p4)), .second, .unset] [(.ref b4)])
      refine FiniW.st (fun _ k => XS.aload X118.here hx rfl (hb hby at_196) rfl rfl k) ?_
      show FiniW p e below s _ _ _ T118 (mkF m 198 #[.val (.int p0), .val (.long q1), .second, .val (.int p2), .val (.int p3), .val (.int p4), .val (.int (3 : Int32)), .val (.int (g0_19 p0)), .val (.int (0 : Int32)), .val (.ref b3), .val (.ref b4), .val (.ref b28), .val (.ref b55), .val (.ref b84), .val (.long (g0_189 p2 p3 p4)), .second, .unset] [(.ref b4), (.ref b4)])
      refine FiniW.st (fun _ k => Jvm.RoadKit.acmp (g := (mkF m 198 #[.val (.int p0), .val (.long q1), .second, .val (.int p2), .val (.int p3), .val (.int p4), .val (.int (3 : Int32)), .val (.int (g0_19 p0)), .val (.int (0 : Int32)), .val (.ref b3), .val (.ref b4), .val (.ref b28), .val (.ref b55), .val (.ref b84), .val (.long (g0_189 p2 p3 p4)), .second, .unset] [(.ref b4), (.ref b4)])) X118 hx rfl rfl rfl (pc0 := 198) (pc' := 201) (same := true) rfl (hb hby at_198) rfl (decide_eq_true rfl) (by decide) (by decide) k) ?_
      show FiniW p e below s _ _ _ T118 (mkF m 201 #[.val (.int p0), .val (.long q1), .second, .val (.int p2), .val (.int p3), .val (.int p4), .val (.int (3 : Int32)), .val (.int (g0_19 p0)), .val (.int (0 : Int32)), .val (.ref b3), .val (.ref b4), .val (.ref b28), .val (.ref b55), .val (.ref b84), .val (.long (g0_189 p2 p3 p4)), .second, .unset] [])
      refine FiniW.st (fun _ k => XS.iconst X118.here hx rfl (hb hby at_201) k) ?_
      show FiniW p e below s _ _ _ T118 (mkF m 202 #[.val (.int p0), .val (.long q1), .second, .val (.int p2), .val (.int p3), .val (.int p4), .val (.int (3 : Int32)), .val (.int (g0_19 p0)), .val (.int (0 : Int32)), .val (.ref b3), .val (.ref b4), .val (.ref b28), .val (.ref b55), .val (.ref b84), .val (.long (g0_189 p2 p3 p4)), .second, .unset] [(.int (1 : Int32))])
      refine FiniW.st (fun _ k => XS.goto X118.here hx rfl (pc0 := 202) (pc' := 206) rfl (hb hby at_202) (by decide) (by decide) k) ?_
      show FiniW p e below s _ _ _ T118 (mkF m 206 #[.val (.int p0), .val (.long q1), .second, .val (.int p2), .val (.int p3), .val (.int p4), .val (.int (3 : Int32)), .val (.int (g0_19 p0)), .val (.int (0 : Int32)), .val (.ref b3), .val (.ref b4), .val (.ref b28), .val (.ref b55), .val (.ref b84), .val (.long (g0_189 p2 p3 p4)), .second, .unset] [(.int (1 : Int32))])
      refine FiniW.st (fun _ k => XS.istore X118.here hx rfl (hb hby at_206) rfl (l' := #[.val (.int p0), .val (.long q1), .second, .val (.int p2), .val (.int p3), .val (.int p4), .val (.int (3 : Int32)), .val (.int (g0_19 p0)), .val (.int (0 : Int32)), .val (.ref b3), .val (.ref b4), .val (.ref b28), .val (.ref b55), .val (.ref b84), .val (.long (g0_189 p2 p3 p4)), .second, .val (.int (1 : Int32))]) rfl k) ?_
      show FiniW p e below s _ _ _ T118 (mkF m 208 #[.val (.int p0), .val (.long q1), .second, .val (.int p2), .val (.int p3), .val (.int p4), .val (.int (3 : Int32)), .val (.int (g0_19 p0)), .val (.int (0 : Int32)), .val (.ref b3), .val (.ref b4), .val (.ref b28), .val (.ref b55), .val (.ref b84), .val (.long (g0_189 p2 p3 p4)), .second, .val (.int (1 : Int32))] [])
      refine FiniW.st (fun _ k => XS.iload X118.here hx rfl (hb hby at_208) rfl k) ?_
      show FiniW p e below s _ _ _ T118 (mkF m 210 #[.val (.int p0), .val (.long q1), .second, .val (.int p2), .val (.int p3), .val (.int p4), .val (.int (3 : Int32)), .val (.int (g0_19 p0)), .val (.int (0 : Int32)), .val (.ref b3), .val (.ref b4), .val (.ref b28), .val (.ref b55), .val (.ref b84), .val (.long (g0_189 p2 p3 p4)), .second, .val (.int (1 : Int32))] [(.int (0 : Int32))])
      refine FiniW.st (fun _ k => XS.ifYes X118.here hx rfl (pc0 := 210) (pc' := 230) rfl (hb hby at_210) rfl (XT.i0_eq_t (by decide : (0 : Int32) = (0 : Int32))) (by decide) (by decide) k) ?_
      show FiniW p e below s _ _ _ T118 (mkF m 230 #[.val (.int p0), .val (.long q1), .second, .val (.int p2), .val (.int p3), .val (.int p4), .val (.int (3 : Int32)), .val (.int (g0_19 p0)), .val (.int (0 : Int32)), .val (.ref b3), .val (.ref b4), .val (.ref b28), .val (.ref b55), .val (.ref b84), .val (.long (g0_189 p2 p3 p4)), .second, .val (.int (1 : Int32))] [])
      have Zs_187 : n0 ≤ T118.heap.size := (Nat.le_trans Zs_119 K118.1)
      have Zs_188 : T72.heap.size ≤ T118.heap.size := (Nat.le_trans (Nat.le_trans (Nat.le_trans (Nat.le_trans (Nat.le_trans (Nat.le_trans (Nat.le_refl T72.heap.size) E84.1) K89.1) K94.1) K110.1) K114.1) K118.1)
      have Ex_189 : Exa Z T118.heap b4 "com/example/mapcodex/mapcodex/osm/Way" := (Ex_121.keep K118)
      have Ex_190 : Exa Z T118.heap b28 "com/example/mapcodex/mapcodex/osm/Way" := (((Ex_113.keep K110).keep K114).keep K118)
      have Ex_191 : Exa Z T118.heap b55 "com/example/mapcodex/mapcodex/osm/Way" := ((Ex_117.keep K114).keep K118)
      have Ex_192 : Exa Z T118.heap b84 "com/example/mapcodex/mapcodex/pbf/ObjectBatch" := (Ex_120.keep K118)
      exact B230_3_0 T118 _ _ _ _ (X118.more (cells' := 18) (slots' := 4229) (by decide) (by decide)) rfl hZ hown hS72 b28 b3 b4 b55 b84 b89 N118 Zs_187 Zs_188 Ex_189 Ex_190 Ex_191 Ex_192 Fo118 Fs118 Fv118 Fh118 Ar118 ne_b4_b28 ne_b4_b55 ne_b28_b55 ne_b4_b84 ne_b28_b84 ne_b55_b84 ne_b4_b89 ne_b28_b89 ne_b55_b89 ne_b84_b89 ge_b28 ge_b4 ge_b55 ge_b84 ge_b89 h6
    · skip
      refine FiniW.cast (g' := (mkF m 140 #[.val (.int p0), .val (.long q1), .second, .val (.int p2), .val (.int p3), .val (.int p4), .val (.int (3 : Int32)), .val (.int (g0_19 p0)), .val (.int (1 : Int32)), .val (.ref b3), .val (.ref b4), .val (.ref b28), .val (.ref b55), .val (.ref b84), .val (.long p2.toInt64), .second, .unset] [])) (by rw [h6, h8]) ?_
      show FiniW p e below s _ _ _ T94 (mkF m 140 #[.val (.int p0), .val (.long q1), .second, .val (.int p2), .val (.int p3), .val (.int p4), .val (.int (3 : Int32)), .val (.int (g0_19 p0)), .val (.int (1 : Int32)), .val (.ref b3), .val (.ref b4), .val (.ref b28), .val (.ref b55), .val (.ref b84), .val (.long p2.toInt64), .second, .unset] [])
      refine FiniW.st (fun _ k => XS.iload X94.here hx rfl (hb hby at_140) rfl k) ?_
      show FiniW p e below s _ _ _ T94 (mkF m 142 #[.val (.int p0), .val (.long q1), .second, .val (.int p2), .val (.int p3), .val (.int p4), .val (.int (3 : Int32)), .val (.int (g0_19 p0)), .val (.int (1 : Int32)), .val (.ref b3), .val (.ref b4), .val (.ref b28), .val (.ref b55), .val (.ref b84), .val (.long p2.toInt64), .second, .unset] [(.int (3 : Int32))])
      refine FiniW.st (fun _ k => XS.iconst X94.here hx rfl (hb hby at_142) k) ?_
      show FiniW p e below s _ _ _ T94 (mkF m 143 #[.val (.int p0), .val (.long q1), .second, .val (.int p2), .val (.int p3), .val (.int p4), .val (.int (3 : Int32)), .val (.int (g0_19 p0)), .val (.int (1 : Int32)), .val (.ref b3), .val (.ref b4), .val (.ref b28), .val (.ref b55), .val (.ref b84), .val (.long p2.toInt64), .second, .unset] [(.int (2 : Int32)), (.int (3 : Int32))])
      refine FiniW.st (fun _ k => XS.icmpNo X94.here hx rfl (hb hby at_143) rfl (XT.ii_lt_f (by decide : ¬ (3 : Int32) < (2 : Int32))) k) ?_
      show FiniW p e below s _ _ _ T94 (mkF m 146 #[.val (.int p0), .val (.long q1), .second, .val (.int p2), .val (.int p3), .val (.int p4), .val (.int (3 : Int32)), .val (.int (g0_19 p0)), .val (.int (1 : Int32)), .val (.ref b3), .val (.ref b4), .val (.ref b28), .val (.ref b55), .val (.ref b84), .val (.long p2.toInt64), .second, .unset] [])
      refine FiniW.st (fun _ k => XS.aload X94.here hx rfl (hb hby at_146) rfl rfl k) ?_
      show FiniW p e below s _ _ _ T94 (mkF m 148 #[.val (.int p0), .val (.long q1), .second, .val (.int p2), .val (.int p3), .val (.int p4), .val (.int (3 : Int32)), .val (.int (g0_19 p0)), .val (.int (1 : Int32)), .val (.ref b3), .val (.ref b4), .val (.ref b28), .val (.ref b55), .val (.ref b84), .val (.long p2.toInt64), .second, .unset] [(.ref b84)])
      refine FiniW.st (fun _ k => XS.aload X94.here hx rfl (hb hby at_148) rfl rfl k) ?_
      show FiniW p e below s _ _ _ T94 (mkF m 150 #[.val (.int p0), .val (.long q1), .second, .val (.int p2), .val (.int p3), .val (.int p4), .val (.int (3 : Int32)), .val (.int (g0_19 p0)), .val (.int (1 : Int32)), .val (.ref b3), .val (.ref b4), .val (.ref b28), .val (.ref b55), .val (.ref b84), .val (.long p2.toInt64), .second, .unset] [(.ref b28), (.ref b84)])
      refine FiniW.st (fun _ k => XS.iload X94.here hx rfl (hb hby at_150) rfl k) ?_
      show FiniW p e below s _ _ _ T94 (mkF m 152 #[.val (.int p0), .val (.long q1), .second, .val (.int p2), .val (.int p3), .val (.int p4), .val (.int (3 : Int32)), .val (.int (g0_19 p0)), .val (.int (1 : Int32)), .val (.ref b3), .val (.ref b4), .val (.ref b28), .val (.ref b55), .val (.ref b84), .val (.long p2.toInt64), .second, .unset] [(.int p3), (.ref b28), (.ref b84)])
      have Zs_123 : n0 ≤ T94.heap.size := (Nat.le_trans Zs_95 K94.1)
      have Ex_124 : Exa Z T94.heap b84 "com/example/mapcodex/mapcodex/pbf/ObjectBatch" := (Ex_96.keep K94)
      have Ex_125 : Exa Z T94.heap b28 "com/example/mapcodex/mapcodex/osm/Way" := ((Ex_92.keep K89).keep K94)
      obtain ⟨v122, T122, L122, X122, hQ122, st122⟩ := callV X94 hx hZ hown (hw _ (List.mem_of_getElem? (i := 104) rfl)) (hw _ (List.mem_of_getElem? (i := 105) rfl)) (hw _ (List.mem_of_getElem? (i := 107) rfl)) (hw _ (List.mem_of_getElem? (i := 106) rfl)) (hw _ (List.mem_of_getElem? (i := 95) rfl)) (hw _ (List.mem_of_getElem? (i := 108) rfl)) (notFace_of_selects (args := #[]) (mvT hZ (hw _ (List.mem_of_getElem? (i := 107) rfl)))) Ex_124 (by decide) (rm12 l Z a0 hw [] b84 b28 p3 b89 (1 : Int32) ((0 : Int64) + p2.toInt64) (0 : Int32) (upd (fun _ => .null) 0 (.ref b4)) T94.heap n0 Zs_123 Ex_124 Fo94 Fs94 Fv94 Fh94 Ar94 ge_b84 ge_b89 ne_b84_b89 (⟨by decide, by decide⟩) (Ins.of_exa Ex_125 (hw _ (List.mem_of_getElem? (i := 111) rfl)))) rfl (W := 0) (by decide) (by decide) (by decide) (by decide) (g := (mkF m 152 #[.val (.int p0), .val (.long q1), .second, .val (.int p2), .val (.int p3), .val (.int p4), .val (.int (3 : Int32)), .val (.int (g0_19 p0)), .val (.int (1 : Int32)), .val (.ref b3), .val (.ref b4), .val (.ref b28), .val (.ref b55), .val (.ref b84), .val (.long p2.toInt64), .second, .unset] [(.int p3), (.ref b28), (.ref b84)])) rfl (by rw [hml]; rfl) (argsL := [(.ref b28), (.int p3)]) (rest := []) rfl (lenOf pd_7 rfl) rfl (by show 2 * 0 + _ ≤ _; exact Nat.le_of_eq rfl) (hb hby at_152)
      obtain ⟨rfl, Nq122, K122, Fo122, Ar122, Fs122, Fv122, Fh122⟩ := hQ122
      have N122 := Fr.app N94 Nq122
      refine FiniW.st st122 ?_
      show FiniW p e below s _ _ _ T122 (mkF m 155 #[.val (.int p0), .val (.long q1), .second, .val (.int p2), .val (.int p3), .val (.int p4), .val (.int (3 : Int32)), .val (.int (g0_19 p0)), .val (.int (1 : Int32)), .val (.ref b3), .val (.ref b4), .val (.ref b28), .val (.ref b55), .val (.ref b84), .val (.long p2.toInt64), .second, .unset] [])
      refine FiniW.st (fun _ k => XS.lload X122.here hx rfl (hb hby at_155) rfl k) ?_
      show FiniW p e below s _ _ _ T122 (mkF m 157 #[.val (.int p0), .val (.long q1), .second, .val (.int p2), .val (.int p3), .val (.int p4), .val (.int (3 : Int32)), .val (.int (g0_19 p0)), .val (.int (1 : Int32)), .val (.ref b3), .val (.ref b4), .val (.ref b28), .val (.ref b55), .val (.ref b84), .val (.long p2.toInt64), .second, .unset] [(.long p2.toInt64)])
      refine FiniW.st (fun _ k => XS.iload X122.here hx rfl (hb hby at_157) rfl k) ?_
      show FiniW p e below s _ _ _ T122 (mkF m 159 #[.val (.int p0), .val (.long q1), .second, .val (.int p2), .val (.int p3), .val (.int p4), .val (.int (3 : Int32)), .val (.int (g0_19 p0)), .val (.int (1 : Int32)), .val (.ref b3), .val (.ref b4), .val (.ref b28), .val (.ref b55), .val (.ref b84), .val (.long p2.toInt64), .second, .unset] [(.int p3), (.long p2.toInt64)])
      refine FiniW.st (fun _ k => XS.i2l X122.here hx rfl (hb hby at_159) rfl k) ?_
      show FiniW p e below s _ _ _ T122 (mkF m 160 #[.val (.int p0), .val (.long q1), .second, .val (.int p2), .val (.int p3), .val (.int p4), .val (.int (3 : Int32)), .val (.int (g0_19 p0)), .val (.int (1 : Int32)), .val (.ref b3), .val (.ref b4), .val (.ref b28), .val (.ref b55), .val (.ref b84), .val (.long p2.toInt64), .second, .unset] [(.long p3.toInt64), (.long p2.toInt64)])
      refine FiniW.st (fun _ k => XS.ladd X122.here hx rfl (hb hby at_160) rfl k) ?_
      show FiniW p e below s _ _ _ T122 (mkF m 161 #[.val (.int p0), .val (.long q1), .second, .val (.int p2), .val (.int p3), .val (.int p4), .val (.int (3 : Int32)), .val (.int (g0_19 p0)), .val (.int (1 : Int32)), .val (.ref b3), .val (.ref b4), .val (.ref b28), .val (.ref b55), .val (.ref b84), .val (.long p2.toInt64), .second, .unset] [(.long (p2.toInt64 + p3.toInt64))])
      refine FiniW.st (fun _ k => XS.lstore X122.here hx rfl (hb hby at_161) rfl (l' := #[.val (.int p0), .val (.long q1), .second, .val (.int p2), .val (.int p3), .val (.int p4), .val (.int (3 : Int32)), .val (.int (g0_19 p0)), .val (.int (1 : Int32)), .val (.ref b3), .val (.ref b4), .val (.ref b28), .val (.ref b55), .val (.ref b84), .val (.long (g0_161 p2 p3)), .second, .unset]) rfl k) ?_
      show FiniW p e below s _ _ _ T122 (mkF m 163 #[.val (.int p0), .val (.long q1), .second, .val (.int p2), .val (.int p3), .val (.int p4), .val (.int (3 : Int32)), .val (.int (g0_19 p0)), .val (.int (1 : Int32)), .val (.ref b3), .val (.ref b4), .val (.ref b28), .val (.ref b55), .val (.ref b84), .val (.long (g0_161 p2 p3)), .second, .unset] [])
      refine FiniW.st (fun _ k => XS.iload X122.here hx rfl (hb hby at_163) rfl k) ?_
      show FiniW p e below s _ _ _ T122 (mkF m 165 #[.val (.int p0), .val (.long q1), .second, .val (.int p2), .val (.int p3), .val (.int p4), .val (.int (3 : Int32)), .val (.int (g0_19 p0)), .val (.int (1 : Int32)), .val (.ref b3), .val (.ref b4), .val (.ref b28), .val (.ref b55), .val (.ref b84), .val (.long (g0_161 p2 p3)), .second, .unset] [(.int (3 : Int32))])
      refine FiniW.st (fun _ k => XS.iconst X122.here hx rfl (hb hby at_165) k) ?_
      show FiniW p e below s _ _ _ T122 (mkF m 166 #[.val (.int p0), .val (.long q1), .second, .val (.int p2), .val (.int p3), .val (.int p4), .val (.int (3 : Int32)), .val (.int (g0_19 p0)), .val (.int (1 : Int32)), .val (.ref b3), .val (.ref b4), .val (.ref b28), .val (.ref b55), .val (.ref b84), .val (.long (g0_161 p2 p3)), .second, .unset] [(.int (3 : Int32)), (.int (3 : Int32))])
      refine FiniW.st (fun _ k => XS.icmpNo X122.here hx rfl (hb hby at_166) rfl (XT.ii_lt_f (by decide : ¬ (3 : Int32) < (3 : Int32))) k) ?_
      show FiniW p e below s _ _ _ T122 (mkF m 169 #[.val (.int p0), .val (.long q1), .second, .val (.int p2), .val (.int p3), .val (.int p4), .val (.int (3 : Int32)), .val (.int (g0_19 p0)), .val (.int (1 : Int32)), .val (.ref b3), .val (.ref b4), .val (.ref b28), .val (.ref b55), .val (.ref b84), .val (.long (g0_161 p2 p3)), .second, .unset] [])
      refine FiniW.st (fun _ k => XS.iload X122.here hx rfl (hb hby at_169) rfl k) ?_
      show FiniW p e below s _ _ _ T122 (mkF m 171 #[.val (.int p0), .val (.long q1), .second, .val (.int p2), .val (.int p3), .val (.int p4), .val (.int (3 : Int32)), .val (.int (g0_19 p0)), .val (.int (1 : Int32)), .val (.ref b3), .val (.ref b4), .val (.ref b28), .val (.ref b55), .val (.ref b84), .val (.long (g0_161 p2 p3)), .second, .unset] [(.int (1 : Int32))])
      refine FiniW.st (fun _ k => XS.ifYes X122.here hx rfl (pc0 := 171) (pc' := 191) rfl (hb hby at_171) rfl (XT.i0_ne_t (by decide : ¬ (1 : Int32) = (0 : Int32))) (by decide) (by decide) k) ?_
      show FiniW p e below s _ _ _ T122 (mkF m 191 #[.val (.int p0), .val (.long q1), .second, .val (.int p2), .val (.int p3), .val (.int p4), .val (.int (3 : Int32)), .val (.int (g0_19 p0)), .val (.int (1 : Int32)), .val (.ref b3), .val (.ref b4), .val (.ref b28), .val (.ref b55), .val (.ref b84), .val (.long (g0_161 p2 p3)), .second, .unset] [])
      refine FiniW.st (fun _ k => XS.aload X122.here hx rfl (hb hby at_191) rfl rfl k) ?_
      show FiniW p e below s _ _ _ T122 (mkF m 193 #[.val (.int p0), .val (.long q1), .second, .val (.int p2), .val (.int p3), .val (.int p4), .val (.int (3 : Int32)), .val (.int (g0_19 p0)), .val (.int (1 : Int32)), .val (.ref b3), .val (.ref b4), .val (.ref b28), .val (.ref b55), .val (.ref b84), .val (.long (g0_161 p2 p3)), .second, .unset] [(.ref b84)])
      have Zs_127 : n0 ≤ T122.heap.size := (Nat.le_trans Zs_123 K122.1)
      have Ex_128 : Exa Z T122.heap b84 "com/example/mapcodex/mapcodex/pbf/ObjectBatch" := (Ex_124.keep K122)
      have Ex_129 : Exa Z T122.heap b4 "com/example/mapcodex/mapcodex/osm/Way" := ((Ex_97.keep K94).keep K122)
      obtain ⟨v126, T126, L126, X126, hQ126, st126⟩ := callV X122 hx hZ hown (hw _ (List.mem_of_getElem? (i := 114) rfl)) (hw _ (List.mem_of_getElem? (i := 115) rfl)) (hw _ (List.mem_of_getElem? (i := 117) rfl)) (hw _ (List.mem_of_getElem? (i := 116) rfl)) (hw _ (List.mem_of_getElem? (i := 95) rfl)) (hw _ (List.mem_of_getElem? (i := 118) rfl)) (notFace_of_selects (args := #[]) (mvT hZ (hw _ (List.mem_of_getElem? (i := 117) rfl)))) Ex_128 (by decide) (rm13 l Z a0 hw [] b84 b89 (2 : Int32) (((0 : Int64) + p2.toInt64) + p3.toInt64) (0 : Int32) (upd (upd (fun _ => .null) 0 (.ref b4)) 1 (.ref b28)) b4 T122.heap n0 Zs_127 Ex_128 Fo122 Fs122 Fv122 Fh122 Ar122 Ex_129 ge_b84 ge_b89 ne_b84_b89 (⟨by decide, by decide⟩) rfl) rfl (W := 0) (by decide) (by decide) (by decide) (by decide) (g := (mkF m 193 #[.val (.int p0), .val (.long q1), .second, .val (.int p2), .val (.int p3), .val (.int p4), .val (.int (3 : Int32)), .val (.int (g0_19 p0)), .val (.int (1 : Int32)), .val (.ref b3), .val (.ref b4), .val (.ref b28), .val (.ref b55), .val (.ref b84), .val (.long (g0_161 p2 p3)), .second, .unset] [(.ref b84)])) rfl (by rw [hml]; rfl) (argsL := []) (rest := []) rfl (lenOf pd_8 rfl) rfl (by show 2 * 0 + _ ≤ _; exact Nat.le_of_eq rfl) (hb hby at_193)
      obtain ⟨rfl, Nq126, K126, Fo126, Ar126, Fs126, Fv126, Fh126⟩ := hQ126
      have N126 := Fr.app N122 Nq126
      refine FiniW.st st126 ?_
      show FiniW p e below s _ _ _ T126 (mkF m 196 #[.val (.int p0), .val (.long q1), .second, .val (.int p2), .val (.int p3), .val (.int p4), .val (.int (3 : Int32)), .val (.int (g0_19 p0)), .val (.int (1 : Int32)), .val (.ref b3), .val (.ref b4), .val (.ref b28), .val (.ref b55), .val (.ref b84), .val (.long (g0_161 p2 p3)), .second, .unset] [(.ref b4)])
      refine FiniW.st (fun _ k => XS.aload X126.here hx rfl (hb hby at_196) rfl rfl k) ?_
      show FiniW p e below s _ _ _ T126 (mkF m 198 #[.val (.int p0), .val (.long q1), .second, .val (.int p2), .val (.int p3), .val (.int p4), .val (.int (3 : Int32)), .val (.int (g0_19 p0)), .val (.int (1 : Int32)), .val (.ref b3), .val (.ref b4), .val (.ref b28), .val (.ref b55), .val (.ref b84), .val (.long (g0_161 p2 p3)), .second, .unset] [(.ref b4), (.ref b4)])
      refine FiniW.st (fun _ k => Jvm.RoadKit.acmp (g := (mkF m 198 #[.val (.int p0), .val (.long q1), .second, .val (.int p2), .val (.int p3), .val (.int p4), .val (.int (3 : Int32)), .val (.int (g0_19 p0)), .val (.int (1 : Int32)), .val (.ref b3), .val (.ref b4), .val (.ref b28), .val (.ref b55), .val (.ref b84), .val (.long (g0_161 p2 p3)), .second, .unset] [(.ref b4), (.ref b4)])) X126 hx rfl rfl rfl (pc0 := 198) (pc' := 201) (same := true) rfl (hb hby at_198) rfl (decide_eq_true rfl) (by decide) (by decide) k) ?_
      show FiniW p e below s _ _ _ T126 (mkF m 201 #[.val (.int p0), .val (.long q1), .second, .val (.int p2), .val (.int p3), .val (.int p4), .val (.int (3 : Int32)), .val (.int (g0_19 p0)), .val (.int (1 : Int32)), .val (.ref b3), .val (.ref b4), .val (.ref b28), .val (.ref b55), .val (.ref b84), .val (.long (g0_161 p2 p3)), .second, .unset] [])
      refine FiniW.st (fun _ k => XS.iconst X126.here hx rfl (hb hby at_201) k) ?_
      show FiniW p e below s _ _ _ T126 (mkF m 202 #[.val (.int p0), .val (.long q1), .second, .val (.int p2), .val (.int p3), .val (.int p4), .val (.int (3 : Int32)), .val (.int (g0_19 p0)), .val (.int (1 : Int32)), .val (.ref b3), .val (.ref b4), .val (.ref b28), .val (.ref b55), .val (.ref b84), .val (.long (g0_161 p2 p3)), .second, .unset] [(.int (1 : Int32))])
      refine FiniW.st (fun _ k => XS.goto X126.here hx rfl (pc0 := 202) (pc' := 206) rfl (hb hby at_202) (by decide) (by decide) k) ?_
      show FiniW p e below s _ _ _ T126 (mkF m 206 #[.val (.int p0), .val (.long q1), .second, .val (.int p2), .val (.int p3), .val (.int p4), .val (.int (3 : Int32)), .val (.int (g0_19 p0)), .val (.int (1 : Int32)), .val (.ref b3), .val (.ref b4), .val (.ref b28), .val (.ref b55), .val (.ref b84), .val (.long (g0_161 p2 p3)), .second, .unset] [(.int (1 : Int32))])
      refine FiniW.st (fun _ k => XS.istore X126.here hx rfl (hb hby at_206) rfl (l' := #[.val (.int p0), .val (.long q1), .second, .val (.int p2), .val (.int p3), .val (.int p4), .val (.int (3 : Int32)), .val (.int (g0_19 p0)), .val (.int (1 : Int32)), .val (.ref b3), .val (.ref b4), .val (.ref b28), .val (.ref b55), .val (.ref b84), .val (.long (g0_161 p2 p3)), .second, .val (.int (1 : Int32))]) rfl k) ?_
      show FiniW p e below s _ _ _ T126 (mkF m 208 #[.val (.int p0), .val (.long q1), .second, .val (.int p2), .val (.int p3), .val (.int p4), .val (.int (3 : Int32)), .val (.int (g0_19 p0)), .val (.int (1 : Int32)), .val (.ref b3), .val (.ref b4), .val (.ref b28), .val (.ref b55), .val (.ref b84), .val (.long (g0_161 p2 p3)), .second, .val (.int (1 : Int32))] [])
      refine FiniW.st (fun _ k => XS.iload X126.here hx rfl (hb hby at_208) rfl k) ?_
      show FiniW p e below s _ _ _ T126 (mkF m 210 #[.val (.int p0), .val (.long q1), .second, .val (.int p2), .val (.int p3), .val (.int p4), .val (.int (3 : Int32)), .val (.int (g0_19 p0)), .val (.int (1 : Int32)), .val (.ref b3), .val (.ref b4), .val (.ref b28), .val (.ref b55), .val (.ref b84), .val (.long (g0_161 p2 p3)), .second, .val (.int (1 : Int32))] [(.int (1 : Int32))])
      refine FiniW.st (fun _ k => XS.ifNo X126.here hx rfl (hb hby at_210) rfl (XT.i0_eq_f (by decide : ¬ (1 : Int32) = (0 : Int32))) k) ?_
      show FiniW p e below s _ _ _ T126 (mkF m 213 #[.val (.int p0), .val (.long q1), .second, .val (.int p2), .val (.int p3), .val (.int p4), .val (.int (3 : Int32)), .val (.int (g0_19 p0)), .val (.int (1 : Int32)), .val (.ref b3), .val (.ref b4), .val (.ref b28), .val (.ref b55), .val (.ref b84), .val (.long (g0_161 p2 p3)), .second, .val (.int (1 : Int32))] [])
      refine FiniW.st (fun _ k => XS.aload X126.here hx rfl (hb hby at_213) rfl rfl k) ?_
      show FiniW p e below s _ _ _ T126 (mkF m 215 #[.val (.int p0), .val (.long q1), .second, .val (.int p2), .val (.int p3), .val (.int p4), .val (.int (3 : Int32)), .val (.int (g0_19 p0)), .val (.int (1 : Int32)), .val (.ref b3), .val (.ref b4), .val (.ref b28), .val (.ref b55), .val (.ref b84), .val (.long (g0_161 p2 p3)), .second, .val (.int (1 : Int32))] [(.ref b84)])
      refine FiniW.st (fun _ k => XS.aload X126.here hx rfl (hb hby at_215) rfl rfl k) ?_
      show FiniW p e below s _ _ _ T126 (mkF m 217 #[.val (.int p0), .val (.long q1), .second, .val (.int p2), .val (.int p3), .val (.int p4), .val (.int (3 : Int32)), .val (.int (g0_19 p0)), .val (.int (1 : Int32)), .val (.ref b3), .val (.ref b4), .val (.ref b28), .val (.ref b55), .val (.ref b84), .val (.long (g0_161 p2 p3)), .second, .val (.int (1 : Int32))] [(.ref b55), (.ref b84)])
      refine FiniW.st (fun _ k => XS.iload X126.here hx rfl (hb hby at_217) rfl k) ?_
      show FiniW p e below s _ _ _ T126 (mkF m 219 #[.val (.int p0), .val (.long q1), .second, .val (.int p2), .val (.int p3), .val (.int p4), .val (.int (3 : Int32)), .val (.int (g0_19 p0)), .val (.int (1 : Int32)), .val (.ref b3), .val (.ref b4), .val (.ref b28), .val (.ref b55), .val (.ref b84), .val (.long (g0_161 p2 p3)), .second, .val (.int (1 : Int32))] [(.int p4), (.ref b55), (.ref b84)])
      have Zs_131 : n0 ≤ T126.heap.size := (Nat.le_trans Zs_127 K126.1)
      have Ex_132 : Exa Z T126.heap b84 "com/example/mapcodex/mapcodex/pbf/ObjectBatch" := (Ex_128.keep K126)
      have Ex_133 : Exa Z T126.heap b55 "com/example/mapcodex/mapcodex/osm/Way" := ((((Ex_93.keep K89).keep K94).keep K122).keep K126)
      obtain ⟨v130, T130, L130, X130, hQ130, st130⟩ := callV X126 hx hZ hown (hw _ (List.mem_of_getElem? (i := 104) rfl)) (hw _ (List.mem_of_getElem? (i := 105) rfl)) (hw _ (List.mem_of_getElem? (i := 107) rfl)) (hw _ (List.mem_of_getElem? (i := 106) rfl)) (hw _ (List.mem_of_getElem? (i := 95) rfl)) (hw _ (List.mem_of_getElem? (i := 108) rfl)) (notFace_of_selects (args := #[]) (mvT hZ (hw _ (List.mem_of_getElem? (i := 107) rfl)))) Ex_132 (by decide) (rm12 l Z a0 hw [] b84 b55 p4 b89 (2 : Int32) (((0 : Int64) + p2.toInt64) + p3.toInt64) (1 : Int32) (upd (upd (upd (fun _ => .null) 0 (.ref b4)) 1 (.ref b28)) 0 .null) T126.heap n0 Zs_131 Ex_132 Fo126 Fs126 Fv126 Fh126 Ar126 ge_b84 ge_b89 ne_b84_b89 (⟨by decide, by decide⟩) (Ins.of_exa Ex_133 (hw _ (List.mem_of_getElem? (i := 111) rfl)))) rfl (W := 0) (by decide) (by decide) (by decide) (by decide) (g := (mkF m 219 #[.val (.int p0), .val (.long q1), .second, .val (.int p2), .val (.int p3), .val (.int p4), .val (.int (3 : Int32)), .val (.int (g0_19 p0)), .val (.int (1 : Int32)), .val (.ref b3), .val (.ref b4), .val (.ref b28), .val (.ref b55), .val (.ref b84), .val (.long (g0_161 p2 p3)), .second, .val (.int (1 : Int32))] [(.int p4), (.ref b55), (.ref b84)])) rfl (by rw [hml]; rfl) (argsL := [(.ref b55), (.int p4)]) (rest := []) rfl (lenOf pd_7 rfl) rfl (by show 2 * 0 + _ ≤ _; exact Nat.le_of_eq rfl) (hb hby at_219)
      obtain ⟨rfl, Nq130, K130, Fo130, Ar130, Fs130, Fv130, Fh130⟩ := hQ130
      have N130 := Fr.app N126 Nq130
      refine FiniW.st st130 ?_
      show FiniW p e below s _ _ _ T130 (mkF m 222 #[.val (.int p0), .val (.long q1), .second, .val (.int p2), .val (.int p3), .val (.int p4), .val (.int (3 : Int32)), .val (.int (g0_19 p0)), .val (.int (1 : Int32)), .val (.ref b3), .val (.ref b4), .val (.ref b28), .val (.ref b55), .val (.ref b84), .val (.long (g0_161 p2 p3)), .second, .val (.int (1 : Int32))] [])
      refine FiniW.st (fun _ k => XS.lload X130.here hx rfl (hb hby at_222) rfl k) ?_
      show FiniW p e below s _ _ _ T130 (mkF m 224 #[.val (.int p0), .val (.long q1), .second, .val (.int p2), .val (.int p3), .val (.int p4), .val (.int (3 : Int32)), .val (.int (g0_19 p0)), .val (.int (1 : Int32)), .val (.ref b3), .val (.ref b4), .val (.ref b28), .val (.ref b55), .val (.ref b84), .val (.long (g0_161 p2 p3)), .second, .val (.int (1 : Int32))] [(.long (g0_161 p2 p3))])
      refine FiniW.st (fun _ k => XS.iload X130.here hx rfl (hb hby at_224) rfl k) ?_
      show FiniW p e below s _ _ _ T130 (mkF m 226 #[.val (.int p0), .val (.long q1), .second, .val (.int p2), .val (.int p3), .val (.int p4), .val (.int (3 : Int32)), .val (.int (g0_19 p0)), .val (.int (1 : Int32)), .val (.ref b3), .val (.ref b4), .val (.ref b28), .val (.ref b55), .val (.ref b84), .val (.long (g0_161 p2 p3)), .second, .val (.int (1 : Int32))] [(.int p4), (.long (g0_161 p2 p3))])
      refine FiniW.st (fun _ k => XS.i2l X130.here hx rfl (hb hby at_226) rfl k) ?_
      show FiniW p e below s _ _ _ T130 (mkF m 227 #[.val (.int p0), .val (.long q1), .second, .val (.int p2), .val (.int p3), .val (.int p4), .val (.int (3 : Int32)), .val (.int (g0_19 p0)), .val (.int (1 : Int32)), .val (.ref b3), .val (.ref b4), .val (.ref b28), .val (.ref b55), .val (.ref b84), .val (.long (g0_161 p2 p3)), .second, .val (.int (1 : Int32))] [(.long p4.toInt64), (.long (g0_161 p2 p3))])
      refine FiniW.st (fun _ k => XS.ladd X130.here hx rfl (hb hby at_227) rfl k) ?_
      show FiniW p e below s _ _ _ T130 (mkF m 228 #[.val (.int p0), .val (.long q1), .second, .val (.int p2), .val (.int p3), .val (.int p4), .val (.int (3 : Int32)), .val (.int (g0_19 p0)), .val (.int (1 : Int32)), .val (.ref b3), .val (.ref b4), .val (.ref b28), .val (.ref b55), .val (.ref b84), .val (.long (g0_161 p2 p3)), .second, .val (.int (1 : Int32))] [(.long ((g0_161 p2 p3) + p4.toInt64))])
      refine FiniW.st (fun _ k => XS.lstore X130.here hx rfl (hb hby at_228) rfl (l' := #[.val (.int p0), .val (.long q1), .second, .val (.int p2), .val (.int p3), .val (.int p4), .val (.int (3 : Int32)), .val (.int (g0_19 p0)), .val (.int (1 : Int32)), .val (.ref b3), .val (.ref b4), .val (.ref b28), .val (.ref b55), .val (.ref b84), .val (.long (g0_189 p2 p3 p4)), .second, .val (.int (1 : Int32))]) rfl k) ?_
      show FiniW p e below s _ _ _ T130 (mkF m 230 #[.val (.int p0), .val (.long q1), .second, .val (.int p2), .val (.int p3), .val (.int p4), .val (.int (3 : Int32)), .val (.int (g0_19 p0)), .val (.int (1 : Int32)), .val (.ref b3), .val (.ref b4), .val (.ref b28), .val (.ref b55), .val (.ref b84), .val (.long (g0_189 p2 p3 p4)), .second, .val (.int (1 : Int32))] [])
      have Zs_193 : n0 ≤ T130.heap.size := (Nat.le_trans Zs_131 K130.1)
      have Zs_194 : T72.heap.size ≤ T130.heap.size := (Nat.le_trans (Nat.le_trans (Nat.le_trans (Nat.le_trans (Nat.le_trans (Nat.le_trans (Nat.le_refl T72.heap.size) E84.1) K89.1) K94.1) K122.1) K126.1) K130.1)
      have Ex_195 : Exa Z T130.heap b4 "com/example/mapcodex/mapcodex/osm/Way" := ((Ex_129.keep K126).keep K130)
      have Ex_196 : Exa Z T130.heap b28 "com/example/mapcodex/mapcodex/osm/Way" := (((Ex_125.keep K122).keep K126).keep K130)
      have Ex_197 : Exa Z T130.heap b55 "com/example/mapcodex/mapcodex/osm/Way" := (Ex_133.keep K130)
      have Ex_198 : Exa Z T130.heap b84 "com/example/mapcodex/mapcodex/pbf/ObjectBatch" := (Ex_132.keep K130)
      exact B230_3_1 T130 _ _ _ _ (X130.more (cells' := 18) (slots' := 4229) (by decide) (by decide)) rfl hZ hown hS72 b28 b3 b4 b55 b84 b89 N130 Zs_193 Zs_194 Ex_195 Ex_196 Ex_197 Ex_198 Fo130 Fs130 Fv130 Fh130 Ar130 ne_b4_b28 ne_b4_b55 ne_b28_b55 ne_b4_b84 ne_b28_b84 ne_b55_b84 ne_b4_b89 ne_b28_b89 ne_b55_b89 ne_b84_b89 ge_b28 ge_b4 ge_b55 ge_b84 ge_b89 h6
  show FiniW p e below s (fun v h' L => v = some (.int 1) ∧ Fr n0 L) _ _ s₁ (entryFrame m #[(.int p0), (.long q1), (.int p2), (.int p3), (.int p4)] maxLocals)
  refine FiniW.cast (ef0 m p0 q1 p2 p3 p4) ?_
  show FiniW p e below s _ _ _ s₁ (mkF m 0 #[.val (.int p0), .val (.long q1), .second, .val (.int p2), .val (.int p3), .val (.int p4), .unset, .unset, .unset, .unset, .unset, .unset, .unset, .unset, .unset, .unset, .unset] [])
  refine FiniW.st (fun _ k => XS.iconst X0.here hx rfl (hb hby at_0) k) ?_
  show FiniW p e below s _ _ _ s₁ (mkF m 1 #[.val (.int p0), .val (.long q1), .second, .val (.int p2), .val (.int p3), .val (.int p4), .unset, .unset, .unset, .unset, .unset, .unset, .unset, .unset, .unset, .unset, .unset] [(.int (1 : Int32))])
  refine FiniW.st (fun _ k => XS.iloadN X0.here hx rfl (hb hby at_1) rfl k) ?_
  show FiniW p e below s _ _ _ s₁ (mkF m 2 #[.val (.int p0), .val (.long q1), .second, .val (.int p2), .val (.int p3), .val (.int p4), .unset, .unset, .unset, .unset, .unset, .unset, .unset, .unset, .unset, .unset, .unset] [(.int p0), (.int (1 : Int32))])
  refine FiniW.st (fun _ k => XS.iconst X0.here hx rfl (hb hby at_2) k) ?_
  show FiniW p e below s _ _ _ s₁ (mkF m 3 #[.val (.int p0), .val (.long q1), .second, .val (.int p2), .val (.int p3), .val (.int p4), .unset, .unset, .unset, .unset, .unset, .unset, .unset, .unset, .unset, .unset, .unset] [(.int (3 : Int32)), (.int p0), (.int (1 : Int32))])
  refine FiniW.st (fun _ k => XS.iand X0.here hx rfl (hb hby at_3) rfl k) ?_
  show FiniW p e below s _ _ _ s₁ (mkF m 4 #[.val (.int p0), .val (.long q1), .second, .val (.int p2), .val (.int p3), .val (.int p4), .unset, .unset, .unset, .unset, .unset, .unset, .unset, .unset, .unset, .unset, .unset] [(.int (p0 &&& (3 : Int32))), (.int (1 : Int32))])
  refine FiniW.st (fun _ k => XS.iconst X0.here hx rfl (hb hby at_4) k) ?_
  show FiniW p e below s _ _ _ s₁ (mkF m 5 #[.val (.int p0), .val (.long q1), .second, .val (.int p2), .val (.int p3), .val (.int p4), .unset, .unset, .unset, .unset, .unset, .unset, .unset, .unset, .unset, .unset, .unset] [(.int (3 : Int32)), (.int (p0 &&& (3 : Int32))), (.int (1 : Int32))])
  refine FiniW.st (fun _ k => iremM X0 hx rfl (hb hby at_5) rfl (by decide) k) ?_
  show FiniW p e below s _ _ _ s₁ (mkF m 6 #[.val (.int p0), .val (.long q1), .second, .val (.int p2), .val (.int p3), .val (.int p4), .unset, .unset, .unset, .unset, .unset, .unset, .unset, .unset, .unset, .unset, .unset] [(.int ((p0 &&& (3 : Int32)) % (3 : Int32))), (.int (1 : Int32))])
  refine FiniW.st (fun _ k => XS.iadd X0.here hx rfl (hb hby at_6) rfl k) ?_
  show FiniW p e below s _ _ _ s₁ (mkF m 7 #[.val (.int p0), .val (.long q1), .second, .val (.int p2), .val (.int p3), .val (.int p4), .unset, .unset, .unset, .unset, .unset, .unset, .unset, .unset, .unset, .unset, .unset] [(.int ((1 : Int32) + ((p0 &&& (3 : Int32)) % (3 : Int32))))])
  refine FiniW.st (fun _ k => XS.istore X0.here hx rfl (hb hby at_7) rfl (l' := #[.val (.int p0), .val (.long q1), .second, .val (.int p2), .val (.int p3), .val (.int p4), .val (.int (g0_7 p0)), .unset, .unset, .unset, .unset, .unset, .unset, .unset, .unset, .unset, .unset]) rfl k) ?_
  show FiniW p e below s _ _ _ s₁ (mkF m 9 #[.val (.int p0), .val (.long q1), .second, .val (.int p2), .val (.int p3), .val (.int p4), .val (.int (g0_7 p0)), .unset, .unset, .unset, .unset, .unset, .unset, .unset, .unset, .unset, .unset] [])
  refine FiniW.st (fun _ k => XS.iconst X0.here hx rfl (hb hby at_9) k) ?_
  show FiniW p e below s _ _ _ s₁ (mkF m 10 #[.val (.int p0), .val (.long q1), .second, .val (.int p2), .val (.int p3), .val (.int p4), .val (.int (g0_7 p0)), .unset, .unset, .unset, .unset, .unset, .unset, .unset, .unset, .unset, .unset] [(.int (1 : Int32))])
  refine FiniW.st (fun _ k => XS.iloadN X0.here hx rfl (hb hby at_10) rfl k) ?_
  show FiniW p e below s _ _ _ s₁ (mkF m 11 #[.val (.int p0), .val (.long q1), .second, .val (.int p2), .val (.int p3), .val (.int p4), .val (.int (g0_7 p0)), .unset, .unset, .unset, .unset, .unset, .unset, .unset, .unset, .unset, .unset] [(.int p0), (.int (1 : Int32))])
  refine FiniW.st (fun _ k => XS.iconst X0.here hx rfl (hb hby at_11) k) ?_
  show FiniW p e below s _ _ _ s₁ (mkF m 12 #[.val (.int p0), .val (.long q1), .second, .val (.int p2), .val (.int p3), .val (.int p4), .val (.int (g0_7 p0)), .unset, .unset, .unset, .unset, .unset, .unset, .unset, .unset, .unset, .unset] [(.int (2 : Int32)), (.int p0), (.int (1 : Int32))])
  refine FiniW.st (fun _ k => XS.iushr X0.here hx rfl (hb hby at_12) rfl k) ?_
  show FiniW p e below s _ _ _ s₁ (mkF m 13 #[.val (.int p0), .val (.long q1), .second, .val (.int p2), .val (.int p3), .val (.int p4), .val (.int (g0_7 p0)), .unset, .unset, .unset, .unset, .unset, .unset, .unset, .unset, .unset, .unset] [(.int (p0.toUInt32 >>> ((2 : Int32) &&& 31).toUInt32).toInt32), (.int (1 : Int32))])
  refine FiniW.st (fun _ k => XS.iconst X0.here hx rfl (hb hby at_13) k) ?_
  show FiniW p e below s _ _ _ s₁ (mkF m 14 #[.val (.int p0), .val (.long q1), .second, .val (.int p2), .val (.int p3), .val (.int p4), .val (.int (g0_7 p0)), .unset, .unset, .unset, .unset, .unset, .unset, .unset, .unset, .unset, .unset] [(.int (3 : Int32)), (.int (p0.toUInt32 >>> ((2 : Int32) &&& 31).toUInt32).toInt32), (.int (1 : Int32))])
  refine FiniW.st (fun _ k => XS.iand X0.here hx rfl (hb hby at_14) rfl k) ?_
  show FiniW p e below s _ _ _ s₁ (mkF m 15 #[.val (.int p0), .val (.long q1), .second, .val (.int p2), .val (.int p3), .val (.int p4), .val (.int (g0_7 p0)), .unset, .unset, .unset, .unset, .unset, .unset, .unset, .unset, .unset, .unset] [(.int ((p0.toUInt32 >>> ((2 : Int32) &&& 31).toUInt32).toInt32 &&& (3 : Int32))), (.int (1 : Int32))])
  refine FiniW.st (fun _ k => XS.iload X0.here hx rfl (hb hby at_15) rfl k) ?_
  show FiniW p e below s _ _ _ s₁ (mkF m 17 #[.val (.int p0), .val (.long q1), .second, .val (.int p2), .val (.int p3), .val (.int p4), .val (.int (g0_7 p0)), .unset, .unset, .unset, .unset, .unset, .unset, .unset, .unset, .unset, .unset] [(.int (g0_7 p0)), (.int ((p0.toUInt32 >>> ((2 : Int32) &&& 31).toUInt32).toInt32 &&& (3 : Int32))), (.int (1 : Int32))])
  refine FiniW.st (fun _ k => iremM X0 hx rfl (hb hby at_17) rfl (own_nz p0) k) ?_
  show FiniW p e below s _ _ _ s₁ (mkF m 18 #[.val (.int p0), .val (.long q1), .second, .val (.int p2), .val (.int p3), .val (.int p4), .val (.int (g0_7 p0)), .unset, .unset, .unset, .unset, .unset, .unset, .unset, .unset, .unset, .unset] [(.int (((p0.toUInt32 >>> ((2 : Int32) &&& 31).toUInt32).toInt32 &&& (3 : Int32)) % (g0_7 p0))), (.int (1 : Int32))])
  refine FiniW.st (fun _ k => XS.iadd X0.here hx rfl (hb hby at_18) rfl k) ?_
  show FiniW p e below s _ _ _ s₁ (mkF m 19 #[.val (.int p0), .val (.long q1), .second, .val (.int p2), .val (.int p3), .val (.int p4), .val (.int (g0_7 p0)), .unset, .unset, .unset, .unset, .unset, .unset, .unset, .unset, .unset, .unset] [(.int ((1 : Int32) + (((p0.toUInt32 >>> ((2 : Int32) &&& 31).toUInt32).toInt32 &&& (3 : Int32)) % (g0_7 p0))))])
  refine FiniW.st (fun _ k => XS.istore X0.here hx rfl (hb hby at_19) rfl (l' := #[.val (.int p0), .val (.long q1), .second, .val (.int p2), .val (.int p3), .val (.int p4), .val (.int (g0_7 p0)), .val (.int (g0_19 p0)), .unset, .unset, .unset, .unset, .unset, .unset, .unset, .unset, .unset]) rfl k) ?_
  show FiniW p e below s _ _ _ s₁ (mkF m 21 #[.val (.int p0), .val (.long q1), .second, .val (.int p2), .val (.int p3), .val (.int p4), .val (.int (g0_7 p0)), .val (.int (g0_19 p0)), .unset, .unset, .unset, .unset, .unset, .unset, .unset, .unset, .unset] [])
  refine FiniW.st (fun _ k => XS.iload X0.here hx rfl (hb hby at_21) rfl k) ?_
  show FiniW p e below s _ _ _ s₁ (mkF m 23 #[.val (.int p0), .val (.long q1), .second, .val (.int p2), .val (.int p3), .val (.int p4), .val (.int (g0_7 p0)), .val (.int (g0_19 p0)), .unset, .unset, .unset, .unset, .unset, .unset, .unset, .unset, .unset] [(.int (g0_7 p0))])
  refine FiniW.st (fun _ k => XS.iconst X0.here hx rfl (hb hby at_23) k) ?_
  show FiniW p e below s _ _ _ s₁ (mkF m 24 #[.val (.int p0), .val (.long q1), .second, .val (.int p2), .val (.int p3), .val (.int p4), .val (.int (g0_7 p0)), .val (.int (g0_19 p0)), .unset, .unset, .unset, .unset, .unset, .unset, .unset, .unset, .unset] [(.int (3 : Int32)), (.int (g0_7 p0))])
  by_cases c1 : (g0_7 p0) = (3 : Int32)
  · skip
    refine FiniW.st (fun _ k => XS.icmpNo X0.here hx rfl (hb hby at_24) rfl (XT.ii_ne_f c1) k) ?_
    show FiniW p e below s _ _ _ s₁ (mkF m 27 #[.val (.int p0), .val (.long q1), .second, .val (.int p2), .val (.int p3), .val (.int p4), .val (.int (g0_7 p0)), .val (.int (g0_19 p0)), .unset, .unset, .unset, .unset, .unset, .unset, .unset, .unset, .unset] [])
    refine FiniW.st (fun _ k => XS.iloadN X0.here hx rfl (hb hby at_27) rfl k) ?_
    show FiniW p e below s _ _ _ s₁ (mkF m 28 #[.val (.int p0), .val (.long q1), .second, .val (.int p2), .val (.int p3), .val (.int p4), .val (.int (g0_7 p0)), .val (.int (g0_19 p0)), .unset, .unset, .unset, .unset, .unset, .unset, .unset, .unset, .unset] [(.int p0)])
    refine FiniW.st (fun _ k => XS.iconst X0.here hx rfl (hb hby at_28) k) ?_
    show FiniW p e below s _ _ _ s₁ (mkF m 29 #[.val (.int p0), .val (.long q1), .second, .val (.int p2), .val (.int p3), .val (.int p4), .val (.int (g0_7 p0)), .val (.int (g0_19 p0)), .unset, .unset, .unset, .unset, .unset, .unset, .unset, .unset, .unset] [(.int (4 : Int32)), (.int p0)])
    refine FiniW.st (fun _ k => XS.iushr X0.here hx rfl (hb hby at_29) rfl k) ?_
    show FiniW p e below s _ _ _ s₁ (mkF m 30 #[.val (.int p0), .val (.long q1), .second, .val (.int p2), .val (.int p3), .val (.int p4), .val (.int (g0_7 p0)), .val (.int (g0_19 p0)), .unset, .unset, .unset, .unset, .unset, .unset, .unset, .unset, .unset] [(.int (p0.toUInt32 >>> ((4 : Int32) &&& 31).toUInt32).toInt32)])
    refine FiniW.st (fun _ k => XS.iconst X0.here hx rfl (hb hby at_30) k) ?_
    show FiniW p e below s _ _ _ s₁ (mkF m 31 #[.val (.int p0), .val (.long q1), .second, .val (.int p2), .val (.int p3), .val (.int p4), .val (.int (g0_7 p0)), .val (.int (g0_19 p0)), .unset, .unset, .unset, .unset, .unset, .unset, .unset, .unset, .unset] [(.int (1 : Int32)), (.int (p0.toUInt32 >>> ((4 : Int32) &&& 31).toUInt32).toInt32)])
    refine FiniW.st (fun _ k => XS.iand X0.here hx rfl (hb hby at_31) rfl k) ?_
    show FiniW p e below s _ _ _ s₁ (mkF m 32 #[.val (.int p0), .val (.long q1), .second, .val (.int p2), .val (.int p3), .val (.int p4), .val (.int (g0_7 p0)), .val (.int (g0_19 p0)), .unset, .unset, .unset, .unset, .unset, .unset, .unset, .unset, .unset] [(.int ((p0.toUInt32 >>> ((4 : Int32) &&& 31).toUInt32).toInt32 &&& (1 : Int32)))])
    by_cases c2 : ((p0.toUInt32 >>> ((4 : Int32) &&& 31).toUInt32).toInt32 &&& (1 : Int32)) = (0 : Int32)
    · skip
      refine FiniW.st (fun _ k => XS.ifYes X0.here hx rfl (pc0 := 32) (pc' := 39) rfl (hb hby at_32) rfl (XT.i0_eq_t c2) (by decide) (by decide) k) ?_
      show FiniW p e below s _ _ _ s₁ (mkF m 39 #[.val (.int p0), .val (.long q1), .second, .val (.int p2), .val (.int p3), .val (.int p4), .val (.int (g0_7 p0)), .val (.int (g0_19 p0)), .unset, .unset, .unset, .unset, .unset, .unset, .unset, .unset, .unset] [])
      refine FiniW.st (fun _ k => XS.iconst X0.here hx rfl (hb hby at_39) k) ?_
      show FiniW p e below s _ _ _ s₁ (mkF m 40 #[.val (.int p0), .val (.long q1), .second, .val (.int p2), .val (.int p3), .val (.int p4), .val (.int (g0_7 p0)), .val (.int (g0_19 p0)), .unset, .unset, .unset, .unset, .unset, .unset, .unset, .unset, .unset] [(.int (0 : Int32))])
      refine FiniW.cast (g' := (mkF m 40 #[.val (.int p0), .val (.long q1), .second, .val (.int p2), .val (.int p3), .val (.int p4), .val (.int (g0_7 p0)), .val (.int (g0_19 p0)), .unset, .unset, .unset, .unset, .unset, .unset, .unset, .unset, .unset] [(.int (own_late p0))])) (by rw [show own_late p0 = (0 : Int32) from ((if_pos c1).trans (if_pos c2))]) ?_
      show FiniW p e below s _ _ _ s₁ (mkF m 40 #[.val (.int p0), .val (.long q1), .second, .val (.int p2), .val (.int p3), .val (.int p4), .val (.int (g0_7 p0)), .val (.int (g0_19 p0)), .unset, .unset, .unset, .unset, .unset, .unset, .unset, .unset, .unset] [(.int (own_late p0))])
      exact B40 s₁ _ _ _ _ (X0.more (cells' := 0) (slots' := 0) (by decide) (by decide)) e0 hZ hown hS0 N0 D0 S_dd S_el S_md E_md Z0 (Nat.zero_le _)
    · skip
      refine FiniW.st (fun _ k => XS.ifNo X0.here hx rfl (hb hby at_32) rfl (XT.i0_eq_f c2) k) ?_
      show FiniW p e below s _ _ _ s₁ (mkF m 35 #[.val (.int p0), .val (.long q1), .second, .val (.int p2), .val (.int p3), .val (.int p4), .val (.int (g0_7 p0)), .val (.int (g0_19 p0)), .unset, .unset, .unset, .unset, .unset, .unset, .unset, .unset, .unset] [])
      refine FiniW.st (fun _ k => XS.iconst X0.here hx rfl (hb hby at_35) k) ?_
      show FiniW p e below s _ _ _ s₁ (mkF m 36 #[.val (.int p0), .val (.long q1), .second, .val (.int p2), .val (.int p3), .val (.int p4), .val (.int (g0_7 p0)), .val (.int (g0_19 p0)), .unset, .unset, .unset, .unset, .unset, .unset, .unset, .unset, .unset] [(.int (1 : Int32))])
      refine FiniW.st (fun _ k => XS.goto X0.here hx rfl (pc0 := 36) (pc' := 40) rfl (hb hby at_36) (by decide) (by decide) k) ?_
      show FiniW p e below s _ _ _ s₁ (mkF m 40 #[.val (.int p0), .val (.long q1), .second, .val (.int p2), .val (.int p3), .val (.int p4), .val (.int (g0_7 p0)), .val (.int (g0_19 p0)), .unset, .unset, .unset, .unset, .unset, .unset, .unset, .unset, .unset] [(.int (1 : Int32))])
      refine FiniW.cast (g' := (mkF m 40 #[.val (.int p0), .val (.long q1), .second, .val (.int p2), .val (.int p3), .val (.int p4), .val (.int (g0_7 p0)), .val (.int (g0_19 p0)), .unset, .unset, .unset, .unset, .unset, .unset, .unset, .unset, .unset] [(.int (own_late p0))])) (by rw [show own_late p0 = (1 : Int32) from ((if_pos c1).trans (if_neg c2))]) ?_
      show FiniW p e below s _ _ _ s₁ (mkF m 40 #[.val (.int p0), .val (.long q1), .second, .val (.int p2), .val (.int p3), .val (.int p4), .val (.int (g0_7 p0)), .val (.int (g0_19 p0)), .unset, .unset, .unset, .unset, .unset, .unset, .unset, .unset, .unset] [(.int (own_late p0))])
      exact B40 s₁ _ _ _ _ (X0.more (cells' := 0) (slots' := 0) (by decide) (by decide)) e0 hZ hown hS0 N0 D0 S_dd S_el S_md E_md Z0 (Nat.zero_le _)
  · skip
    refine FiniW.st (fun _ k => XS.icmpYes X0.here hx rfl (pc0 := 24) (pc' := 39) rfl (hb hby at_24) rfl (XT.ii_ne_t c1) (by decide) (by decide) k) ?_
    show FiniW p e below s _ _ _ s₁ (mkF m 39 #[.val (.int p0), .val (.long q1), .second, .val (.int p2), .val (.int p3), .val (.int p4), .val (.int (g0_7 p0)), .val (.int (g0_19 p0)), .unset, .unset, .unset, .unset, .unset, .unset, .unset, .unset, .unset] [])
    refine FiniW.st (fun _ k => XS.iconst X0.here hx rfl (hb hby at_39) k) ?_
    show FiniW p e below s _ _ _ s₁ (mkF m 40 #[.val (.int p0), .val (.long q1), .second, .val (.int p2), .val (.int p3), .val (.int p4), .val (.int (g0_7 p0)), .val (.int (g0_19 p0)), .unset, .unset, .unset, .unset, .unset, .unset, .unset, .unset, .unset] [(.int (0 : Int32))])
    refine FiniW.cast (g' := (mkF m 40 #[.val (.int p0), .val (.long q1), .second, .val (.int p2), .val (.int p3), .val (.int p4), .val (.int (g0_7 p0)), .val (.int (g0_19 p0)), .unset, .unset, .unset, .unset, .unset, .unset, .unset, .unset, .unset] [(.int (own_late p0))])) (by rw [show own_late p0 = (0 : Int32) from (if_neg c1)]) ?_
    show FiniW p e below s _ _ _ s₁ (mkF m 40 #[.val (.int p0), .val (.long q1), .second, .val (.int p2), .val (.int p3), .val (.int p4), .val (.int (g0_7 p0)), .val (.int (g0_19 p0)), .unset, .unset, .unset, .unset, .unset, .unset, .unset, .unset, .unset] [(.int (own_late p0))])
    exact B40 s₁ _ _ _ _ (X0.more (cells' := 0) (slots' := 0) (by decide) (by decide)) e0 hZ hown hS0 N0 D0 S_dd S_el S_md E_md Z0 (Nat.zero_le _)
theorem own_law (i0 : Int32) (i1 : Int64) (i2 i3 i4 : Int32) : (1 : Int32) = 1 := rfl

theorem own_eqI {args : Array Value} {first s : State} {o : Option Outcome} {idx : List Nat} {a : Term} {n : Int32} (h : (Jvm.Cond.eq a (.int n)).value args first o s idx = some true) : a.eval args first o idx s = some (.int n) := by
  obtain ⟨x, y, h1, h2, k1, k2⟩ := cmp_v (Or.inl h)
  have e2 : y = .int n := Option.some.inj (h2.symm.trans (Term.int_eval n))
  subst e2
  obtain ⟨z, rfl⟩ : ∃ z, x = .int z := k2
  rw [h1, gotT (Cond.eq_ints h1 h2) h]
set_option maxRecDepth 65536 in
set_option maxHeartbeats 40000000 in
theorem comes_1 {Post : Tables → Env → Array Value → State → Outcome → State → Prop} (hpost : ∀ tb e args s v u, (limb_1_1.after args s (.returned v) u = true ∧ limb_1_2.after args s (.returned v) u = true ∧ True) → FramedW s (.returned v) u (Jvm.fieldLocs frame_1_writes args s ++ Jvm.arrayLocs frame_1_arrays args s ++ Jvm.staticLocs frame_1_statics s) 40 9344 → Post tb e args s (.returned v) u) :
    ArmFor flags0 classFile x code maxLocals ret World_1 tables_1 room_1 Calls_1 rest_1 Pre_1 Post := by
  intro l hfl _ _ p e ha hc hk s m args below hf hA hF happ hP
  obtain ⟨hcalls, hrest, hpre⟩ := hP
  obtain ⟨-, -, -, hnamed, -, -, -, hat⟩ := (Spec.applies_iff hf).mp happ
  obtain ⟨hg, hn⟩ := and_e (Cond.before_iff.mp (show (Jvm.Cond.and given_1 narrow_1).before args s = true from hpre))
  obtain ⟨g1, g2⟩ := and_e hg
  obtain ⟨g3, g4⟩ := and_e g2
  obtain ⟨g5, g6⟩ := and_e g4
  obtain ⟨g7, g8⟩ := and_e g6
  obtain ⟨g9, g10⟩ := and_e g8
  obtain ⟨w0, w1, w2, w3, w4, rfl⟩ : ∃ w0 w1 w2 w3 w4 : Value, args = #[w0, w1, w2, w3, w4] := by
    have hs : args.size = 5 := by simpa [Cond.value, given_1] using g1
    obtain ⟨L⟩ := args
    match L, hs with
    | [w0, w1, w2, w3, w4], _ => exact ⟨w0, w1, w2, w3, w4, rfl⟩
  have hw := fun d (hd : d ∈ tables_1) => atoms_spec (ws := Jvm.Cond.code x code maxLocals ret :: tables_1) hat d (List.mem_cons_of_mem _ hd)
  have hfit : Fit s := fun {y c} hc i hi => by
    obtain ⟨ha, rfl⟩ := Array.getElem?_eq_some_iff.mp hc
    have q := List.all_eq_true.mp ((Array.all_eq_true_iff_forall_mem.mp hF) _ (Array.getElem_mem ha)) i (List.mem_range.mpr hi)
    simpa [Array.getElem?_eq_getElem hi] using q
  obtain ⟨i0, ei0⟩ := is_v g3
  obtain rfl : w0 = (.int i0) := Option.some.inj ei0
  obtain ⟨i1, ei1⟩ := isL_v g5
  obtain rfl : w1 = (.long i1) := Option.some.inj ei1
  obtain ⟨i2, ei2⟩ := is_v g7
  obtain rfl : w2 = (.int i2) := Option.some.inj ei2
  obtain ⟨i3, ei3⟩ := is_v g9
  obtain rfl : w3 = (.int i3) := Option.some.inj ei3
  obtain ⟨i4, ei4⟩ := is_v g10
  obtain rfl : w4 = (.int i4) := Option.some.inj ei4
  obtain ⟨hsets, hown0⟩ := atoms_of _ (rest_1_c_eq ▸ (show rest_1_c.before _ s = true from hrest))
  have hr0 := Cond.before_iff.mp hown0
  obtain ⟨md, _, _, _, evm, -⟩ := Cond.exactly_spec (Cond.before_iff.mpr hn)
  have Sm := Sta.start evm (Or.inr ⟨(hw _ (List.mem_of_getElem? (i := 31) rfl)), (hw _ (List.mem_of_getElem? (i := 32) rfl))⟩)
  have Em := Exa.start evm hn
  obtain ⟨el, _, _, _, eve, -⟩ := Cond.exactly_spec (hsets _ (List.mem_of_getElem? (i := 11) rfl))
  have Se := Sta.start eve (Or.inl (hsets _ (List.mem_of_getElem? (i := 10) rfl)))
  obtain ⟨dd, evd⟩ := len_v (own_eqI (Cond.before_iff.mp (hsets _ (List.mem_of_getElem? (i := 8) rfl))))
  have Sd := Sta.start evd (Or.inr ⟨(hw _ (List.mem_of_getElem? (i := 6) rfl)), (hsets _ (List.mem_of_getElem? (i := 2) rfl))⟩)
  obtain ⟨n, o, h1, h2, h3, v, L, rfl, ⟨rfl, N⟩, hq⟩ := rm0 l s _ hw tables_1 i0 i1 i2 i3 i4 dd el md s.heap s.heap.size (Nat.le_refl _) (Old.start s) Sd Se Sm Em p e ha hc hk s m _ below hf ((Spec.applies_iff_loose hf).mp happ).1 ⟨rfl, State.Warmed39.refl s, rfl⟩ trivial
  refine ⟨n, _, h1, h2, h3, hpost _ _ _ _ _ _ ⟨Cond.after_iff.mpr rfl, Cond.after_iff.mpr (eq_i res_at (Term.int_eval (1)) (congrArg Value.int (own_law i0 i1 i2 i3 i4))), trivial⟩ ⟨hq.1, hq.2.1, hq.2.2.1, (hq.2.2.2.sift fun y hy => Or.inr (N y hy)).mono (by decide) (by decide)⟩⟩
theorem main_1_1 : Claimed_1_1 := comes_1 fun _ _ _ _ _ _ h hF => ⟨h.1, hF⟩
theorem main_1_2 : Claimed_1_2 := comes_1 fun _ _ _ _ _ _ h hF => ⟨h.2.1, hF⟩
end Jvm.Pilot.@@N@@
namespace Jvm.Pilot.@@N@@
open Jvm Jvm.ClassFile Sem Op Lib Jvm.Free Jvm.Stand Jvm.Pilot.@@N@@.Jvm.D
/-! MADE BY PROGRAM (witnessworld.py) out of the Statement's table words and the real class files: 36 classes; the members and pool entries that the words name. The judged class is class 1, her method 1. -/
namespace start1
open Jvm.ClassFile
def u (s : String) : CpInfo := .utf8 (stringToUtf16 s)
/-- a pool by its gaps: so many unusable entries, then the entry; so many at the end -/
def gap : Nat → List CpInfo → List CpInfo
  | 0, r => r
  | n + 1, r => .unusable :: gap n r
def poolList (es : List (Nat × CpInfo)) (last : Nat) : List CpInfo := es.foldr (fun e r => gap e.1 (e.2 :: r)) (gap last [])
def pool (es : List (Nat × CpInfo)) (last : Nat) : Array CpInfo := ⟨poolList es last⟩
def fileOf (pool : Array CpInfo) (this : Nat) (attrs : Array Attribute := #[]) (ms : Array MethodInfo := #[]) (fl : Nat := 33) (sup : Nat := 0) (ifs : Array Nat := #[]) (fds : Array FieldInfo := #[]) : ClassFile where
  minorVersion := 0
  majorVersion := 65
  constantPool := pool
  accessFlags := fl
  thisClass := this
  superClass := sup
  interfaces := ifs
  fields := fds
  methods := ms
  attributes := attrs
def plain (name : String) (sup : Option ClassId) : Class where
  name := name
  kind := .ordinary
  loader := none
  accessFlags := 33
  super := sup
  interfaces := #[]
  cf := none
  fields := #[]
  methods := #[]
  instanceTypes := #[]
  staticTypes := #[]
  resolved := #[]
  callSites := []
  init := .initialized
  statics := none
  mirror := none

def pool0 : Array CpInfo := pool [(5, u "<init>"), (0, u "()V"), (1, .class_ 10), (1, u "java/lang/Object"), (85, u "clone"), (0, u "()Ljava/lang/Object;")] 26

def k0c0 : Code := { maxStack := 0, maxLocals := 1, code := object_method_1_code, exceptionTable := #[], attributes := #[] }
def k0m0 : Method := { name := "<init>", desc := "()V", sig := { parameters := [], returnType := none }, accessFlags := 1, code := some k0c0 }
def k0m1 : Method := { name := "clone", desc := "()Ljava/lang/Object;", sig := { parameters := [], returnType := some (.object "java/lang/Object") }, accessFlags := 260, code := none }
/-- java/lang/Object -/
def k0 : Class := { plain "java/lang/Object" none with
  accessFlags := 33
  interfaces := #[]
  cf := some (fileOf pool0 8 #[] #[{ accessFlags := 1, nameIndex := 5, descriptorIndex := 6, attributes := #[] }, { accessFlags := 260, nameIndex := 96, descriptorIndex := 97, attributes := #[] }] 33 0 #[] #[])
  fields := #[]
  methods := #[k0m0, k0m1]
  instanceTypes := #[]
  staticTypes := #[]
  resolved := Array.replicate 124 none
  statics := none }

def pool1 : Array CpInfo := pool [(2, .class_ 4), (0, .nameAndType 5 6), (0, u "java/lang/Object"), (0, u "<init>"), (0, u "()V"), (0, .class_ 8), (0, u "com/example/mapcodex/mapcodex/osm/Way"), (0, .class_ 10), (0, u "java/util/ArrayList"), (0, .methodref 9 3), (0, .fieldref 13 14), (0, .class_ 15), (0, .nameAndType 16 17), (0, u "com/example/mapcodex/mapcodex/osm/Metadata"), (0, u "NONE"), (0, u "Lcom/example/mapcodex/mapcodex/osm/Metadata;"), (0, .methodref 7 19), (0, .nameAndType 5 20), (0, u "(J[JLjava/util/List;Lcom/example/mapcodex/mapcodex/osm/Metadata;)V"), (0, .long 2), (1, .class_ 24), (0, u "com/example/mapcodex/mapcodex/pbf/ObjectBatch"), (0, .methodref 23 3), (0, .methodref 23 27), (0, .nameAndType 28 29), (0, u "add"), (0, u "(Lcom/example/mapcodex/mapcodex/osm/OsmObject;I)V"), (0, .methodref 23 31), (0, .nameAndType 32 33), (0, u "next"), (0, u "()Lcom/example/mapcodex/mapcodex/osm/OsmObject;"), (0, .methodref 23 35), (0, .nameAndType 36 37), (0, u "hasNext"), (0, u "()Z"), (0, .methodref 23 39), (0, .nameAndType 40 41), (0, u "values"), (0, u "()J"), (0, .class_ 43), (0, u "com/example/mapcodex/mapcodex/pbf/ObjectBatchNextPinLaw"), (2, u "law"), (0, u "(IJIII)Z")] 5

def k1m0 : Method := { name := "<init>", desc := "()V", sig := { parameters := [], returnType := none }, accessFlags := 1, code := none }
def k1c1 : Code := { maxStack := 7, maxLocals := 17, code := code, exceptionTable := #[], attributes := #[] }
def k1m1 : Method := { name := "law", desc := "(IJIII)Z", sig := { parameters := [.int, .long, .int, .int, .int], returnType := some .boolean }, accessFlags := 9, code := some k1c1 }
/-- com/example/mapcodex/mapcodex/pbf/ObjectBatchNextPinLaw -/
def k1 : Class := { plain "com/example/mapcodex/mapcodex/pbf/ObjectBatchNextPinLaw" (some 0) with
  accessFlags := 49
  interfaces := #[]
  cf := some (fileOf pool1 42 #[] #[{ accessFlags := 1, nameIndex := 5, descriptorIndex := 6, attributes := #[] }, { accessFlags := 9, nameIndex := 46, descriptorIndex := 47, attributes := #[] }] 49 2 #[] #[])
  fields := #[]
  methods := #[k1m0, k1m1]
  instanceTypes := #[]
  staticTypes := #[]
  resolved := Array.replicate 53 none
  statics := none }

def pool2 : Array CpInfo := pool [(1, .class_ 2), (0, u "com/example/mapcodex/mapcodex/osm/OsmObject"), (0, .class_ 4), (0, u "java/lang/Object")] 19

/-- com/example/mapcodex/mapcodex/osm/OsmObject -/
def k2 : Class := { plain "com/example/mapcodex/mapcodex/osm/OsmObject" (some 0) with
  accessFlags := 1537
  interfaces := #[]
  cf := some (fileOf pool2 1 #[] #[] 1537 3 #[] #[])
  fields := #[]
  methods := #[]
  instanceTypes := #[]
  staticTypes := #[]
  resolved := Array.replicate 24 none
  statics := none }

def pool3 : Array CpInfo := pool [(1, .methodref 2 3), (0, .class_ 4), (0, .nameAndType 5 6), (0, u "[J"), (0, u "clone"), (0, u "()Ljava/lang/Object;"), (0, .methodref 8 9), (0, .class_ 10), (0, .nameAndType 11 12), (0, u "com/example/mapcodex/mapcodex/osm/Way"), (0, u "<init>"), (0, u "([JJLjava/util/List;Lcom/example/mapcodex/mapcodex/osm/Metadata;)V"), (6, .methodref 20 21), (0, .class_ 22), (0, .nameAndType 11 23), (0, u "java/lang/Object"), (0, u "()V"), (0, .fieldref 8 25), (0, .nameAndType 26 27), (0, u "id"), (0, u "J"), (0, .fieldref 8 29), (0, .nameAndType 30 4), (0, u "nodes"), (0, .methodref 32 33), (0, .class_ 34), (0, .nameAndType 35 36), (0, u "com/example/mapcodex/mapcodex/osm/ObjectList"), (0, u "copyOf"), (0, u "(Ljava/util/List;)Ljava/util/List;"), (0, .fieldref 8 38), (0, .nameAndType 39 40), (0, u "tags"), (0, u "Ljava/util/List;"), (0, .string 42), (0, u "metadata"), (0, .methodref 44 45), (0, .class_ 46), (0, .nameAndType 47 48), (0, u "java/util/Objects"), (0, u "requireNonNull"), (0, u "(Ljava/lang/Object;Ljava/lang/String;)Ljava/lang/Object;"), (0, .class_ 50), (0, u "com/example/mapcodex/mapcodex/osm/Metadata"), (0, .fieldref 8 52), (0, .nameAndType 42 53), (0, u "Lcom/example/mapcodex/mapcodex/osm/Metadata;"), (50, .class_ 105), (0, u "com/example/mapcodex/mapcodex/osm/OsmObject"), (2, u "(J[JLjava/util/List;Lcom/example/mapcodex/mapcodex/osm/Metadata;)V")] 35

def k3c0 : Code := { maxStack := 6, maxLocals := 6, code := prog_35_method_1_code, exceptionTable := #[], attributes := #[] }
def k3m0 : Method := { name := "<init>", desc := "(J[JLjava/util/List;Lcom/example/mapcodex/mapcodex/osm/Metadata;)V", sig := { parameters := [.long, (.array .long), (.object "java/util/List"), (.object "com/example/mapcodex/mapcodex/osm/Metadata")], returnType := none }, accessFlags := 1, code := some k3c0 }
def k3c1 : Code := { maxStack := 3, maxLocals := 6, code := prog_35_method_3_code, exceptionTable := #[], attributes := #[] }
def k3m1 : Method := { name := "<init>", desc := "([JJLjava/util/List;Lcom/example/mapcodex/mapcodex/osm/Metadata;)V", sig := { parameters := [(.array .long), .long, (.object "java/util/List"), (.object "com/example/mapcodex/mapcodex/osm/Metadata")], returnType := none }, accessFlags := 2, code := some k3c1 }
/-- com/example/mapcodex/mapcodex/osm/Way -/
def k3 : Class := { plain "com/example/mapcodex/mapcodex/osm/Way" (some 0) with
  accessFlags := 49
  interfaces := #[2]
  cf := some (fileOf pool3 8 #[] #[{ accessFlags := 1, nameIndex := 11, descriptorIndex := 108, attributes := #[] }, { accessFlags := 2, nameIndex := 11, descriptorIndex := 12, attributes := #[] }] 49 20 #[104] #[{ accessFlags := 18, nameIndex := 26, descriptorIndex := 27, attributes := #[] }, { accessFlags := 18, nameIndex := 30, descriptorIndex := 4, attributes := #[] }, { accessFlags := 18, nameIndex := 39, descriptorIndex := 40, attributes := #[] }, { accessFlags := 18, nameIndex := 42, descriptorIndex := 53, attributes := #[] }])
  fields := #[{ name := "id", type := .long, accessFlags := 18, slot := 0, constantValue := 0 }, { name := "nodes", type := (.array .long), accessFlags := 18, slot := 1, constantValue := 0 }, { name := "tags", type := (.object "java/util/List"), accessFlags := 18, slot := 2, constantValue := 0 }, { name := "metadata", type := (.object "com/example/mapcodex/mapcodex/osm/Metadata"), accessFlags := 18, slot := 3, constantValue := 0 }]
  methods := #[k3m0, k3m1]
  instanceTypes := #[.long, (.array .long), (.object "java/util/List"), (.object "com/example/mapcodex/mapcodex/osm/Metadata")]
  staticTypes := #[]
  resolved := Array.replicate 144 none
  statics := none }

def pool4 : Array CpInfo := pool [(8, .class_ 10), (1, u "java/lang/Iterable"), (24, .class_ 36), (0, u "java/lang/Object")] 25

/-- java/lang/Iterable -/
def k4 : Class := { plain "java/lang/Iterable" (some 0) with
  accessFlags := 1537
  interfaces := #[]
  cf := some (fileOf pool4 8 #[] #[] 1537 35 #[] #[])
  fields := #[]
  methods := #[]
  instanceTypes := #[]
  staticTypes := #[]
  resolved := Array.replicate 62 none
  statics := none }

def pool5 : Array CpInfo := pool [(10, .class_ 12), (1, u "java/util/Collection"), (47, .class_ 61), (0, u "java/lang/Object"), (0, .class_ 63), (0, u "java/lang/Iterable")] 51

/-- java/util/Collection -/
def k5 : Class := { plain "java/util/Collection" (some 0) with
  accessFlags := 1537
  interfaces := #[4]
  cf := some (fileOf pool5 10 #[] #[] 1537 60 #[62] #[])
  fields := #[]
  methods := #[]
  instanceTypes := #[]
  staticTypes := #[]
  resolved := Array.replicate 115 none
  statics := none }

def pool6 : Array CpInfo := pool [(1, .methodref 2 3), (0, .class_ 4), (0, .nameAndType 5 6), (0, u "java/lang/Object"), (0, u "<init>"), (0, u "()V"), (1, .class_ 10), (1, u "java/util/AbstractCollection"), (66, .class_ 78), (0, u "java/util/Collection")] 81

def k6c0 : Code := { maxStack := 1, maxLocals := 1, code := jdk_22_method_1_code, exceptionTable := #[], attributes := #[] }
def k6m0 : Method := { name := "<init>", desc := "()V", sig := { parameters := [], returnType := none }, accessFlags := 4, code := some k6c0 }
/-- java/util/AbstractCollection -/
def k6 : Class := { plain "java/util/AbstractCollection" (some 0) with
  accessFlags := 1057
  interfaces := #[5]
  cf := some (fileOf pool6 8 #[] #[{ accessFlags := 4, nameIndex := 5, descriptorIndex := 6, attributes := #[] }] 1057 2 #[77] #[])
  fields := #[]
  methods := #[k6m0]
  instanceTypes := #[]
  staticTypes := #[]
  resolved := Array.replicate 160 none
  statics := none }

def pool7 : Array CpInfo := pool [(8, .class_ 10), (1, u "java/util/SequencedCollection"), (15, .class_ 27), (0, u "java/lang/Object"), (0, .class_ 29), (0, u "java/util/Collection")] 27

/-- java/util/SequencedCollection -/
def k7 : Class := { plain "java/util/SequencedCollection" (some 0) with
  accessFlags := 1537
  interfaces := #[5]
  cf := some (fileOf pool7 8 #[] #[] 1537 26 #[28] #[])
  fields := #[]
  methods := #[]
  instanceTypes := #[]
  staticTypes := #[]
  resolved := Array.replicate 57 none
  statics := none }

def pool8 : Array CpInfo := pool [(8, .class_ 10), (1, u "java/util/List"), (68, u "size"), (0, u "()I"), (7, u "of"), (1, .fieldref 91 92), (0, .class_ 93), (0, .nameAndType 94 95), (0, u "java/util/ImmutableCollections"), (0, u "EMPTY_LIST"), (0, u "Ljava/util/ImmutableCollections$ListN;"), (7, .class_ 104), (0, u "java/lang/Object"), (14, u "()Ljava/util/List;"), (0, .class_ 121), (0, u "java/util/SequencedCollection")] 129

def k8m0 : Method := { name := "size", desc := "()I", sig := { parameters := [], returnType := some .int }, accessFlags := 1025, code := none }
def k8c1 : Code := { maxStack := 1, maxLocals := 0, code := jdk_40_method_36_code, exceptionTable := #[], attributes := #[] }
def k8m1 : Method := { name := "of", desc := "()Ljava/util/List;", sig := { parameters := [], returnType := some (.object "java/util/List") }, accessFlags := 9, code := some k8c1 }
/-- java/util/List -/
def k8 : Class := { plain "java/util/List" (some 0) with
  accessFlags := 1537
  interfaces := #[7]
  cf := some (fileOf pool8 8 #[] #[{ accessFlags := 1025, nameIndex := 79, descriptorIndex := 80, attributes := #[] }, { accessFlags := 9, nameIndex := 88, descriptorIndex := 119, attributes := #[] }] 1537 103 #[120] #[])
  fields := #[]
  methods := #[k8m0, k8m1]
  instanceTypes := #[]
  staticTypes := #[]
  resolved := Array.replicate 251 none
  statics := none }

def pool9 : Array CpInfo := pool [(1, .methodref 2 3), (0, .class_ 4), (0, .nameAndType 5 6), (0, u "java/util/AbstractCollection"), (0, u "<init>"), (0, u "()V"), (0, .fieldref 8 9), (0, .class_ 10), (0, .nameAndType 11 12), (0, u "java/util/AbstractList"), (0, u "modCount"), (0, u "I"), (64, .class_ 78), (0, u "java/util/AbstractList$Itr"), (3, .class_ 83), (0, u "java/util/AbstractList$ListItr"), (9, .class_ 94), (0, u "java/util/AbstractList$RandomAccessSubList"), (3, .class_ 99), (0, u "java/util/AbstractList$SubList"), (33, .class_ 134), (0, u "java/util/List"), (73, .class_ 209), (0, u "java/util/AbstractList$SubList$1"), (0, .class_ 211), (0, u "java/util/AbstractList$RandomAccessSpliterator")] 6

def k9c0 : Code := { maxStack := 2, maxLocals := 1, code := jdk_39_method_1_code, exceptionTable := #[], attributes := #[] }
def k9m0 : Method := { name := "<init>", desc := "()V", sig := { parameters := [], returnType := none }, accessFlags := 4, code := some k9c0 }
/-- java/util/AbstractList -/
def k9 : Class := { plain "java/util/AbstractList" (some 6) with
  accessFlags := 1057
  interfaces := #[8]
  cf := some (fileOf pool9 8 #[.nestMembers #[93, 98, 208, 210, 82, 77]] #[{ accessFlags := 4, nameIndex := 5, descriptorIndex := 6, attributes := #[] }] 1057 2 #[133] #[{ accessFlags := 132, nameIndex := 11, descriptorIndex := 12, attributes := #[] }])
  fields := #[{ name := "modCount", type := .int, accessFlags := 132, slot := 0, constantValue := 0 }]
  methods := #[k9m0]
  instanceTypes := #[.int]
  staticTypes := #[]
  resolved := Array.replicate 218 none
  statics := none }

def pool10 : Array CpInfo := pool [(1, .class_ 2), (0, u "java/util/RandomAccess"), (0, .class_ 4), (0, u "java/lang/Object")] 2

/-- java/util/RandomAccess -/
def k10 : Class := { plain "java/util/RandomAccess" (some 0) with
  accessFlags := 1537
  interfaces := #[]
  cf := some (fileOf pool10 1 #[] #[] 1537 3 #[] #[])
  fields := #[]
  methods := #[]
  instanceTypes := #[]
  staticTypes := #[]
  resolved := Array.replicate 7 none
  statics := none }

def pool11 : Array CpInfo := pool [(1, .class_ 2), (0, u "java/lang/Cloneable"), (0, .class_ 4), (0, u "java/lang/Object")] 2

/-- java/lang/Cloneable -/
def k11 : Class := { plain "java/lang/Cloneable" (some 0) with
  accessFlags := 1537
  interfaces := #[]
  cf := some (fileOf pool11 1 #[] #[] 1537 3 #[] #[])
  fields := #[]
  methods := #[]
  instanceTypes := #[]
  staticTypes := #[]
  resolved := Array.replicate 7 none
  statics := none }

def pool12 : Array CpInfo := pool [(1, .class_ 2), (0, u "java/io/Serializable"), (0, .class_ 4), (0, u "java/lang/Object")] 2

/-- java/io/Serializable -/
def k12 : Class := { plain "java/io/Serializable" (some 0) with
  accessFlags := 1537
  interfaces := #[]
  cf := some (fileOf pool12 1 #[] #[] 1537 3 #[] #[])
  fields := #[]
  methods := #[]
  instanceTypes := #[]
  staticTypes := #[]
  resolved := Array.replicate 7 none
  statics := none }

def pool13 : Array CpInfo := pool [(1, .methodref 2 3), (0, .class_ 4), (0, .nameAndType 5 6), (0, u "java/util/AbstractList"), (0, u "<init>"), (0, u "()V"), (2, .fieldref 10 11), (0, .class_ 12), (0, .nameAndType 13 14), (0, u "java/util/ArrayList"), (0, u "elementData"), (0, u "[Ljava/lang/Object;"), (2, u "EMPTY_ELEMENTDATA"), (21, .fieldref 10 40), (0, .nameAndType 41 14), (0, u "DEFAULTCAPACITY_EMPTY_ELEMENTDATA"), (6, .fieldref 10 49), (0, .nameAndType 50 51), (0, u "size"), (0, u "I"), (96, .class_ 149), (0, u "java/util/List"), (36, u "()I"), (75, .class_ 263), (0, u "java/util/ArrayList$ListItr"), (3, .class_ 268), (0, u "java/util/ArrayList$Itr"), (7, .class_ 277), (0, u "java/util/ArrayList$SubList"), (12, .class_ 291), (0, u "java/util/ArrayList$ArrayListSpliterator"), (37, .class_ 330), (0, u "java/util/RandomAccess"), (0, .class_ 332), (0, u "java/lang/Cloneable"), (0, .class_ 334), (0, u "java/io/Serializable"), (0, u "serialVersionUID"), (0, u "J"), (3, u "DEFAULT_CAPACITY"), (159, .class_ 501), (0, u "java/util/ArrayList$SubList$2"), (0, .class_ 503), (0, u "java/util/ArrayList$SubList$1")] 5

def k13c0 : Code := { maxStack := 2, maxLocals := 1, code := jdk_38_method_2_code, exceptionTable := #[], attributes := #[] }
def k13m0 : Method := { name := "<init>", desc := "()V", sig := { parameters := [], returnType := none }, accessFlags := 1, code := some k13c0 }
def k13c1 : Code := { maxStack := 1, maxLocals := 1, code := jdk_38_method_8_code, exceptionTable := #[], attributes := #[] }
def k13m1 : Method := { name := "size", desc := "()I", sig := { parameters := [], returnType := some .int }, accessFlags := 1, code := some k13c1 }
/-- java/util/ArrayList -/
def k13 : Class := { plain "java/util/ArrayList" (some 9) with
  accessFlags := 33
  interfaces := #[8, 10, 11, 12]
  cf := some (fileOf pool13 10 #[.nestMembers #[290, 276, 500, 502, 262, 267]] #[{ accessFlags := 1, nameIndex := 5, descriptorIndex := 6, attributes := #[] }, { accessFlags := 1, nameIndex := 50, descriptorIndex := 186, attributes := #[] }] 33 2 #[148, 329, 331, 333] #[{ accessFlags := 26, nameIndex := 335, descriptorIndex := 336, attributes := #[] }, { accessFlags := 26, nameIndex := 340, descriptorIndex := 51, attributes := #[] }, { accessFlags := 26, nameIndex := 17, descriptorIndex := 14, attributes := #[] }, { accessFlags := 26, nameIndex := 41, descriptorIndex := 14, attributes := #[] }, { accessFlags := 128, nameIndex := 13, descriptorIndex := 14, attributes := #[] }, { accessFlags := 2, nameIndex := 50, descriptorIndex := 51, attributes := #[] }])
  fields := #[{ name := "serialVersionUID", type := .long, accessFlags := 26, slot := 0, constantValue := 0 }, { name := "DEFAULT_CAPACITY", type := .int, accessFlags := 26, slot := 1, constantValue := 0 }, { name := "EMPTY_ELEMENTDATA", type := (.array (.object "java/lang/Object")), accessFlags := 26, slot := 2, constantValue := 0 }, { name := "DEFAULTCAPACITY_EMPTY_ELEMENTDATA", type := (.array (.object "java/lang/Object")), accessFlags := 26, slot := 3, constantValue := 0 }, { name := "elementData", type := (.array (.object "java/lang/Object")), accessFlags := 128, slot := 1, constantValue := 0 }, { name := "size", type := .int, accessFlags := 2, slot := 2, constantValue := 0 }]
  methods := #[k13m0, k13m1]
  instanceTypes := #[.int, (.array (.object "java/lang/Object")), .int]
  staticTypes := #[.long, .int, (.array (.object "java/lang/Object")), (.array (.object "java/lang/Object"))]
  resolved := Array.replicate 509 none
  statics := some 0 }

def pool14 : Array CpInfo := pool [(2, .class_ 4), (1, u "java/lang/Object"), (0, u "<init>"), (0, u "()V"), (0, .class_ 8), (0, u "java/lang/Record")] 13

def k14m0 : Method := { name := "<init>", desc := "()V", sig := { parameters := [], returnType := none }, accessFlags := 4, code := none }
/-- java/lang/Record -/
def k14 : Class := { plain "java/lang/Record" (some 0) with
  accessFlags := 1057
  interfaces := #[]
  cf := some (fileOf pool14 7 #[] #[{ accessFlags := 4, nameIndex := 5, descriptorIndex := 6, attributes := #[] }] 1057 2 #[] #[])
  fields := #[]
  methods := #[k14m0]
  instanceTypes := #[]
  staticTypes := #[]
  resolved := Array.replicate 22 none
  statics := none }

def pool15 : Array CpInfo := pool [(2, .class_ 4), (1, u "java/lang/Record"), (3, u "user"), (7, .class_ 18), (1, u "com/example/mapcodex/mapcodex/osm/Metadata"), (0, u "version"), (0, u "I"), (2, u "timestamp"), (0, u "J"), (2, u "changeset"), (2, u "uid"), (2, u "Ljava/lang/String;"), (2, u "visible"), (0, u "Ljava/lang/Boolean;"), (37, u "NONE"), (0, u "Lcom/example/mapcodex/mapcodex/osm/Metadata;")] 38

/-- com/example/mapcodex/mapcodex/osm/Metadata -/
def k15 : Class := { plain "com/example/mapcodex/mapcodex/osm/Metadata" (some 14) with
  accessFlags := 49
  interfaces := #[]
  cf := some (fileOf pool15 16 #[] #[] 49 2 #[] #[{ accessFlags := 18, nameIndex := 19, descriptorIndex := 20, attributes := #[] }, { accessFlags := 18, nameIndex := 23, descriptorIndex := 24, attributes := #[] }, { accessFlags := 18, nameIndex := 27, descriptorIndex := 24, attributes := #[] }, { accessFlags := 18, nameIndex := 30, descriptorIndex := 20, attributes := #[] }, { accessFlags := 18, nameIndex := 8, descriptorIndex := 33, attributes := #[] }, { accessFlags := 18, nameIndex := 36, descriptorIndex := 37, attributes := #[] }, { accessFlags := 25, nameIndex := 75, descriptorIndex := 76, attributes := #[] }])
  fields := #[{ name := "version", type := .int, accessFlags := 18, slot := 0, constantValue := 0 }, { name := "timestamp", type := .long, accessFlags := 18, slot := 1, constantValue := 0 }, { name := "changeset", type := .long, accessFlags := 18, slot := 2, constantValue := 0 }, { name := "uid", type := .int, accessFlags := 18, slot := 3, constantValue := 0 }, { name := "user", type := (.object "java/lang/String"), accessFlags := 18, slot := 4, constantValue := 0 }, { name := "visible", type := (.object "java/lang/Boolean"), accessFlags := 18, slot := 5, constantValue := 0 }, { name := "NONE", type := (.object "com/example/mapcodex/mapcodex/osm/Metadata"), accessFlags := 25, slot := 0, constantValue := 0 }]
  methods := #[]
  instanceTypes := #[.int, .long, .long, .int, (.object "java/lang/String"), (.object "java/lang/Boolean")]
  staticTypes := #[(.object "com/example/mapcodex/mapcodex/osm/Metadata")]
  resolved := Array.replicate 115 none
  statics := some 1 }

def pool16 : Array CpInfo := pool [(1, .class_ 2), (0, u "java/lang/constant/Constable"), (0, .class_ 4), (0, u "java/lang/Object")] 6

/-- java/lang/constant/Constable -/
def k16 : Class := { plain "java/lang/constant/Constable" (some 0) with
  accessFlags := 1537
  interfaces := #[]
  cf := some (fileOf pool16 1 #[] #[] 1537 3 #[] #[])
  fields := #[]
  methods := #[]
  instanceTypes := #[]
  staticTypes := #[]
  resolved := Array.replicate 11 none
  statics := none }

def pool17 : Array CpInfo := pool [(1, .class_ 2), (0, u "java/lang/Comparable"), (0, .class_ 4), (0, u "java/lang/Object")] 7

/-- java/lang/Comparable -/
def k17 : Class := { plain "java/lang/Comparable" (some 0) with
  accessFlags := 1537
  interfaces := #[]
  cf := some (fileOf pool17 1 #[] #[] 1537 3 #[] #[])
  fields := #[]
  methods := #[]
  instanceTypes := #[]
  staticTypes := #[]
  resolved := Array.replicate 12 none
  statics := none }

def pool18 : Array CpInfo := pool [(2, .class_ 4), (1, u "java/lang/Enum"), (0, u "name"), (0, u "Ljava/lang/String;"), (2, u "ordinal"), (0, u "I"), (1, .class_ 14), (1, u "java/lang/Object"), (4, u "hash"), (86, .class_ 108), (1, u "java/lang/Enum$EnumDesc"), (2, .class_ 112), (0, u "java/lang/constant/Constable"), (0, .class_ 114), (0, u "java/lang/Comparable"), (0, .class_ 116), (0, u "java/io/Serializable")] 87

/-- java/lang/Enum -/
def k18 : Class := { plain "java/lang/Enum" (some 0) with
  accessFlags := 1057
  interfaces := #[16, 17, 12]
  cf := some (fileOf pool18 2 #[.nestMembers #[106]] #[] 1057 12 #[111, 113, 115] #[{ accessFlags := 18, nameIndex := 5, descriptorIndex := 6, attributes := #[] }, { accessFlags := 18, nameIndex := 9, descriptorIndex := 10, attributes := #[] }, { accessFlags := 2, nameIndex := 19, descriptorIndex := 10, attributes := #[] }])
  fields := #[{ name := "name", type := (.object "java/lang/String"), accessFlags := 18, slot := 0, constantValue := 0 }, { name := "ordinal", type := .int, accessFlags := 18, slot := 1, constantValue := 0 }, { name := "hash", type := .int, accessFlags := 2, slot := 2, constantValue := 0 }]
  methods := #[]
  instanceTypes := #[(.object "java/lang/String"), .int, .int]
  staticTypes := #[]
  resolved := Array.replicate 204 none
  statics := none }

def pool19 : Array CpInfo := pool [(1, .class_ 2), (0, u "com/example/mapcodex/mapcodex/osm/ObjectList"), (2, u "NODE_REFERENCES"), (0, u "Lcom/example/mapcodex/mapcodex/osm/ObjectList;"), (2, u "MEMBERS"), (2, u "TAGS"), (2, u "$VALUES"), (0, u "[Lcom/example/mapcodex/mapcodex/osm/ObjectList;"), (6, .class_ 25), (1, u "java/lang/Enum"), (8, u "label"), (0, u "Ljava/lang/String;"), (0, .interfaceMethodref 37 38), (0, .class_ 39), (0, .nameAndType 40 41), (0, u "java/util/List"), (0, u "size"), (0, u "()I"), (0, .interfaceMethodref 37 43), (0, .nameAndType 44 45), (0, u "of"), (0, u "()Ljava/util/List;"), (12, u "copyOf"), (21, u "MAX_SIZE"), (0, u "I"), (9, u "(Ljava/util/List;)Ljava/util/List;")] 24

def k19c0 : Code := { maxStack := 3, maxLocals := 1, code := prog_26_method_4_code, exceptionTable := #[], attributes := #[] }
def k19m0 : Method := { name := "copyOf", desc := "(Ljava/util/List;)Ljava/util/List;", sig := { parameters := [(.object "java/util/List")], returnType := some (.object "java/util/List") }, accessFlags := 8, code := some k19c0 }
/-- com/example/mapcodex/mapcodex/osm/ObjectList -/
def k19 : Class := { plain "com/example/mapcodex/mapcodex/osm/ObjectList" (some 18) with
  accessFlags := 16433
  interfaces := #[]
  cf := some (fileOf pool19 1 #[] #[{ accessFlags := 8, nameIndex := 58, descriptorIndex := 91, attributes := #[] }] 16433 23 #[] #[{ accessFlags := 16409, nameIndex := 5, descriptorIndex := 6, attributes := #[] }, { accessFlags := 16409, nameIndex := 9, descriptorIndex := 6, attributes := #[] }, { accessFlags := 16409, nameIndex := 12, descriptorIndex := 6, attributes := #[] }, { accessFlags := 25, nameIndex := 80, descriptorIndex := 81, attributes := #[] }, { accessFlags := 18, nameIndex := 34, descriptorIndex := 35, attributes := #[] }, { accessFlags := 4122, nameIndex := 15, descriptorIndex := 16, attributes := #[] }])
  fields := #[{ name := "NODE_REFERENCES", type := (.object "com/example/mapcodex/mapcodex/osm/ObjectList"), accessFlags := 16409, slot := 0, constantValue := 0 }, { name := "MEMBERS", type := (.object "com/example/mapcodex/mapcodex/osm/ObjectList"), accessFlags := 16409, slot := 1, constantValue := 0 }, { name := "TAGS", type := (.object "com/example/mapcodex/mapcodex/osm/ObjectList"), accessFlags := 16409, slot := 2, constantValue := 0 }, { name := "MAX_SIZE", type := .int, accessFlags := 25, slot := 3, constantValue := 0 }, { name := "label", type := (.object "java/lang/String"), accessFlags := 18, slot := 3, constantValue := 0 }, { name := "$VALUES", type := (.array (.object "com/example/mapcodex/mapcodex/osm/ObjectList")), accessFlags := 4122, slot := 4, constantValue := 0 }]
  methods := #[k19m0]
  instanceTypes := #[(.object "java/lang/String"), .int, .int, (.object "java/lang/String")]
  staticTypes := #[(.object "com/example/mapcodex/mapcodex/osm/ObjectList"), (.object "com/example/mapcodex/mapcodex/osm/ObjectList"), (.object "com/example/mapcodex/mapcodex/osm/ObjectList"), .int, (.array (.object "com/example/mapcodex/mapcodex/osm/ObjectList"))]
  resolved := Array.replicate 116 none
  statics := none }

def pool20 : Array CpInfo := pool [(2, .class_ 4), (1, u "java/lang/Object"), (0, u "<init>"), (0, u "()V"), (3, .class_ 11), (0, u "java/util/ImmutableCollections$List12"), (0, .class_ 13), (0, u "java/util/ImmutableCollections$ListN"), (3, u "Z"), (29, .class_ 49), (1, u "java/util/ImmutableCollections"), (0, u "$assertionsDisabled"), (5, u "[Ljava/lang/Object;"), (5, u "EMPTY_LIST"), (0, u "Ljava/util/ImmutableCollections$ListN;"), (8, u "EMPTY_LIST_NULLS"), (22, u "SALT32L"), (0, u "J"), (2, u "REVERSE"), (6, u "archivedObjects"), (2, u "EMPTY"), (0, u "Ljava/lang/Object;"), (0, .class_ 112), (0, u "java/util/ImmutableCollections$SetN"), (5, u "EMPTY_SET"), (0, u "Ljava/util/ImmutableCollections$SetN;"), (0, .class_ 121), (0, u "java/util/ImmutableCollections$MapN"), (3, u "EMPTY_MAP"), (0, u "Ljava/util/ImmutableCollections$MapN;"), (4, u "EXPAND_FACTOR"), (0, u "I"), (36, .class_ 170), (0, u "java/util/ImmutableCollections$MapN$MapNIterator"), (0, .class_ 172), (0, u "java/util/ImmutableCollections$MapN$1"), (0, .class_ 174), (0, u "java/util/ImmutableCollections$Map1"), (0, .class_ 176), (0, u "java/util/ImmutableCollections$AbstractImmutableMap"), (0, .class_ 178), (0, u "java/util/ImmutableCollections$SetN$SetNIterator"), (0, .class_ 180), (0, u "java/util/ImmutableCollections$Set12"), (0, .class_ 182), (0, u "java/util/ImmutableCollections$Set12$1"), (0, .class_ 184), (0, u "java/util/ImmutableCollections$AbstractImmutableSet"), (0, .class_ 186), (0, u "java/util/ImmutableCollections$SubList"), (0, .class_ 188), (0, u "java/util/ImmutableCollections$ListItr"), (0, .class_ 190), (0, u "java/util/ImmutableCollections$AbstractImmutableList"), (0, .class_ 192), (0, u "java/util/ImmutableCollections$AbstractImmutableCollection"), (0, .class_ 194), (0, u "java/util/ImmutableCollections$Access"), (0, .class_ 196), (0, u "java/util/ImmutableCollections$Access$1")] 16

def k20m0 : Method := { name := "<init>", desc := "()V", sig := { parameters := [], returnType := none }, accessFlags := 2, code := none }
/-- java/util/ImmutableCollections -/
def k20 : Class := { plain "java/util/ImmutableCollections" (some 0) with
  accessFlags := 32
  interfaces := #[]
  cf := some (fileOf pool20 47 #[.nestMembers #[120, 169, 171, 173, 175, 111, 177, 179, 181, 183, 12, 10, 185, 187, 189, 191, 193, 195]] #[{ accessFlags := 2, nameIndex := 5, descriptorIndex := 6, attributes := #[] }] 32 2 #[] #[{ accessFlags := 26, nameIndex := 95, descriptorIndex := 96, attributes := #[] }, { accessFlags := 26, nameIndex := 99, descriptorIndex := 17, attributes := #[] }, { accessFlags := 10, nameIndex := 106, descriptorIndex := 56, attributes := #[] }, { accessFlags := 26, nameIndex := 109, descriptorIndex := 110, attributes := #[] }, { accessFlags := 24, nameIndex := 62, descriptorIndex := 63, attributes := #[] }, { accessFlags := 24, nameIndex := 72, descriptorIndex := 63, attributes := #[] }, { accessFlags := 24, nameIndex := 118, descriptorIndex := 119, attributes := #[] }, { accessFlags := 24, nameIndex := 125, descriptorIndex := 126, attributes := #[] }, { accessFlags := 24, nameIndex := 131, descriptorIndex := 132, attributes := #[] }, { accessFlags := 4120, nameIndex := 50, descriptorIndex := 17, attributes := #[] }])
  fields := #[{ name := "SALT32L", type := .long, accessFlags := 26, slot := 0, constantValue := 0 }, { name := "REVERSE", type := .boolean, accessFlags := 26, slot := 1, constantValue := 0 }, { name := "archivedObjects", type := (.array (.object "java/lang/Object")), accessFlags := 10, slot := 2, constantValue := 0 }, { name := "EMPTY", type := (.object "java/lang/Object"), accessFlags := 26, slot := 3, constantValue := 0 }, { name := "EMPTY_LIST", type := (.object "java/util/ImmutableCollections$ListN"), accessFlags := 24, slot := 4, constantValue := 0 }, { name := "EMPTY_LIST_NULLS", type := (.object "java/util/ImmutableCollections$ListN"), accessFlags := 24, slot := 5, constantValue := 0 }, { name := "EMPTY_SET", type := (.object "java/util/ImmutableCollections$SetN"), accessFlags := 24, slot := 6, constantValue := 0 }, { name := "EMPTY_MAP", type := (.object "java/util/ImmutableCollections$MapN"), accessFlags := 24, slot := 7, constantValue := 0 }, { name := "EXPAND_FACTOR", type := .int, accessFlags := 24, slot := 8, constantValue := 0 }, { name := "$assertionsDisabled", type := .boolean, accessFlags := 4120, slot := 9, constantValue := 0 }]
  methods := #[k20m0]
  instanceTypes := #[]
  staticTypes := #[.long, .boolean, (.array (.object "java/lang/Object")), (.object "java/lang/Object"), (.object "java/util/ImmutableCollections$ListN"), (.object "java/util/ImmutableCollections$ListN"), (.object "java/util/ImmutableCollections$SetN"), (.object "java/util/ImmutableCollections$MapN"), .int, .boolean]
  resolved := Array.replicate 213 none
  statics := some 2 }

def pool21 : Array CpInfo := pool [(2, .class_ 4), (1, u "java/lang/CharSequence"), (42, .class_ 48), (0, u "java/lang/CharSequence$1CodePointIterator"), (10, .class_ 60), (0, u "java/lang/CharSequence$1CharIterator"), (5, .class_ 67), (0, u "java/lang/Object")] 63

/-- java/lang/CharSequence -/
def k21 : Class := { plain "java/lang/CharSequence" (some 0) with
  accessFlags := 1537
  interfaces := #[]
  cf := some (fileOf pool21 2 #[.nestMembers #[47, 59]] #[] 1537 66 #[] #[])
  fields := #[]
  methods := #[]
  instanceTypes := #[]
  staticTypes := #[]
  resolved := Array.replicate 131 none
  statics := none }

def pool22 : Array CpInfo := pool [(1, .class_ 2), (0, u "java/lang/constant/ConstantDesc"), (0, .class_ 4), (0, u "java/lang/Object")] 32

/-- java/lang/constant/ConstantDesc -/
def k22 : Class := { plain "java/lang/constant/ConstantDesc" (some 0) with
  accessFlags := 1537
  interfaces := #[]
  cf := some (fileOf pool22 1 #[] #[] 1537 3 #[] #[])
  fields := #[]
  methods := #[]
  instanceTypes := #[]
  staticTypes := #[]
  resolved := Array.replicate 37 none
  statics := none }

def pool23 : Array CpInfo := pool [(2, .class_ 4), (1, u "java/lang/Object"), (0, u "<init>"), (0, u "()V"), (3, .class_ 12), (1, u "java/lang/String"), (0, u "value"), (0, u "[B"), (2, u "coder"), (0, u "B"), (2, u "hash"), (0, u "I"), (2, u "hashIsZero"), (0, u "Z"), (13, u "COMPACT_STRINGS"), (534, .class_ 576), (0, u "java/lang/CharSequence"), (22, u "CASE_INSENSITIVE_ORDER"), (0, u "Ljava/util/Comparator;"), (500, u "serialPersistentFields"), (0, u "[Ljava/io/ObjectStreamField;"), (0, .class_ 1104), (0, u "java/lang/String$CaseInsensitiveComparator"), (1, .class_ 1107), (0, u "java/io/Serializable"), (0, .class_ 1109), (0, u "java/lang/Comparable"), (0, .class_ 1111), (0, u "java/lang/constant/Constable"), (0, .class_ 1113), (0, u "java/lang/constant/ConstantDesc"), (2, u "serialVersionUID"), (0, u "J"), (3, u "REPL"), (0, u "C"), (2, u "LATIN1"), (1, u "UTF16")] 323

def k23m0 : Method := { name := "<init>", desc := "()V", sig := { parameters := [], returnType := none }, accessFlags := 1, code := none }
/-- java/lang/String -/
def k23 : Class := { plain "java/lang/String" (some 0) with
  accessFlags := 49
  interfaces := #[12, 17, 21, 16, 22]
  cf := some (fileOf pool23 10 #[.nestMembers #[1103]] #[{ accessFlags := 1, nameIndex := 5, descriptorIndex := 6, attributes := #[] }] 49 2 #[1106, 1108, 575, 1110, 1112] #[{ accessFlags := 18, nameIndex := 13, descriptorIndex := 14, attributes := #[] }, { accessFlags := 18, nameIndex := 17, descriptorIndex := 18, attributes := #[] }, { accessFlags := 2, nameIndex := 21, descriptorIndex := 22, attributes := #[] }, { accessFlags := 2, nameIndex := 25, descriptorIndex := 26, attributes := #[] }, { accessFlags := 26, nameIndex := 1116, descriptorIndex := 1117, attributes := #[] }, { accessFlags := 24, nameIndex := 40, descriptorIndex := 26, attributes := #[] }, { accessFlags := 26, nameIndex := 1101, descriptorIndex := 1102, attributes := #[] }, { accessFlags := 26, nameIndex := 1121, descriptorIndex := 1122, attributes := #[] }, { accessFlags := 25, nameIndex := 599, descriptorIndex := 600, attributes := #[] }, { accessFlags := 24, nameIndex := 1125, descriptorIndex := 18, attributes := #[] }, { accessFlags := 24, nameIndex := 1127, descriptorIndex := 18, attributes := #[] }])
  fields := #[{ name := "value", type := (.array .byte), accessFlags := 18, slot := 0, constantValue := 0 }, { name := "coder", type := .byte, accessFlags := 18, slot := 1, constantValue := 0 }, { name := "hash", type := .int, accessFlags := 2, slot := 2, constantValue := 0 }, { name := "hashIsZero", type := .boolean, accessFlags := 2, slot := 3, constantValue := 0 }, { name := "serialVersionUID", type := .long, accessFlags := 26, slot := 0, constantValue := 0 }, { name := "COMPACT_STRINGS", type := .boolean, accessFlags := 24, slot := 1, constantValue := 0 }, { name := "serialPersistentFields", type := (.array (.object "java/io/ObjectStreamField")), accessFlags := 26, slot := 2, constantValue := 0 }, { name := "REPL", type := .char, accessFlags := 26, slot := 3, constantValue := 0 }, { name := "CASE_INSENSITIVE_ORDER", type := (.object "java/util/Comparator"), accessFlags := 25, slot := 4, constantValue := 0 }, { name := "LATIN1", type := .byte, accessFlags := 24, slot := 5, constantValue := 0 }, { name := "UTF16", type := .byte, accessFlags := 24, slot := 6, constantValue := 0 }]
  methods := #[k23m0]
  instanceTypes := #[(.array .byte), .byte, .int, .boolean]
  staticTypes := #[.long, .boolean, (.array (.object "java/io/ObjectStreamField")), .char, (.object "java/util/Comparator"), .byte, .byte]
  resolved := Array.replicate 1451 none
  statics := none }

def pool24 : Array CpInfo := pool [(2, .class_ 4), (1, u "java/lang/Object"), (0, u "<init>"), (0, u "()V"), (35, .class_ 44), (1, u "java/util/Objects"), (0, u "requireNonNull"), (48, u "(Ljava/lang/Object;Ljava/lang/String;)Ljava/lang/Object;")] 89

def k24m0 : Method := { name := "<init>", desc := "()V", sig := { parameters := [], returnType := none }, accessFlags := 2, code := none }
def k24c1 : Code := { maxStack := 3, maxLocals := 2, code := jdk_31_method_11_code, exceptionTable := #[], attributes := #[] }
def k24m1 : Method := { name := "requireNonNull", desc := "(Ljava/lang/Object;Ljava/lang/String;)Ljava/lang/Object;", sig := { parameters := [(.object "java/lang/Object"), (.object "java/lang/String")], returnType := some (.object "java/lang/Object") }, accessFlags := 9, code := some k24c1 }
/-- java/util/Objects -/
def k24 : Class := { plain "java/util/Objects" (some 0) with
  accessFlags := 49
  interfaces := #[]
  cf := some (fileOf pool24 42 #[] #[{ accessFlags := 2, nameIndex := 5, descriptorIndex := 6, attributes := #[] }, { accessFlags := 9, nameIndex := 45, descriptorIndex := 94, attributes := #[] }] 49 2 #[] #[])
  fields := #[]
  methods := #[k24m0, k24m1]
  instanceTypes := #[]
  staticTypes := #[]
  resolved := Array.replicate 184 none
  statics := none }

def pool25 : Array CpInfo := pool [(1, .methodref 2 3), (0, .class_ 4), (0, .nameAndType 5 6), (0, u "java/lang/Object"), (0, u "<init>"), (0, u "()V"), (0, .class_ 8), (0, u "com/example/mapcodex/mapcodex/pbf/ObjectBatch"), (0, .fieldref 7 10), (0, .nameAndType 11 12), (0, u "objects"), (0, u "[Ljava/lang/Object;"), (0, .fieldref 7 14), (0, .nameAndType 15 16), (0, u "size"), (0, u "I"), (0, .fieldref 7 18), (0, .nameAndType 19 20), (0, u "values"), (0, u "J"), (2, .fieldref 7 24), (0, .nameAndType 25 16), (0, u "handed"), (0, .class_ 27), (0, u "com/example/mapcodex/mapcodex/osm/OsmObject"), (0, u "MAX_OBJECTS"), (2, u "MAX_VALUES"), (4, u "()Z"), (1, u "add"), (0, u "(Lcom/example/mapcodex/mapcodex/osm/OsmObject;I)V"), (0, u "()J"), (0, u "hasNext"), (0, u "next"), (0, u "()Lcom/example/mapcodex/mapcodex/osm/OsmObject;")] 2

def k25c0 : Code := { maxStack := 2, maxLocals := 1, code := prog_49_method_1_code, exceptionTable := #[], attributes := #[] }
def k25m0 : Method := { name := "<init>", desc := "()V", sig := { parameters := [], returnType := none }, accessFlags := 0, code := some k25c0 }
def k25c1 : Code := { maxStack := 5, maxLocals := 3, code := prog_49_method_3_code, exceptionTable := #[], attributes := #[] }
def k25m1 : Method := { name := "add", desc := "(Lcom/example/mapcodex/mapcodex/osm/OsmObject;I)V", sig := { parameters := [(.object "com/example/mapcodex/mapcodex/osm/OsmObject"), .int], returnType := none }, accessFlags := 0, code := some k25c1 }
def k25c2 : Code := { maxStack := 2, maxLocals := 1, code := prog_49_method_4_code, exceptionTable := #[], attributes := #[] }
def k25m2 : Method := { name := "values", desc := "()J", sig := { parameters := [], returnType := some .long }, accessFlags := 0, code := some k25c2 }
def k25c3 : Code := { maxStack := 2, maxLocals := 1, code := prog_49_method_5_code, exceptionTable := #[], attributes := #[] }
def k25m3 : Method := { name := "hasNext", desc := "()Z", sig := { parameters := [], returnType := some .boolean }, accessFlags := 0, code := some k25c3 }
def k25c4 : Code := { maxStack := 5, maxLocals := 2, code := prog_49_method_6_code, exceptionTable := #[], attributes := #[] }
def k25m4 : Method := { name := "next", desc := "()Lcom/example/mapcodex/mapcodex/osm/OsmObject;", sig := { parameters := [], returnType := some (.object "com/example/mapcodex/mapcodex/osm/OsmObject") }, accessFlags := 0, code := some k25c4 }
/-- com/example/mapcodex/mapcodex/pbf/ObjectBatch -/
def k25 : Class := { plain "com/example/mapcodex/mapcodex/pbf/ObjectBatch" (some 0) with
  accessFlags := 48
  interfaces := #[]
  cf := some (fileOf pool25 7 #[] #[{ accessFlags := 0, nameIndex := 5, descriptorIndex := 6, attributes := #[] }, { accessFlags := 0, nameIndex := 38, descriptorIndex := 39, attributes := #[] }, { accessFlags := 0, nameIndex := 19, descriptorIndex := 40, attributes := #[] }, { accessFlags := 0, nameIndex := 41, descriptorIndex := 36, attributes := #[] }, { accessFlags := 0, nameIndex := 42, descriptorIndex := 43, attributes := #[] }] 48 2 #[] #[{ accessFlags := 24, nameIndex := 28, descriptorIndex := 16, attributes := #[] }, { accessFlags := 24, nameIndex := 31, descriptorIndex := 16, attributes := #[] }, { accessFlags := 18, nameIndex := 11, descriptorIndex := 12, attributes := #[] }, { accessFlags := 2, nameIndex := 15, descriptorIndex := 16, attributes := #[] }, { accessFlags := 2, nameIndex := 25, descriptorIndex := 16, attributes := #[] }, { accessFlags := 2, nameIndex := 19, descriptorIndex := 20, attributes := #[] }])
  fields := #[{ name := "MAX_OBJECTS", type := .int, accessFlags := 24, slot := 0, constantValue := 0 }, { name := "MAX_VALUES", type := .int, accessFlags := 24, slot := 1, constantValue := 0 }, { name := "objects", type := (.array (.object "java/lang/Object")), accessFlags := 18, slot := 0, constantValue := 0 }, { name := "size", type := .int, accessFlags := 2, slot := 1, constantValue := 0 }, { name := "handed", type := .int, accessFlags := 2, slot := 2, constantValue := 0 }, { name := "values", type := .long, accessFlags := 2, slot := 3, constantValue := 0 }]
  methods := #[k25m0, k25m1, k25m2, k25m3, k25m4]
  instanceTypes := #[(.array (.object "java/lang/Object")), .int, .int, .long]
  staticTypes := #[.int, .int]
  resolved := Array.replicate 46 none
  statics := none }

def pool26 : Array CpInfo := pool [(2, .class_ 4), (1, u "java/util/AbstractCollection"), (0, u "<init>"), (0, u "()V"), (1, .class_ 10), (1, u "java/util/ImmutableCollections"), (2, .class_ 14), (0, u "java/util/ImmutableCollections$AbstractImmutableCollection")] 41

def k26m0 : Method := { name := "<init>", desc := "()V", sig := { parameters := [], returnType := none }, accessFlags := 0, code := none }
/-- java/util/ImmutableCollections$AbstractImmutableCollection -/
def k26 : Class := { plain "java/util/ImmutableCollections$AbstractImmutableCollection" (some 6) with
  accessFlags := 1056
  interfaces := #[]
  cf := some (fileOf pool26 13 #[.nestHost 8] #[{ accessFlags := 0, nameIndex := 5, descriptorIndex := 6, attributes := #[] }] 1056 2 #[] #[])
  fields := #[]
  methods := #[k26m0]
  instanceTypes := #[]
  staticTypes := #[]
  resolved := Array.replicate 56 none
  statics := none }

def pool27 : Array CpInfo := pool [(2, .class_ 4), (1, u "java/util/ImmutableCollections$AbstractImmutableCollection"), (0, u "<init>"), (0, u "()V"), (1, .class_ 10), (1, u "java/util/ImmutableCollections"), (3, .class_ 16), (1, u "java/util/ImmutableCollections$AbstractImmutableList"), (60, .class_ 78), (0, u "java/util/List"), (45, .class_ 125), (0, u "java/util/RandomAccess")] 70

def k27m0 : Method := { name := "<init>", desc := "()V", sig := { parameters := [], returnType := none }, accessFlags := 0, code := none }
/-- java/util/ImmutableCollections$AbstractImmutableList -/
def k27 : Class := { plain "java/util/ImmutableCollections$AbstractImmutableList" (some 26) with
  accessFlags := 1056
  interfaces := #[8, 10]
  cf := some (fileOf pool27 14 #[.nestHost 8] #[{ accessFlags := 0, nameIndex := 5, descriptorIndex := 6, attributes := #[] }] 1056 2 #[77, 124] #[])
  fields := #[]
  methods := #[k27m0]
  instanceTypes := #[]
  staticTypes := #[]
  resolved := Array.replicate 196 none
  statics := none }

def pool28 : Array CpInfo := pool [(2, .class_ 4), (1, u "java/util/ImmutableCollections$AbstractImmutableList"), (3, .class_ 10), (1, u "java/util/ImmutableCollections$ListN"), (0, u "elements"), (0, u "[Ljava/lang/Object;"), (2, u "allowNulls"), (0, u "Z"), (42, .class_ 60), (0, u "java/io/Serializable"), (53, .class_ 115), (0, u "java/util/ImmutableCollections")] 3

/-- java/util/ImmutableCollections$ListN -/
def k28 : Class := { plain "java/util/ImmutableCollections$ListN" (some 27) with
  accessFlags := 48
  interfaces := #[12]
  cf := some (fileOf pool28 8 #[.nestHost 114] #[] 48 2 #[59] #[{ accessFlags := 18, nameIndex := 11, descriptorIndex := 12, attributes := #[] }, { accessFlags := 18, nameIndex := 15, descriptorIndex := 16, attributes := #[] }])
  fields := #[{ name := "elements", type := (.array (.object "java/lang/Object")), accessFlags := 18, slot := 0, constantValue := 0 }, { name := "allowNulls", type := .boolean, accessFlags := 18, slot := 1, constantValue := 0 }]
  methods := #[]
  instanceTypes := #[(.array (.object "java/lang/Object")), .boolean]
  staticTypes := #[]
  resolved := Array.replicate 119 none
  statics := none }

/-- the primitive byte -/
def k29 : Class := { plain "byte" none with kind := .primitive 'B', accessFlags := 0x411 }
/-- [B -/
def k30 : Class := { plain "[B" (some 0) with kind := .array 29 .byte, interfaces := #[11, 12], accessFlags := 1041 }

/-- the primitive int -/
def k31 : Class := { plain "int" none with kind := .primitive 'I', accessFlags := 0x411 }
/-- [I -/
def k32 : Class := { plain "[I" (some 0) with kind := .array 31 .int, interfaces := #[11, 12], accessFlags := 1041 }

/-- the primitive long -/
def k33 : Class := { plain "long" none with kind := .primitive 'J', accessFlags := 0x411 }
/-- [J -/
def k34 : Class := { plain "[J" (some 0) with kind := .array 33 .long, interfaces := #[11, 12], accessFlags := 1041 }

/-- [Ljava/lang/Object; -/
def k35 : Class := { plain "[Ljava/lang/Object;" (some 0) with kind := .array 0 (.object "java/lang/Object"), interfaces := #[11, 12], accessFlags := 1041 }

def heap : Heap := #[{ cls := 13, slots := #[.long 0, .int 0, .ref 6, .ref 7], vm := .statics 13 },
  { cls := 15, slots := #[.ref 3], vm := .statics 15 },
  { cls := 20, slots := #[.long 0, .int 0, .null, .null, .ref 5, .null, .null, .null, .int 0, .int 0], vm := .statics 20 },
  { cls := 15, slots := #[.int 0, .long 0, .long 0, .int 0, .null, .null], vm := .none },
  { cls := 35, slots := #[], vm := .none },
  { cls := 28, slots := #[.ref 4, .int 0], vm := .none },
  { cls := 35, slots := #[], vm := .none },
  { cls := 35, slots := #[], vm := .none }]
def classes : Array Class := #[k0, k1, k2, k3, k4, k5, k6, k7, k8, k9, k10, k11, k12, k13, k14, k15, k16, k17, k18, k19, k20, k21, k22, k23, k24, k25, k26, k27, k28, k29, k30, k31, k32, k33, k34, k35]
def interned : List (Array UInt16 × Addr) := []
def slotsUsed : Nat := 23
def theMethod : MethodId := ⟨1, 1⟩
def args0 : Array Value := #[.int 5, .long 7, .int 3, .int 2, .int 4]
def aboutOver (below : List Frame) : State where
  vm := { classes := classes, interned := interned.toArray }
  heap := heap
  slotsUsed := slotsUsed
  threads := #[{ frames := .invoking theMethod args0 :: below }]
def below0 : List Frame := [.native { method := ⟨0, 0⟩, args := #[] }]
def about1 : State := aboutOver below0
def p0 : Program := .bare "" "" ""
def e0 : Env := launch0.env 0 0 0
theorem w_frames : about1.frames = Frame.invoking theMethod args0 :: below0 := rfl
set_option maxRecDepth 65536 in
theorem w_args : argsFit about1.vm theMethod args0 = true := by decide +kernel
set_option maxRecDepth 65536 in
theorem w_heap : heapFits about1 = true := by decide +kernel
set_option maxRecDepth 65536 in
theorem w_runnable : about1.curStatus? = some .runnable := by decide +kernel
set_option maxRecDepth 65536 in
theorem w_alone : about1.alone = true := by decide +kernel
set_option maxRecDepth 65536 in
theorem w_named : about1.methodNamed? x = some theMethod := by decide +kernel
set_option maxRecDepth 65536 in
theorem w_hears : about1.hears theMethod below0 = true := by decide +kernel
set_option maxRecDepth 65536 in
theorem w_ripe : about1.ripe theMethod args0 below0 = true := by decide +kernel
theorem w_running : about1.status = .running := rfl
set_option maxRecDepth 65536 in
theorem w_room : about1.hasRoom e0.platform room_1 = true :=
  launch0.hasRoom_least _ room_1 (by decide +kernel) (by decide +kernel) (by decide +kernel) (by decide +kernel) (by decide +kernel) (by decide +kernel)
theorem allAtoms_all (ts : List Jvm.Cond) (a : Array Jvm.Value) (st : Jvm.State) : (allAtoms ts).before a st = ts.all (fun c => c.before a st) := by
  induction ts with
  | nil => rfl
  | cons c t ih =>
    show (Jvm.Cond.and c (allAtoms t)).before a st = _
    rw [Jvm.Cond.before_and, ih, List.all_cons]
def words1 : List Jvm.Cond := Jvm.Cond.code x code maxLocals ret :: tables_1
/-- a 'code' word, met by the world's own term for the bytes: nothing is compared byte by byte -/
theorem code_word {y : MethodName} {bytes : ByteArray} {mx : Nat} {rt : Option FieldType} {a : Array Value} {s : State} {m : MethodId} {meth : Method} {c : Code} (h1 : s.methodNamed? y = some m) (h2 : s.vm.method? m = some meth) (h3 : meth.code = some c) (h4 : c.code = bytes)
    (h5 : (c.maxLocals == mx && c.exceptionTable.isEmpty && decide (c.maxStack ≤ mostOperands) && decide (meth.sig.returnType = rt) && !meth.locks && decide (parseMethodDescriptor y.desc = some meth.sig)) = true) : (Jvm.Cond.code y bytes mx rt).before a s = true := by
  simp only [Bool.and_eq_true, beq_iff_eq, Bool.not_eq_true', decide_eq_true_eq] at h5
  obtain ⟨⟨⟨⟨⟨g1, g2⟩, g3⟩, g4⟩, g5⟩, g6⟩ := h5
  simp [Cond.before, Cond.holds, Cond.value, h1, h2, h3, h4, g1, g2, g3, g4, g5, g6]
def isCode : Jvm.Cond → Bool
  | .code _ _ _ _ => true
  | _ => false
theorem all_split {L : List Jvm.Cond} {P : Jvm.Cond → Bool} (h1 : L.all (fun c => isCode c || P c) = true) (h2 : ∀ c ∈ L.filter isCode, P c = true) : L.all P = true := by
  refine List.all_eq_true.mpr fun c hc => ?_
  have h := List.all_eq_true.mp h1 c hc
  rcases Bool.eq_false_or_eq_true (isCode c) with hi | hi
  · exact h2 c (List.mem_filter.mpr ⟨hc, hi⟩)
  · simpa [hi] using h
set_option maxRecDepth 65536 in
theorem w_c0 : (Jvm.Cond.code x code maxLocals ret).before args0 about1 = true := code_word (m := ⟨1, 1⟩) (meth := k1m1) (c := k1c1) (by decide +kernel) rfl rfl rfl (by decide +kernel)
set_option maxRecDepth 65536 in
theorem w_c1 : (Jvm.Cond.code ({ cls := "java/util/ArrayList", name := "<init>", desc := "()V" } : Jvm.MethodName) jdk_38_method_2_code (1 : Nat) (Option.none : Option Jvm.ClassFile.FieldType)).before args0 about1 = true := code_word (m := ⟨13, 0⟩) (meth := k13m0) (c := k13c0) (by decide +kernel) rfl rfl rfl (by decide +kernel)
set_option maxRecDepth 65536 in
theorem w_c2 : (Jvm.Cond.code ({ cls := "java/util/AbstractList", name := "<init>", desc := "()V" } : Jvm.MethodName) jdk_39_method_1_code (1 : Nat) (Option.none : Option Jvm.ClassFile.FieldType)).before args0 about1 = true := code_word (m := ⟨9, 0⟩) (meth := k9m0) (c := k9c0) (by decide +kernel) rfl rfl rfl (by decide +kernel)
set_option maxRecDepth 65536 in
theorem w_c3 : (Jvm.Cond.code ({ cls := "java/util/AbstractCollection", name := "<init>", desc := "()V" } : Jvm.MethodName) jdk_22_method_1_code (1 : Nat) (Option.none : Option Jvm.ClassFile.FieldType)).before args0 about1 = true := code_word (m := ⟨6, 0⟩) (meth := k6m0) (c := k6c0) (by decide +kernel) rfl rfl rfl (by decide +kernel)
set_option maxRecDepth 65536 in
theorem w_c4 : (Jvm.Cond.code ({ cls := "java/lang/Object", name := "<init>", desc := "()V" } : Jvm.MethodName) object_method_1_code (1 : Nat) (Option.none : Option Jvm.ClassFile.FieldType)).before args0 about1 = true := code_word (m := ⟨0, 0⟩) (meth := k0m0) (c := k0c0) (by decide +kernel) rfl rfl rfl (by decide +kernel)
set_option maxRecDepth 65536 in
theorem w_c5 : (Jvm.Cond.code ({ cls := "com/example/mapcodex/mapcodex/osm/Way", name := "<init>", desc := "(J[JLjava/util/List;Lcom/example/mapcodex/mapcodex/osm/Metadata;)V" } : Jvm.MethodName) prog_35_method_1_code (6 : Nat) (Option.none : Option Jvm.ClassFile.FieldType)).before args0 about1 = true := code_word (m := ⟨3, 0⟩) (meth := k3m0) (c := k3c0) (by decide +kernel) rfl rfl rfl (by decide +kernel)
set_option maxRecDepth 65536 in
theorem w_c6 : (Jvm.Cond.code ({ cls := "com/example/mapcodex/mapcodex/osm/Way", name := "<init>", desc := "([JJLjava/util/List;Lcom/example/mapcodex/mapcodex/osm/Metadata;)V" } : Jvm.MethodName) prog_35_method_3_code (6 : Nat) (Option.none : Option Jvm.ClassFile.FieldType)).before args0 about1 = true := code_word (m := ⟨3, 1⟩) (meth := k3m1) (c := k3c1) (by decide +kernel) rfl rfl rfl (by decide +kernel)
set_option maxRecDepth 65536 in
theorem w_c7 : (Jvm.Cond.code ({ cls := "com/example/mapcodex/mapcodex/osm/ObjectList", name := "copyOf", desc := "(Ljava/util/List;)Ljava/util/List;" } : Jvm.MethodName) prog_26_method_4_code (1 : Nat) (Option.some (Jvm.ClassFile.FieldType.object "java/util/List"))).before args0 about1 = true := code_word (m := ⟨19, 0⟩) (meth := k19m0) (c := k19c0) (by decide +kernel) rfl rfl rfl (by decide +kernel)
set_option maxRecDepth 65536 in
theorem w_c8 : (Jvm.Cond.code ({ cls := "java/util/ArrayList", name := "size", desc := "()I" } : Jvm.MethodName) jdk_38_method_8_code (1 : Nat) (Option.some Jvm.ClassFile.FieldType.int)).before args0 about1 = true := code_word (m := ⟨13, 1⟩) (meth := k13m1) (c := k13c1) (by decide +kernel) rfl rfl rfl (by decide +kernel)
set_option maxRecDepth 65536 in
theorem w_c9 : (Jvm.Cond.code ({ cls := "java/util/List", name := "of", desc := "()Ljava/util/List;" } : Jvm.MethodName) jdk_40_method_36_code (0 : Nat) (Option.some (Jvm.ClassFile.FieldType.object "java/util/List"))).before args0 about1 = true := code_word (m := ⟨8, 1⟩) (meth := k8m1) (c := k8c1) (by decide +kernel) rfl rfl rfl (by decide +kernel)
set_option maxRecDepth 65536 in
theorem w_c10 : (Jvm.Cond.code ({ cls := "java/util/Objects", name := "requireNonNull", desc := "(Ljava/lang/Object;Ljava/lang/String;)Ljava/lang/Object;" } : Jvm.MethodName) jdk_31_method_11_code (2 : Nat) (Option.some (Jvm.ClassFile.FieldType.object "java/lang/Object"))).before args0 about1 = true := code_word (m := ⟨24, 1⟩) (meth := k24m1) (c := k24c1) (by decide +kernel) rfl rfl rfl (by decide +kernel)
set_option maxRecDepth 65536 in
theorem w_c11 : (Jvm.Cond.code ({ cls := "com/example/mapcodex/mapcodex/pbf/ObjectBatch", name := "<init>", desc := "()V" } : Jvm.MethodName) prog_49_method_1_code (1 : Nat) (Option.none : Option Jvm.ClassFile.FieldType)).before args0 about1 = true := code_word (m := ⟨25, 0⟩) (meth := k25m0) (c := k25c0) (by decide +kernel) rfl rfl rfl (by decide +kernel)
set_option maxRecDepth 65536 in
theorem w_c12 : (Jvm.Cond.code ({ cls := "com/example/mapcodex/mapcodex/pbf/ObjectBatch", name := "add", desc := "(Lcom/example/mapcodex/mapcodex/osm/OsmObject;I)V" } : Jvm.MethodName) prog_49_method_3_code (3 : Nat) (Option.none : Option Jvm.ClassFile.FieldType)).before args0 about1 = true := code_word (m := ⟨25, 1⟩) (meth := k25m1) (c := k25c1) (by decide +kernel) rfl rfl rfl (by decide +kernel)
set_option maxRecDepth 65536 in
theorem w_c13 : (Jvm.Cond.code ({ cls := "com/example/mapcodex/mapcodex/pbf/ObjectBatch", name := "next", desc := "()Lcom/example/mapcodex/mapcodex/osm/OsmObject;" } : Jvm.MethodName) prog_49_method_6_code (2 : Nat) (Option.some (Jvm.ClassFile.FieldType.object "com/example/mapcodex/mapcodex/osm/OsmObject"))).before args0 about1 = true := code_word (m := ⟨25, 4⟩) (meth := k25m4) (c := k25c4) (by decide +kernel) rfl rfl rfl (by decide +kernel)
set_option maxRecDepth 65536 in
theorem w_c14 : (Jvm.Cond.code ({ cls := "com/example/mapcodex/mapcodex/pbf/ObjectBatch", name := "hasNext", desc := "()Z" } : Jvm.MethodName) prog_49_method_5_code (1 : Nat) (Option.some Jvm.ClassFile.FieldType.boolean)).before args0 about1 = true := code_word (m := ⟨25, 3⟩) (meth := k25m3) (c := k25c3) (by decide +kernel) rfl rfl rfl (by decide +kernel)
set_option maxRecDepth 65536 in
theorem w_c15 : (Jvm.Cond.code ({ cls := "com/example/mapcodex/mapcodex/pbf/ObjectBatch", name := "values", desc := "()J" } : Jvm.MethodName) prog_49_method_4_code (1 : Nat) (Option.some Jvm.ClassFile.FieldType.long)).before args0 about1 = true := code_word (m := ⟨25, 2⟩) (meth := k25m2) (c := k25c2) (by decide +kernel) rfl rfl rfl (by decide +kernel)
def codes1 : List Jvm.Cond := [Jvm.Cond.code x code maxLocals ret, Jvm.Cond.code ({ cls := "java/util/ArrayList", name := "<init>", desc := "()V" } : Jvm.MethodName) jdk_38_method_2_code (1 : Nat) (Option.none : Option Jvm.ClassFile.FieldType), Jvm.Cond.code ({ cls := "java/util/AbstractList", name := "<init>", desc := "()V" } : Jvm.MethodName) jdk_39_method_1_code (1 : Nat) (Option.none : Option Jvm.ClassFile.FieldType), Jvm.Cond.code ({ cls := "java/util/AbstractCollection", name := "<init>", desc := "()V" } : Jvm.MethodName) jdk_22_method_1_code (1 : Nat) (Option.none : Option Jvm.ClassFile.FieldType), Jvm.Cond.code ({ cls := "java/lang/Object", name := "<init>", desc := "()V" } : Jvm.MethodName) object_method_1_code (1 : Nat) (Option.none : Option Jvm.ClassFile.FieldType), Jvm.Cond.code ({ cls := "com/example/mapcodex/mapcodex/osm/Way", name := "<init>", desc := "(J[JLjava/util/List;Lcom/example/mapcodex/mapcodex/osm/Metadata;)V" } : Jvm.MethodName) prog_35_method_1_code (6 : Nat) (Option.none : Option Jvm.ClassFile.FieldType), Jvm.Cond.code ({ cls := "com/example/mapcodex/mapcodex/osm/Way", name := "<init>", desc := "([JJLjava/util/List;Lcom/example/mapcodex/mapcodex/osm/Metadata;)V" } : Jvm.MethodName) prog_35_method_3_code (6 : Nat) (Option.none : Option Jvm.ClassFile.FieldType), Jvm.Cond.code ({ cls := "com/example/mapcodex/mapcodex/osm/ObjectList", name := "copyOf", desc := "(Ljava/util/List;)Ljava/util/List;" } : Jvm.MethodName) prog_26_method_4_code (1 : Nat) (Option.some (Jvm.ClassFile.FieldType.object "java/util/List")), Jvm.Cond.code ({ cls := "java/util/ArrayList", name := "size", desc := "()I" } : Jvm.MethodName) jdk_38_method_8_code (1 : Nat) (Option.some Jvm.ClassFile.FieldType.int), Jvm.Cond.code ({ cls := "java/util/List", name := "of", desc := "()Ljava/util/List;" } : Jvm.MethodName) jdk_40_method_36_code (0 : Nat) (Option.some (Jvm.ClassFile.FieldType.object "java/util/List")), Jvm.Cond.code ({ cls := "java/util/Objects", name := "requireNonNull", desc := "(Ljava/lang/Object;Ljava/lang/String;)Ljava/lang/Object;" } : Jvm.MethodName) jdk_31_method_11_code (2 : Nat) (Option.some (Jvm.ClassFile.FieldType.object "java/lang/Object")), Jvm.Cond.code ({ cls := "com/example/mapcodex/mapcodex/pbf/ObjectBatch", name := "<init>", desc := "()V" } : Jvm.MethodName) prog_49_method_1_code (1 : Nat) (Option.none : Option Jvm.ClassFile.FieldType), Jvm.Cond.code ({ cls := "com/example/mapcodex/mapcodex/pbf/ObjectBatch", name := "add", desc := "(Lcom/example/mapcodex/mapcodex/osm/OsmObject;I)V" } : Jvm.MethodName) prog_49_method_3_code (3 : Nat) (Option.none : Option Jvm.ClassFile.FieldType), Jvm.Cond.code ({ cls := "com/example/mapcodex/mapcodex/pbf/ObjectBatch", name := "next", desc := "()Lcom/example/mapcodex/mapcodex/osm/OsmObject;" } : Jvm.MethodName) prog_49_method_6_code (2 : Nat) (Option.some (Jvm.ClassFile.FieldType.object "com/example/mapcodex/mapcodex/osm/OsmObject")), Jvm.Cond.code ({ cls := "com/example/mapcodex/mapcodex/pbf/ObjectBatch", name := "hasNext", desc := "()Z" } : Jvm.MethodName) prog_49_method_5_code (1 : Nat) (Option.some Jvm.ClassFile.FieldType.boolean), Jvm.Cond.code ({ cls := "com/example/mapcodex/mapcodex/pbf/ObjectBatch", name := "values", desc := "()J" } : Jvm.MethodName) prog_49_method_4_code (1 : Nat) (Option.some Jvm.ClassFile.FieldType.long)]
set_option maxRecDepth 65536 in
theorem codes_eq : words1.filter isCode = codes1 := rfl
theorem w_codes : ∀ c ∈ words1.filter isCode, c.before args0 about1 = true := by
  rw [codes_eq]
  intro c hc
  simp only [codes1, List.mem_cons, List.not_mem_nil, or_false] at hc
  rcases hc with rfl | rfl | rfl | rfl | rfl | rfl | rfl | rfl | rfl | rfl | rfl | rfl | rfl | rfl | rfl | rfl
  · exact w_c0
  · exact w_c1
  · exact w_c2
  · exact w_c3
  · exact w_c4
  · exact w_c5
  · exact w_c6
  · exact w_c7
  · exact w_c8
  · exact w_c9
  · exact w_c10
  · exact w_c11
  · exact w_c12
  · exact w_c13
  · exact w_c14
  · exact w_c15
set_option maxRecDepth 65536 in
theorem w_t1 : (words1.take 24).all (fun c => isCode c || c.before args0 about1) = true := by decide +kernel
set_option maxRecDepth 65536 in
theorem w_t2 : ((words1.drop 24).take 24).all (fun c => isCode c || c.before args0 about1) = true := by decide +kernel
set_option maxRecDepth 65536 in
theorem w_t3 : (((words1.drop 24).drop 24).take 24).all (fun c => isCode c || c.before args0 about1) = true := by decide +kernel
set_option maxRecDepth 65536 in
theorem w_t4 : ((((words1.drop 24).drop 24).drop 24).take 24).all (fun c => isCode c || c.before args0 about1) = true := by decide +kernel
set_option maxRecDepth 65536 in
theorem w_t5 : (((((words1.drop 24).drop 24).drop 24).drop 24).take 24).all (fun c => isCode c || c.before args0 about1) = true := by decide +kernel
set_option maxRecDepth 65536 in
theorem w_t6 : (((((words1.drop 24).drop 24).drop 24).drop 24).drop 24).all (fun c => isCode c || c.before args0 about1) = true := by decide +kernel
theorem w_tables : (allAtoms (Jvm.Cond.code x code maxLocals ret :: tables_1)).before args0 about1 = true := by
  rw [allAtoms_all]
  show words1.all (fun c => c.before args0 about1) = true
  refine all_split ?_ w_codes
  rw [← List.take_append_drop 24 words1, List.all_append, w_t1, ← List.take_append_drop 24 (words1.drop 24), List.all_append, w_t2, ← List.take_append_drop 24 ((words1.drop 24).drop 24), List.all_append, w_t3, ← List.take_append_drop 24 (((words1.drop 24).drop 24).drop 24), List.all_append, w_t4, ← List.take_append_drop 24 ((((words1.drop 24).drop 24).drop 24).drop 24), List.all_append, w_t5, w_t6]
  rfl
set_option maxRecDepth 65536 in
theorem w_rest : rest_1_c.before args0 about1 = true := by decide +kernel
set_option maxRecDepth 65536 in
theorem w_case : (Jvm.Cond.and given_1 narrow_1).before args0 about1 = true := by decide +kernel
theorem w_applies : (headSpec (Jvm.Cond.code x code maxLocals ret :: tables_1) room_1).applies x e0.platform about1 = true :=
  (Spec.applies_iff w_frames).mpr ⟨w_running, w_runnable, w_alone, w_named, w_hears, w_ripe, w_room, w_tables⟩
theorem atStart : AtStart classFile x code maxLocals ret World_1 tables_1 room_1 Calls_1 rest_1 Pre_1 launch0 p0 e0 about1 theMethod args0 below0 :=
  ⟨lists_1, trivial, launch0.admits_env _ _ _, launch0.least_env, fairChoices_fair.cas, fairChoices_fair.clock, w_frames, w_args, w_heap, w_applies, trivial, w_rest, w_case⟩
end start1
theorem witness_1 : WitnessClaimed_1 := ⟨start1.p0, start1.e0, start1.about1, start1.theMethod, start1.args0, start1.below0, start1.atStart⟩
end Jvm.Pilot.@@N@@
