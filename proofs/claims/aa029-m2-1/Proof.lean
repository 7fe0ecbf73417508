import JvmDerived
import JvmDerived.Pilot.@@N@@Statement
import JvmDerived.Pilot.@@N@@Code
set_option linter.unusedVariables false
set_option linter.unusedSimpArgs false
namespace Jvm.RoadKit
open Sem ClassFile Op Lib Jvm.Stand Jvm.Free Jvm.LawKit
section New
variable {p : Program} {l : Launch} {e : Env} {R : Room} {s : State} {m : MethodId} {args : Array Value} {below : List Frame} {meth : Method} {c : Code} {T : State} {locs : List Loc} {cells slots : Nat}
theorem retI (X : Stand p l e R s m args below meth c T locs cells slots) (hx : p.tables.exec = Jvm.exec) {pc : Nat} {Ls : Array Slot} {z : Int32} {rest : List Value} (hret : meth.sig.returnType = some .int) (hd : decode c.code pc = .ok (.ireturn, 1)) {fs : List Frame}
    (hl : ∀ (f : JFrame) (acts : List Action), f.method = m → f.locked = none → f.entered = [] → (doReturn e (T.setTop f) acts (some (.int z))).1 = T.setFrames fs) : Steps p.tables e below (T.setTop (mkF m pc Ls (.int z :: rest))) (T.setFrames fs) := by
  have hm' : T.vm.method? m = some meth := X.method'
  have hn : narrow .int (.int z) = .int z := rfl
  show Steps p.tables e below (T.setTop { method := m, pc := pc, locals := Ls, stack := _ :: rest, locked := none }) _
  jvm_step X.here [X.here.top, hx, hd, hm', hret, hn]
  first | (intro acts; rw [hl _ acts rfl rfl rfl]) | rw [hl _ _ rfl rfl rfl]
  exact Steps.refl _
end New
end Jvm.RoadKit
namespace Jvm.Pilot.@@N@@
open Jvm Jvm.ClassFile Sem Op Lib Jvm.Free Jvm.Stand Jvm.LawKit Jvm.RoadKit Bundle Jvm.Pilot.@@N@@.Jvm.D

/-! the walk's goal: from this frame the run comes to its end, and Q holds of what it returns, of the heap and of the places written -/
def Fini (p : Program) (e : Env) (below : List Frame) (s : State) (Q : Option Value → Heap → List Loc → Prop) (C S : Nat) (T : State) (g : JFrame) : Prop :=
  ∃ s₂ o, Steps p.tables e below (T.setTop g) s₂ ∧ s₂.status = .running ∧ Ended s₂ below o ∧ ∃ v L, o = .returned v ∧ Q v s₂.heap L ∧ FrameEnd s o s₂ L C S
abbrev Cmet (l : Launch) (Z : State) (y : MethodName) (bytes : ByteArray) (ml : Nat) (ret : Option FieldType) (ws : List Jvm.Cond) (rm : Room) (as : Array Value) (h0 : Heap) (Q : Option Value → Heap → List Loc → Prop) : Prop :=
  MetFree l y (head1 (Jvm.Cond.code y bytes ml ret :: ws) rm) (fun a U => a = as ∧ Z.Warmed39 U.vm ∧ U.heap = h0) (fun _ _ _ _ _ => True) (fun _ U o U' => ∃ v L, o = .returned v ∧ Q v U'.heap L ∧ FrameEnd U o U' L rm.cells rm.slots)
section Own
variable {p : Program} {l : Launch} {e : Env} {R : Room} {s : State} {m : MethodId} {args : Array Value} {below : List Frame} {meth : Method} {c : Code} {T T' : State} {locs : List Loc} {cells slots : Nat} {Q : Option Value → Heap → List Loc → Prop} {C S : Nat} {g g' : JFrame} {Z : State} {a0 : Array Value} {h : Heap}
theorem Fini.st (k : ∀ t, Steps p.tables e below (T'.setTop g') t → Steps p.tables e below (T.setTop g) t) (f : Fini p e below s Q C S T' g') : Fini p e below s Q C S T g := by
  obtain ⟨s2, o, h1, r⟩ := f
  exact ⟨s2, o, k _ h1, r⟩
theorem Fini.cast (q : g = g') (f : Fini p e below s Q C S T g') : Fini p e below s Q C S T g := q ▸ f
theorem Fini.retI (X : Stand p l e R s m args below meth c T locs cells slots) (hx : p.tables.exec = Jvm.exec) (hl : meth.locks = false) (hret : meth.sig.returnType = some .int) {pc : Nat} {Ls : Array Slot} {z : Int32} {rest : List Value} (hd : decode c.code pc = .ok (.ireturn, 1))
    (hC : cells ≤ C) (hS : slots ≤ S) (hQ : Q (some (.int z)) T.heap locs) : Fini p e below s Q C S T (mkF m pc Ls (.int z :: rest)) := by
  obtain ⟨fs, hr, hrun, hended, hW, hsame⟩ := X.leave (v := some (.int z)) (fun h => by rw [hret] at h; cases h) hl
  exact ⟨_, _, Jvm.RoadKit.retI X hx hret hd hr, hrun, hended, _, _, rfl, hQ, ⟨_, rfl⟩, hW, hsame.mono hC hS⟩
theorem Fini.retN (X : Stand p l e R s m args below meth c T locs cells slots) (hx : p.tables.exec = Jvm.exec) (hl : meth.locks = false) {t : FieldType} (hret : meth.sig.returnType = some t) (ht : t = .boolean ∨ t = .byte ∨ t = .char ∨ t = .short) {pc : Nat} {Ls : Array Slot} {z z' : Int32} {rest : List Value} (hd : decode c.code pc = .ok (.ireturn, 1))
    (hz : nar t z = z') (hC : cells ≤ C) (hS : slots ≤ S) (hQ : Q (some (.int z')) T.heap locs) : Fini p e below s Q C S T (mkF m pc Ls (.int z :: rest)) := by
  subst hz
  obtain ⟨fs, hr, hrun, hended, hW, hsame⟩ := X.leave (v := some (.int (nar t z))) (fun h => by rw [hret] at h; cases h) hl
  exact ⟨_, _, Jvm.RoadKit.retN X hx hret ht hd hr, hrun, hended, _, _, rfl, hQ, ⟨_, rfl⟩, hW, hsame.mono hC hS⟩
theorem Fini.retJ (X : Stand p l e R s m args below meth c T locs cells slots) (hx : p.tables.exec = Jvm.exec) (hl : meth.locks = false) (hret : meth.sig.returnType = some .long) {pc : Nat} {Ls : Array Slot} {z : Int64} {rest : List Value} (hd : decode c.code pc = .ok (.lreturn, 1))
    (hC : cells ≤ C) (hS : slots ≤ S) (hQ : Q (some (.long z)) T.heap locs) : Fini p e below s Q C S T (mkF m pc Ls (.long z :: rest)) := by
  obtain ⟨fs, hr, hrun, hended, hW, hsame⟩ := X.leave (v := some (.long z)) (fun h => by rw [hret] at h; cases h) hl
  exact ⟨_, _, retOut X hx hret rfl (Or.inr (Or.inl ⟨rfl, rfl, z, rfl⟩)) hd hr, hrun, hended, _, _, rfl, hQ, ⟨_, rfl⟩, hW, hsame.mono hC hS⟩
theorem Fini.retA (X : Stand p l e R s m args below meth c T locs cells slots) (hx : p.tables.exec = Jvm.exec) (hl : meth.locks = false) {t : FieldType} (hret : meth.sig.returnType = some t) (ht : t.isReference = true) {pc : Nat} {Ls : Array Slot} {w : Value} {rest : List Value} (hd : decode c.code pc = .ok (.areturn, 1)) (hw : w.isRef = true) (hn : narrow t w = w)
    (hC : cells ≤ C) (hS : slots ≤ S) (hQ : Q (some w) T.heap locs) : Fini p e below s Q C S T (mkF m pc Ls (w :: rest)) := by
  obtain ⟨fs, hr, hrun, hended, hW, hsame⟩ := X.leave (v := some w) (fun h => by rw [hret] at h; cases h) hl
  exact ⟨_, _, retOut X hx hret hn (Or.inr (Or.inr (Or.inr (Or.inr ⟨rfl, ht, hw⟩)))) hd hr, hrun, hended, _, _, rfl, hQ, ⟨_, rfl⟩, hW, hsame.mono hC hS⟩
theorem Fini.ret0 (X : Stand p l e R s m args below meth c T locs cells slots) (hx : p.tables.exec = Jvm.exec) (hl : meth.locks = false) (hret : meth.sig.returnType = none) {pc : Nat} {Ls : Array Slot} (hd : decode c.code pc = .ok (.return_, 1))
    (hC : cells ≤ C) (hS : slots ≤ S) (hQ : Q none T.heap locs) : Fini p e below s Q C S T (mkF m pc Ls []) := by
  obtain ⟨fs, hr, hrun, hended, hW, hsame⟩ := X.leave (v := none) (fun _ => rfl) hl
  exact ⟨_, _, X.returnOut hx hret hd hr, hrun, hended, _, _, rfl, hQ, ⟨_, rfl⟩, hW, hsame.mono hC hS⟩
/-- a static call by its contract -/
theorem callQ (X : Stand p l e R s m args below meth c T locs cells slots) (hx : p.tables.exec = Jvm.exec) (hZ : Z.Warmed39 s.vm) {own : String} {index : Nat} {y : MethodName} {bytes : ByteArray} {maxL : Nat} {ret : Option FieldType} {rm : Room} {as : Array Value}
    (hown : s.vm.findClass own = some m.cls) (w1 : (Cond.methodLink own index y).before a0 Z = true) (w2 : (Cond.static y).before a0 Z = true) (w3 : (Cond.initialized y.cls).before a0 Z = true) (w4 : (Cond.code y bytes maxL ret).before a0 Z = true)
    (hy : y.cls ≠ "java/lang/invoke/MethodHandle" ∧ y.cls ≠ "java/lang/invoke/VarHandle") (M : Cmet l Z y bytes maxL ret [] rm as h Q) (eT : T.heap = h) {W : Nat} (hf : rm.frames + 1 ≤ R.frames) (hl : W + (maxL + 11) + rm.locals ≤ R.locals) (hc : cells + rm.cells ≤ R.cells) (hs : slots + rm.slots ≤ R.slots)
    (hg : g.method = m) (hsize : g.locals.size = c.maxLocals) {argsL rest : List Value} (has : argsL.toArray = as) (hlen : ∀ sig, parseMethodDescriptor y.desc = some sig → argsL.length = sig.parameters.length)
    (hstack : g.stack = argsL.reverse ++ rest) (hW : 2 * g.monitorRoom + (rest.map fun v => v.category).sum ≤ W) (hdg : decode c.code g.pc = .ok (.invokestatic index, 3)) :
    ∃ (v : Option Value) (T' : State) (L : List Loc), Stand p l e R s m args below meth c T' (locs ++ L) (cells + rm.cells) (slots + rm.slots) ∧ Q v T'.heap L ∧
      ∀ target, Steps p.tables e below (T'.setTop { g with pc := g.pc + 3, stack := v.toList ++ rest }) target → Steps p.tables e below (T.setTop g) target := by
  obtain ⟨v, vm1, ⟨T', L', c', n'⟩, -, X', ⟨L, hQ, q1, q2, q3⟩, st⟩ := Jvm.LawKit.callS X hx hown (mvT hZ w1) (mvT hZ w2) (mvT hZ w3) (mvT hZ w4) hy (backOf (W := W) M hZ w4 w3 hf hl) hg hsize hlen hstack hW hdg (fun _ _ => ⟨has, eT, hc, hs⟩)
  dsimp only [Pt.U, Pt.locs, Pt.cells, Pt.slots] at X' q1 q2 q3 st hQ
  subst q1 q2 q3
  exact ⟨v, T', L, X', hQ, st⟩
/-- a static call that leaves the heap as it was -/
theorem pureS (X : Stand p l e R s m args below meth c T locs cells slots) (hx : p.tables.exec = Jvm.exec) (hZ : Z.Warmed39 s.vm) {own : String} {index : Nat} {y : MethodName} {bytes : ByteArray} {maxL : Nat} {ret : Option FieldType} {fr lo : Nat} {as : Array Value} {w : Option Value}
    (hown : s.vm.findClass own = some m.cls) (w1 : (Cond.methodLink own index y).before a0 Z = true) (w2 : (Cond.static y).before a0 Z = true) (w3 : (Cond.initialized y.cls).before a0 Z = true) (w4 : (Cond.code y bytes maxL ret).before a0 Z = true)
    (hy : y.cls ≠ "java/lang/invoke/MethodHandle" ∧ y.cls ≠ "java/lang/invoke/VarHandle") (M : Cmet l Z y bytes maxL ret [] ({ frames := fr, cells := 0, slots := 0, locals := lo } : Room) as h (fun v h' L => v = w ∧ h' = h ∧ L = [])) (eT : T.heap = h) {W : Nat} (hf : fr + 1 ≤ R.frames) (hl : W + (maxL + 11) + lo ≤ R.locals) (hc : cells ≤ R.cells) (hs : slots ≤ R.slots)
    (hg : g.method = m) (hsize : g.locals.size = c.maxLocals) {argsL rest : List Value} (has : argsL.toArray = as) (hlen : ∀ sig, parseMethodDescriptor y.desc = some sig → argsL.length = sig.parameters.length)
    (hstack : g.stack = argsL.reverse ++ rest) (hW : 2 * g.monitorRoom + (rest.map fun v => v.category).sum ≤ W) (hdg : decode c.code g.pc = .ok (.invokestatic index, 3)) :
    ∃ (T' : State), Stand p l e R s m args below meth c T' locs cells slots ∧ T'.heap = h ∧
      ∀ target, Steps p.tables e below (T'.setTop { g with pc := g.pc + 3, stack := w.toList ++ rest }) target → Steps p.tables e below (T.setTop g) target := by
  obtain ⟨v, T', L, X', ⟨rfl, q, rfl⟩, st⟩ := callQ X hx hZ hown w1 w2 w3 w4 hy M eT (W := W) hf hl hc hs hg hsize has hlen hstack hW hdg
  rw [List.append_nil] at X'
  exact ⟨T', X', q, st⟩
/-- an instance method by the contract of the body that the receiver's class selects -/
theorem callV (X : Stand p l e R s m args below meth c T locs cells slots) (hx : p.tables.exec = Jvm.exec) (hZ : Z.Warmed39 s.vm) {own C' : String} {index : Nat} {y z : MethodName} {bytes : ByteArray} {maxL : Nat} {ret : Option FieldType} {rm : Room} {as : Array Value} {b : Addr}
    (hown : s.vm.findClass own = some m.cls) (w1 : (Cond.methodLink own index y).before a0 Z = true) (w2 : (Cond.declares y).before a0 Z = true) (w3 : (Cond.selects C' y z).before a0 Z = true) (w4 : (Cond.instanceMethod z).before a0 Z = true) (w5 : (Cond.initialized z.cls).before a0 Z = true) (w6 : (Cond.code z bytes maxL ret).before a0 Z = true)
    (nf : NotFace s y) (E : Exa Z h b C') (hy : y.cls ≠ "java/lang/invoke/MethodHandle" ∧ y.cls ≠ "java/lang/invoke/VarHandle") (M : Cmet l Z z bytes maxL ret [] rm as h Q) (eT : T.heap = h) {W : Nat} (hf : rm.frames + 1 ≤ R.frames) (hl : W + (maxL + 11) + rm.locals ≤ R.locals) (hc : cells + rm.cells ≤ R.cells) (hs : slots + rm.slots ≤ R.slots)
    (hg : g.method = m) (hsize : g.locals.size = c.maxLocals) {argsL rest : List Value} (has : (Value.ref b :: argsL).toArray = as) (hlen : ∀ sig, parseMethodDescriptor y.desc = some sig → argsL.length = sig.parameters.length)
    (hstack : g.stack = argsL.reverse ++ .ref b :: rest) (hW : 2 * g.monitorRoom + (rest.map fun v => v.category).sum ≤ W) (hdg : decode c.code g.pc = .ok (.invokevirtual index, 3)) :
    ∃ (v : Option Value) (T' : State) (L : List Loc), Stand p l e R s m args below meth c T' (locs ++ L) (cells + rm.cells) (slots + rm.slots) ∧ Q v T'.heap L ∧
      ∀ target, Steps p.tables e below (T'.setTop { g with pc := g.pc + 3, stack := v.toList ++ rest }) target → Steps p.tables e below (T.setTop g) target := by
  obtain ⟨cB, kB, q1, q2, q3⟩ := isOf hZ eT E
  obtain ⟨v, vm1, ⟨T', L', c', n'⟩, -, X', ⟨L, hQ, r1, r2, r3⟩, st⟩ := X.virtualBack hx hown (mvT hZ w1) (mvT hZ w2) nf (mvT hZ w3) (mvT hZ w4) hy (backOf (W := W) M hZ w6 w5 hf hl) q1 q3 hg hsize (Steps.refl _) hlen hstack hW hdg (fun _ _ => ⟨has, eT, hc, hs⟩)
  dsimp only [Pt.U, Pt.locs, Pt.cells, Pt.slots] at X' r1 r2 r3 st hQ
  subst r1 r2 r3
  exact ⟨v, T', L, X', hQ, fun _ k => st.trans k⟩
theorem pureV (X : Stand p l e R s m args below meth c T locs cells slots) (hx : p.tables.exec = Jvm.exec) (hZ : Z.Warmed39 s.vm) {own C' : String} {index : Nat} {y z : MethodName} {bytes : ByteArray} {maxL : Nat} {ret : Option FieldType} {fr lo : Nat} {as : Array Value} {b : Addr} {w : Option Value}
    (hown : s.vm.findClass own = some m.cls) (w1 : (Cond.methodLink own index y).before a0 Z = true) (w2 : (Cond.declares y).before a0 Z = true) (w3 : (Cond.selects C' y z).before a0 Z = true) (w4 : (Cond.instanceMethod z).before a0 Z = true) (w5 : (Cond.initialized z.cls).before a0 Z = true) (w6 : (Cond.code z bytes maxL ret).before a0 Z = true)
    (nf : NotFace s y) (E : Exa Z h b C') (hy : y.cls ≠ "java/lang/invoke/MethodHandle" ∧ y.cls ≠ "java/lang/invoke/VarHandle") (M : Cmet l Z z bytes maxL ret [] ({ frames := fr, cells := 0, slots := 0, locals := lo } : Room) as h (fun v h' L => v = w ∧ h' = h ∧ L = [])) (eT : T.heap = h) {W : Nat} (hf : fr + 1 ≤ R.frames) (hl : W + (maxL + 11) + lo ≤ R.locals) (hc : cells ≤ R.cells) (hs : slots ≤ R.slots)
    (hg : g.method = m) (hsize : g.locals.size = c.maxLocals) {argsL rest : List Value} (has : (Value.ref b :: argsL).toArray = as) (hlen : ∀ sig, parseMethodDescriptor y.desc = some sig → argsL.length = sig.parameters.length)
    (hstack : g.stack = argsL.reverse ++ .ref b :: rest) (hW : 2 * g.monitorRoom + (rest.map fun v => v.category).sum ≤ W) (hdg : decode c.code g.pc = .ok (.invokevirtual index, 3)) :
    ∃ (T' : State), Stand p l e R s m args below meth c T' locs cells slots ∧ T'.heap = h ∧
      ∀ target, Steps p.tables e below (T'.setTop { g with pc := g.pc + 3, stack := w.toList ++ rest }) target → Steps p.tables e below (T.setTop g) target := by
  obtain ⟨v, T', L, X', ⟨rfl, q, rfl⟩, st⟩ := callV X hx hZ hown w1 w2 w3 w4 w5 w6 nf E hy M eT (W := W) hf hl hc hs hg hsize has hlen hstack hW hdg
  rw [List.append_nil] at X'
  exact ⟨T', X', q, st⟩
/-- a constructor by its contract -/
theorem callNew (X : Stand p l e R s m args below meth c T locs cells slots) (hx : p.tables.exec = Jvm.exec) (hZ : Z.Warmed39 s.vm) {own : String} {index : Nat} {y : MethodName} {bytes : ByteArray} {maxL : Nat} {rm : Room} {as : Array Value} {b : Addr}
    (hown : s.vm.findClass own = some m.cls) (hy1 : y.name = "<init>") (w1 : (Cond.methodLink own index y).before a0 Z = true) (w2 : (Cond.instanceMethod y).before a0 Z = true) (w3 : (Cond.initialized y.cls).before a0 Z = true) (w4 : (Cond.code y bytes maxL none).before a0 Z = true)
    (hy : y.cls ≠ "java/lang/invoke/MethodHandle" ∧ y.cls ≠ "java/lang/invoke/VarHandle") (M : Cmet l Z y bytes maxL none [] rm as h Q) (eT : T.heap = h) {W : Nat} (hf : rm.frames + 1 ≤ R.frames) (hl : W + (maxL + 11) + rm.locals ≤ R.locals) (hc : cells + rm.cells ≤ R.cells) (hs : slots + rm.slots ≤ R.slots)
    (hg : g.method = m) (hsize : g.locals.size = c.maxLocals) {argsL rest : List Value} (has : (Value.ref b :: argsL).toArray = as) (hlen : ∀ sig, parseMethodDescriptor y.desc = some sig → argsL.length = sig.parameters.length)
    (hstack : g.stack = argsL.reverse ++ .ref b :: rest) (hW : 2 * g.monitorRoom + (rest.map fun v => v.category).sum ≤ W) (hdg : decode c.code g.pc = .ok (.invokespecial index, 3)) :
    ∃ (v : Option Value) (T' : State) (L : List Loc), Stand p l e R s m args below meth c T' (locs ++ L) (cells + rm.cells) (slots + rm.slots) ∧ Q v T'.heap L ∧
      ∀ target, Steps p.tables e below (T'.setTop { g with pc := g.pc + 3, stack := v.toList ++ rest }) target → Steps p.tables e below (T.setTop g) target := by
  obtain ⟨v, vm1, ⟨T', L', c', n'⟩, -, X', ⟨L, hQ, r1, r2, r3⟩, st⟩ := X.specialBack hx hy1 hown (mvT hZ w1) (mvT hZ w2) (mvT hZ w4) hy (backOf (W := W) M hZ w4 w3 hf hl) hg hsize (Steps.refl _) hlen hstack hW hdg (fun _ _ => ⟨has, eT, hc, hs⟩)
  dsimp only [Pt.U, Pt.locs, Pt.cells, Pt.slots] at X' r1 r2 r3 st hQ
  subst r1 r2 r3
  exact ⟨v, T', L, X', hQ, fun _ k => st.trans k⟩
theorem nb0 : nar .boolean (0 : Int32) = 0 := by decide
theorem nb1 : nar .boolean (1 : Int32) = 1 := by decide
end Own
section Arrays
variable {p : Program} {l : Launch} {e : Env} {R : Room} {s : State} {m : MethodId} {args : Array Value} {below : List Frame} {meth : Method} {c : Code} {T T' : State} {locs : List Loc} {cells slots : Nat} {g : JFrame} {Z : State} {a0 : Array Value} {h h' : Heap} {a b : Addr} {ty : FieldType} {n j x : Int32} {rest : List Value} {ws : List Addr} {sl : Nat} {v : Value} {target : State}
/-- an array of ints (bytes, chars, ..), of longs, of references: its length and what lies at each place -/
def AryI (Z : State) (h : Heap) (a : Addr) (ty : FieldType) (n : Int32) (u : Nat → Int32) : Prop := ∃ cl : Cell, Arr Z h a cl ty ∧ cl.slots.size = n.toNatClampNeg ∧ ¬ n < 0 ∧ ∀ i, i < n.toNatClampNeg → cl.slots[i]? = some (.int (u i))
def AryJ (Z : State) (h : Heap) (a : Addr) (n : Int32) (u : Nat → Int64) : Prop := ∃ cl : Cell, Arr Z h a cl .long ∧ cl.slots.size = n.toNatClampNeg ∧ ¬ n < 0 ∧ ∀ i, i < n.toNatClampNeg → cl.slots[i]? = some (.long (u i))
def AryR (Z : State) (h : Heap) (a : Addr) (C : String) (n : Int32) (u : Nat → Value) : Prop := ∃ cl : Cell, Arr Z h a cl (.object C) ∧ cl.slots.size = n.toNatClampNeg ∧ ¬ n < 0 ∧ Ovr Z cl.cls C ∧ ∀ i, i < n.toNatClampNeg → cl.slots[i]? = some (u i)
def upd {A : Type} (u : Nat → A) (k : Nat) (x : A) : Nat → A := fun i => if i = k then x else u i
theorem upd_eq {A : Type} {u : Nat → A} {k i : Nat} {x : A} (q : i = k) : upd u k x i = x := if_pos q
theorem upd_ne {A : Type} {u : Nat → A} {k i : Nat} {x : A} (q : i ≠ k) : upd u k x i = u i := if_neg q
theorem nat_lt {j n : Int32} (q : ¬ j < 0 ∧ j < n) : j.toNatClampNeg < n.toNatClampNeg := by
  have h1 := nat_of q.1
  have h2 : j.toInt < n.toInt := Int32.lt_iff_toInt_lt.mp q.2
  have h3 : ¬ n < 0 := fun r => by
    have r' : n.toInt < 0 := Int32.lt_iff_toInt_lt.mp r
    omega
  have h4 := nat_of h3
  omega
theorem AryI.lt {u : Nat → Int32} (F : AryI Z h a ty n u) : a < h.size := by obtain ⟨_, A, -⟩ := F; exact A.lt
theorem AryJ.lt {u : Nat → Int64} (F : AryJ Z h a n u) : a < h.size := by obtain ⟨_, A, -⟩ := F; exact A.lt
theorem AryR.lt {C : String} {u : Nat → Value} (F : AryR Z h a C n u) : a < h.size := by obtain ⟨_, A, -⟩ := F; exact A.lt
theorem AryI.ext {u : Nat → Int32} (E : Ext h h') (F : AryI Z h a ty n u) : AryI Z h' a ty n u := by obtain ⟨cl, A, r⟩ := F; exact ⟨cl, A.ext E, r⟩
theorem AryJ.ext {u : Nat → Int64} (E : Ext h h') (F : AryJ Z h a n u) : AryJ Z h' a n u := by obtain ⟨cl, A, r⟩ := F; exact ⟨cl, A.ext E, r⟩
theorem AryR.ext {C : String} {u : Nat → Value} (E : Ext h h') (F : AryR Z h a C n u) : AryR Z h' a C n u := by obtain ⟨cl, A, r⟩ := F; exact ⟨cl, A.ext E, r⟩
theorem AryI.other {u : Nat → Int32} (W : Wr h h' b sl v) (F : AryI Z h a ty n u) (q : a ≠ b) : AryI Z h' a ty n u := by obtain ⟨cl, A, r⟩ := F; exact ⟨cl, A.other W q, r⟩
theorem AryJ.other {u : Nat → Int64} (W : Wr h h' b sl v) (F : AryJ Z h a n u) (q : a ≠ b) : AryJ Z h' a n u := by obtain ⟨cl, A, r⟩ := F; exact ⟨cl, A.other W q, r⟩
theorem AryR.other {C : String} {u : Nat → Value} (W : Wr h h' b sl v) (F : AryR Z h a C n u) (q : a ≠ b) : AryR Z h' a C n u := by obtain ⟨cl, A, r⟩ := F; exact ⟨cl, A.other W q, r⟩
theorem AryI.keep {u : Nat → Int32} (F : AryI Z h a ty n u) (K : Keep h h' ws) (q : a ∉ ws) : AryI Z h' a ty n u := by obtain ⟨cl, A, r⟩ := F; exact ⟨cl, ⟨K.2.1 a cl A.1 q, A.2⟩, r⟩
theorem AryJ.keep {u : Nat → Int64} (F : AryJ Z h a n u) (K : Keep h h' ws) (q : a ∉ ws) : AryJ Z h' a n u := by obtain ⟨cl, A, r⟩ := F; exact ⟨cl, ⟨K.2.1 a cl A.1 q, A.2⟩, r⟩
theorem AryR.keep {C : String} {u : Nat → Value} (F : AryR Z h a C n u) (K : Keep h h' ws) (q : a ∉ ws) : AryR Z h' a C n u := by obtain ⟨cl, A, r⟩ := F; exact ⟨cl, ⟨K.2.1 a cl A.1 q, A.2⟩, r⟩
theorem AryI.cast {u u' : Nat → Int32} (F : AryI Z h a ty n u) (q : ∀ i, i < n.toNatClampNeg → u i = u' i) : AryI Z h a ty n u' := by obtain ⟨cl, A, r1, r2, r3⟩ := F; exact ⟨cl, A, r1, r2, fun i hi => by rw [r3 i hi, q i hi]⟩
theorem AryJ.cast {u u' : Nat → Int64} (F : AryJ Z h a n u) (q : ∀ i, i < n.toNatClampNeg → u i = u' i) : AryJ Z h a n u' := by obtain ⟨cl, A, r1, r2, r3⟩ := F; exact ⟨cl, A, r1, r2, fun i hi => by rw [r3 i hi, q i hi]⟩
theorem AryI.new {cA : ClassId} (A : Arr Z h a (newA cA ty n) ty) (q : ¬ n < 0) (d : defaultValue ty = .int 0) : AryI Z h a ty n (fun _ => 0) := ⟨_, A, sz_new _ _ _, q, fun i hi => by simp [newA, d, hi]⟩
theorem AryJ.new {cA : ClassId} (A : Arr Z h a (newA cA .long n) .long) (q : ¬ n < 0) : AryJ Z h a n (fun _ => 0) := ⟨_, A, sz_new _ _ _, q, fun i hi => by
  have d : defaultValue .long = .long 0 := rfl
  simp [newA, d, hi]⟩
theorem AryR.new {C : String} {cA : ClassId} (A : Arr Z h a (newA cA (.object C) n) (.object C)) (O : Ovr Z cA C) (q : ¬ n < 0) : AryR Z h a C n (fun _ => .null) := ⟨_, A, sz_new _ _ _, q, O, fun i hi => by
  have d : defaultValue (.object C) = .null := rfl
  simp [newA, d, hi]⟩
theorem set_at {cl : Cell} {k i : Nat} {w : Value} (hk : k < cl.slots.size) : (cl.setSlot k w).slots[i]? = if i = k then some w else cl.slots[i]? := by
  by_cases q : i = k
  · subst q; simp [Cell.setSlot, hk]
  · rw [if_neg q]; simp [Cell.setSlot, Array.getElem?_setIfInBounds_ne (Ne.symm q)]
theorem AryI.len {u : Nat → Int32} (F : AryI Z h a ty n u) (X : Stand p l e R s m args below meth c T locs cells slots) (hx : p.tables.exec = Jvm.exec) (hZ : Z.Warmed39 s.vm) (eT : T.heap = h) (hg : g.method = m) (hs : g.stack = .ref a :: rest) (hd : decode c.code g.pc = .ok (.arraylength, 1)) (hr : Steps p.tables e below (T.setTop { g with pc := g.pc + 1, stack := .int n :: rest }) target) : Steps p.tables e below (T.setTop g) target := by
  obtain ⟨cl, A, S, N, H⟩ := F
  refine X.arraylength hx (by rw [eT]; exact A.1) (State.isArrayOf_alike hZ.alike A.2.1) hg hs hd _ ?_
  rw [len_of S N]; exact hr
theorem AryJ.len {u : Nat → Int64} (F : AryJ Z h a n u) (X : Stand p l e R s m args below meth c T locs cells slots) (hx : p.tables.exec = Jvm.exec) (hZ : Z.Warmed39 s.vm) (eT : T.heap = h) (hg : g.method = m) (hs : g.stack = .ref a :: rest) (hd : decode c.code g.pc = .ok (.arraylength, 1)) (hr : Steps p.tables e below (T.setTop { g with pc := g.pc + 1, stack := .int n :: rest }) target) : Steps p.tables e below (T.setTop g) target := by
  obtain ⟨cl, A, S, N, H⟩ := F
  refine X.arraylength hx (by rw [eT]; exact A.1) (State.isArrayOf_alike hZ.alike A.2.1) hg hs hd _ ?_
  rw [len_of S N]; exact hr
theorem AryI.loadI {u : Nat → Int32} (F : AryI Z h a .int n u) (X : Stand p l e R s m args below meth c T locs cells slots) (hx : p.tables.exec = Jvm.exec) (hZ : Z.Warmed39 s.vm) (eT : T.heap = h) (q : ¬ j < 0 ∧ j < n) (hg : g.method = m) (hs : g.stack = .int j :: .ref a :: rest) (hd : decode c.code g.pc = .ok (.iaload, 1)) (hr : Steps p.tables e below (T.setTop { g with pc := g.pc + 1, stack := .int (u j.toNatClampNeg) :: rest }) target) : Steps p.tables e below (T.setTop g) target := by
  obtain ⟨cl, A, S, N, H⟩ := F
  exact X.iaload hx (by rw [eT]; exact A.1) (State.isArrayOf_alike hZ.alike A.2.1) A.2.2 (inb_of S q) (H _ (nat_lt q)) hg hs hd _ hr
theorem AryI.loadB {u : Nat → Int32} (F : AryI Z h a .byte n u) (X : Stand p l e R s m args below meth c T locs cells slots) (hx : p.tables.exec = Jvm.exec) (hZ : Z.Warmed39 s.vm) (eT : T.heap = h) (q : ¬ j < 0 ∧ j < n) (hg : g.method = m) (hs : g.stack = .int j :: .ref a :: rest) (hd : decode c.code g.pc = .ok (.baload, 1)) (hr : Steps p.tables e below (T.setTop { g with pc := g.pc + 1, stack := .int (u j.toNatClampNeg) :: rest }) target) : Steps p.tables e below (T.setTop g) target := by
  obtain ⟨cl, A, S, N, H⟩ := F
  exact X.baloadBytes hx (by rw [eT]; exact A.1) (State.isArrayOf_alike hZ.alike A.2.1) A.2.2 (inb_of S q) (H _ (nat_lt q)) hg hs hd _ hr
theorem AryI.loadZ {u : Nat → Int32} (F : AryI Z h a .boolean n u) (X : Stand p l e R s m args below meth c T locs cells slots) (hx : p.tables.exec = Jvm.exec) (hZ : Z.Warmed39 s.vm) (eT : T.heap = h) (q : ¬ j < 0 ∧ j < n) (hg : g.method = m) (hs : g.stack = .int j :: .ref a :: rest) (hd : decode c.code g.pc = .ok (.baload, 1)) (hr : Steps p.tables e below (T.setTop { g with pc := g.pc + 1, stack := .int (u j.toNatClampNeg) :: rest }) target) : Steps p.tables e below (T.setTop g) target := by
  obtain ⟨cl, A, S, N, H⟩ := F
  exact X.baloadBooleans hx (by rw [eT]; exact A.1) (State.isArrayOf_alike hZ.alike A.2.1) A.2.2 (inb_of S q) (H _ (nat_lt q)) hg hs hd _ hr
theorem AryJ.load {u : Nat → Int64} (F : AryJ Z h a n u) (X : Stand p l e R s m args below meth c T locs cells slots) (hx : p.tables.exec = Jvm.exec) (hZ : Z.Warmed39 s.vm) (eT : T.heap = h) (q : ¬ j < 0 ∧ j < n) (hg : g.method = m) (hs : g.stack = .int j :: .ref a :: rest) (hd : decode c.code g.pc = .ok (.laload, 1)) (hr : Steps p.tables e below (T.setTop { g with pc := g.pc + 1, stack := .long (u j.toNatClampNeg) :: rest }) target) : Steps p.tables e below (T.setTop g) target := by
  obtain ⟨cl, A, S, N, H⟩ := F
  exact X.laload hx (by rw [eT]; exact A.1) (State.isArrayOf_alike hZ.alike A.2.1) A.2.2 (inb_of S q) (H _ (nat_lt q)) hg hs hd _ hr
theorem AryR.load {C : String} {u : Nat → Value} (F : AryR Z h a C n u) (X : Stand p l e R s m args below meth c T locs cells slots) (hx : p.tables.exec = Jvm.exec) (hZ : Z.Warmed39 s.vm) (eT : T.heap = h) (q : ¬ j < 0 ∧ j < n) (hg : g.method = m) (hs : g.stack = .int j :: .ref a :: rest) (hd : decode c.code g.pc = .ok (.aaload, 1)) (hr : Steps p.tables e below (T.setTop { g with pc := g.pc + 1, stack := u j.toNatClampNeg :: rest }) target) : Steps p.tables e below (T.setTop g) target := by
  obtain ⟨cl, A, S, N, O, H⟩ := F
  exact X.aaload hx (by rw [eT]; exact A.1) (State.isArrayOf_alike hZ.alike A.2.1) rfl A.2.2 (inb_of S q) (H _ (nat_lt q)) hg hs hd _ hr
theorem AryI.put {u : Nat → Int32} {cl : Cell} (A : Arr Z h a cl ty) (S : cl.slots.size = n.toNatClampNeg) (N : ¬ n < 0) (H : ∀ i, i < n.toNatClampNeg → cl.slots[i]? = some (.int (u i))) (q : ¬ j < 0 ∧ j < n) (W : Wr h h' a j.toNatClampNeg (.int x)) : AryI Z h' a ty n (upd u j.toNatClampNeg x) := by
  refine ⟨_, A.same W, by rw [sz_set]; exact S, N, fun i hi => ?_⟩
  rw [set_at (by rw [S]; exact nat_lt q)]
  by_cases r : i = j.toNatClampNeg
  · rw [if_pos r, upd_eq r]
  · rw [if_neg r, upd_ne r]; exact H i hi
theorem AryI.stI {u : Nat → Int32} (F : AryI Z h a .int n u) (X : Stand p l e R s m args below meth c T locs cells slots) (hx : p.tables.exec = Jvm.exec) (hZ : Z.Warmed39 s.vm) (eT : T.heap = h) (q : ¬ j < 0 ∧ j < n) (hg : g.method = m) (hs : g.stack = .int x :: .int j :: .ref a :: rest) (hd : decode c.code g.pc = .ok (.iastore, 1)) :
    ∃ T' h', Stand p l e R s m args below meth c T' (locs ++ [⟨a, j.toNatClampNeg⟩]) cells slots ∧ T'.heap = h' ∧ Wr h h' a j.toNatClampNeg (.int x) ∧ AryI Z h' a .int n (upd u j.toNatClampNeg x) ∧ ∀ target, Steps p.tables e below (T'.setTop { g with pc := g.pc + 1, stack := rest }) target → Steps p.tables e below (T.setTop g) target := by
  obtain ⟨cl, A, S, N, H⟩ := F
  obtain ⟨T', h', X', e', W, st⟩ := Jvm.RoadKit.stI X hx hZ eT A (inb_of S q) hg hs hd
  exact ⟨T', h', X', e', W, AryI.put A S N H q W, st⟩
theorem AryI.stB {u : Nat → Int32} (F : AryI Z h a .byte n u) (X : Stand p l e R s m args below meth c T locs cells slots) (hx : p.tables.exec = Jvm.exec) (hZ : Z.Warmed39 s.vm) (eT : T.heap = h) (q : ¬ j < 0 ∧ j < n) (hg : g.method = m) (hs : g.stack = .int x :: .int j :: .ref a :: rest) (hd : decode c.code g.pc = .ok (.bastore, 1)) :
    ∃ T' h', Stand p l e R s m args below meth c T' (locs ++ [⟨a, j.toNatClampNeg⟩]) cells slots ∧ T'.heap = h' ∧ Wr h h' a j.toNatClampNeg (.int (nar .byte x)) ∧ AryI Z h' a .byte n (upd u j.toNatClampNeg (nar .byte x)) ∧ ∀ target, Steps p.tables e below (T'.setTop { g with pc := g.pc + 1, stack := rest }) target → Steps p.tables e below (T.setTop g) target := by
  obtain ⟨cl, A, S, N, H⟩ := F
  obtain ⟨T', h', X', e', W, st⟩ := Jvm.RoadKit.stB X hx hZ eT A (inb_of S q) hg hs hd
  exact ⟨T', h', X', e', W, AryI.put A S N H q W, st⟩
theorem AryJ.st {u : Nat → Int64} {y : Int64} (F : AryJ Z h a n u) (X : Stand p l e R s m args below meth c T locs cells slots) (hx : p.tables.exec = Jvm.exec) (hZ : Z.Warmed39 s.vm) (eT : T.heap = h) (q : ¬ j < 0 ∧ j < n) (hg : g.method = m) (hs : g.stack = .long y :: .int j :: .ref a :: rest) (hd : decode c.code g.pc = .ok (.lastore, 1)) :
    ∃ T' h', Stand p l e R s m args below meth c T' (locs ++ [⟨a, j.toNatClampNeg⟩]) cells slots ∧ T'.heap = h' ∧ Wr h h' a j.toNatClampNeg (.long y) ∧ AryJ Z h' a n (upd u j.toNatClampNeg y) ∧ ∀ target, Steps p.tables e below (T'.setTop { g with pc := g.pc + 1, stack := rest }) target → Steps p.tables e below (T.setTop g) target := by
  obtain ⟨cl, A, S, N, H⟩ := F
  obtain ⟨T', h', X', e', W, st⟩ := Jvm.RoadKit.stJ X hx hZ eT A (inb_of S q) hg hs hd
  refine ⟨T', h', X', e', W, ⟨_, A.same W, by rw [sz_set]; exact S, N, fun i hi => ?_⟩, st⟩
  rw [set_at (by rw [S]; exact nat_lt q)]
  by_cases r : i = j.toNatClampNeg
  · rw [if_pos r, upd_eq r]
  · rw [if_neg r, upd_ne r]; exact H i hi
theorem AryR.st {C : String} {u : Nat → Value} (F : AryR Z h a C n u) (X : Stand p l e R s m args below meth c T locs cells slots) (hx : p.tables.exec = Jvm.exec) (hZ : Z.Warmed39 s.vm) (eT : T.heap = h) (q : ¬ j < 0 ∧ j < n) (hI : v = .null ∨ ∃ y, v = .ref y ∧ Ins Z h y C true) (hg : g.method = m) (hs : g.stack = v :: .int j :: .ref a :: rest) (hd : decode c.code g.pc = .ok (.aastore, 1)) :
    ∃ T' h', Stand p l e R s m args below meth c T' (locs ++ [⟨a, j.toNatClampNeg⟩]) cells slots ∧ T'.heap = h' ∧ Wr h h' a j.toNatClampNeg v ∧ AryR Z h' a C n (upd u j.toNatClampNeg v) ∧ ∀ target, Steps p.tables e below (T'.setTop { g with pc := g.pc + 1, stack := rest }) target → Steps p.tables e below (T.setTop g) target := by
  obtain ⟨cl, A, S, N, O, H⟩ := F
  have hS : Sto Z h a v := by
    rcases hI with r | ⟨y, rfl, r⟩
    · exact Or.inl r
    · exact Sto.of A O r
  obtain ⟨T', h', X', e', W, st⟩ := Jvm.RoadKit.stR X hx hZ eT A (inb_of S q) rfl hS hg hs hd
  refine ⟨T', h', X', e', W, ⟨_, A.same W, by rw [sz_set]; exact S, N, O, fun i hi => ?_⟩, st⟩
  rw [set_at (by rw [S]; exact nat_lt q)]
  by_cases r : i = j.toNatClampNeg
  · rw [if_pos r, upd_eq r]
  · rw [if_neg r, upd_ne r]; exact H i hi
end Arrays
theorem d1_0 : decode prog_49_method_1_code 0 = .ok (.aload_n 0, 1) := by decide +kernel
theorem d1_1 : decode prog_49_method_1_code 1 = .ok (.invokespecial 1, 3) := by decide +kernel
theorem d1_4 : decode prog_49_method_1_code 4 = .ok (.aload_n 0, 1) := by decide +kernel
theorem d1_5 : decode prog_49_method_1_code 5 = .ok (.sipush 4096, 3) := by decide +kernel
theorem d1_8 : decode prog_49_method_1_code 8 = .ok (.anewarray 2, 3) := by decide +kernel
theorem d1_11 : decode prog_49_method_1_code 11 = .ok (.putfield 9, 3) := by decide +kernel
theorem d1_14 : decode prog_49_method_1_code 14 = .ok (.return_, 1) := by decide +kernel
theorem pn_0 : plainName "com/example/mapcodex/mapcodex/pbf/ObjectBatch" = true := by first | (simp [plainName, overriddenIn]; done) | decide +kernel
theorem ef1 (m : MethodId) (x0 : Addr) : entryFrame m #[(.ref x0)] 1 = mkF m 0 #[.val (.ref x0)] [] := by first | (simp [entryFrame, mkF, argsToLocals, Value.category]; done) | rfl
set_option maxRecDepth 65536 in
set_option maxHeartbeats 40000000 in
theorem rm1 (l : Launch) (Z : State) (a0 : Array Value) (hw : ∀ d ∈ tables_1, d.before a0 Z = true) (ws : List Jvm.Cond) (o0 : Addr) (n : Int32) (q : Int64) (h0 : Heap) (n0 : Nat) (Z0 : n0 ≤ h0.size) (E_o0 : Exa Z h0 o0 "com/example/mapcodex/mapcodex/pbf/ObjectBatch") (F_objects : Fld Z h0 o0 "com/example/mapcodex/mapcodex/pbf/ObjectBatch" "objects" "[Ljava/lang/Object;" .null) (F_size : Fld Z h0 o0 "com/example/mapcodex/mapcodex/pbf/ObjectBatch" "size" "I" (.int n)) (F_values : Fld Z h0 o0 "com/example/mapcodex/mapcodex/pbf/ObjectBatch" "values" "J" (.long q)) (g0 : n0 ≤ o0) :
    Cmet l Z (⟨"com/example/mapcodex/mapcodex/pbf/ObjectBatch", "<init>", "()V"⟩ : MethodName) prog_49_method_1_code 1 none ws ({ frames := 1, cells := 1, slots := 4096, locals := 12 } : Room) #[(.ref o0)] h0 (fun v h' L => v = none ∧ Fr n0 L ∧ Keep h0 h' [o0] ∧ ∃ b, h0.size ≤ b ∧ n0 ≤ b ∧ Fld Z h' o0 "com/example/mapcodex/mapcodex/pbf/ObjectBatch" "objects" "[Ljava/lang/Object;" (.ref b) ∧ AryR Z h' b "java/lang/Object" (4096 : Int32) (fun _ => .null) ∧ Fld Z h' o0 "com/example/mapcodex/mapcodex/pbf/ObjectBatch" "size" "I" (.int n) ∧ Fld Z h' o0 "com/example/mapcodex/mapcodex/pbf/ObjectBatch" "values" "J" (.long q)) := by
  refine MetFree.of_bodySF (plainFor_of_name pn_0) hisR ?_
  intro p e s m args below meth c s₁ Bd hml0 hP hK
  obtain ⟨rfl, hZ, hh⟩ := hP
  have hx := Bd.exec
  have hlk : meth.locks = false := BodyLoose.notSynchronized Bd
  have hby := Bd.bytes
  have hml : c.maxLocals = 1 := hml0
  have hown : s.vm.findClass "com/example/mapcodex/mapcodex/pbf/ObjectBatch" = some m.cls := findClass_of_methodNamed Bd.named
  have hnm := (name_of_methodNamed Bd.named Bd.method).1
  have X0 : Stand p l e ({ frames := 1, cells := 1, slots := 4096, locals := 12 } : Room) s m #[(.ref o0)] below meth c s₁ [] 0 0 := Stand.of_body Bd
  have e0 : s₁.heap = h0 := by rw [← hh, Bd.state]; rfl
  have N0 := Fr.nil n0
  show Fini p e below s (fun v h' L => v = none ∧ Fr n0 L ∧ Keep h0 h' [o0] ∧ ∃ b, h0.size ≤ b ∧ n0 ≤ b ∧ Fld Z h' o0 "com/example/mapcodex/mapcodex/pbf/ObjectBatch" "objects" "[Ljava/lang/Object;" (.ref b) ∧ AryR Z h' b "java/lang/Object" (4096 : Int32) (fun _ => .null) ∧ Fld Z h' o0 "com/example/mapcodex/mapcodex/pbf/ObjectBatch" "size" "I" (.int n) ∧ Fld Z h' o0 "com/example/mapcodex/mapcodex/pbf/ObjectBatch" "values" "J" (.long q)) _ _ s₁ (entryFrame m #[(.ref o0)] 1)
  refine Fini.cast (ef1 m o0) ?_
  show Fini p e below s _ _ _ s₁ (mkF m 0 #[.val (.ref o0)] [])
  refine Fini.st (fun _ k => XS.aloadN X0.here hx rfl (hb hby d1_0) rfl rfl k) ?_
  show Fini p e below s _ _ _ s₁ (mkF m 1 #[.val (.ref o0)] [(.ref o0)])
  obtain ⟨T1, X1, e1, st1⟩ := initO X0 hx hZ hown (hw _ (List.mem_of_getElem? (i := 6) rfl)) (hw _ (List.mem_of_getElem? (i := 7) rfl)) (hw _ (List.mem_of_getElem? (i := 8) rfl)) e0 (g := (mkF m 1 #[.val (.ref o0)] [(.ref o0)])) rfl (by rw [hml]; rfl) rfl (hb hby d1_1) (by decide) (W := 0) (by show 2 * 0 + _ ≤ _; exact Nat.le_of_eq rfl) (by decide)
  refine Fini.st st1 ?_
  show Fini p e below s _ _ _ T1 (mkF m 4 #[.val (.ref o0)] [])
  refine Fini.st (fun _ k => XS.aloadN X1.here hx rfl (hb hby d1_4) rfl rfl k) ?_
  show Fini p e below s _ _ _ T1 (mkF m 5 #[.val (.ref o0)] [(.ref o0)])
  refine Fini.st (fun _ k => XS.sipush X1.here hx rfl (hb hby d1_5) k) ?_
  show Fini p e below s _ _ _ T1 (mkF m 8 #[.val (.ref o0)] [(.int (4096 : Int32)), (.ref o0)])
  obtain ⟨T2, h2, k2, X2, e2, E2, A2, O2, st2⟩ := newR X1 hx hZ hown (hw _ (List.mem_of_getElem? (i := 9) rfl)) (hw _ (List.mem_of_getElem? (i := 10) rfl)) e1 (g := (mkF m 8 #[.val (.ref o0)] [(.int (4096 : Int32)), (.ref o0)])) rfl (hb hby d1_8) rfl (by decide) (cap := 4096) (by decide) (by decide) (by decide) (by decide)
  obtain ⟨b2, g2⟩ : ∃ z, z = h0.size := ⟨_, rfl⟩
  rw [← g2] at A2 st2
  have ne_o0_b2 : o0 ≠ b2 := Nat.ne_of_lt (Nat.lt_of_lt_of_le E_o0.lt (Nat.le_of_eq g2.symm))
  have ge_b2 : n0 ≤ b2 := Nat.le_trans Z0 (Nat.le_of_eq g2.symm)
  have sz_b2 : h0.size ≤ b2 := Nat.le_trans (Keep.refl h0 [o0]).1 (Nat.le_of_eq g2.symm)
  have Ar2 : AryR Z h2 b2 "java/lang/Object" (4096 : Int32) (fun _ => .null) := AryR.new A2 O2 (by decide)
  refine Fini.st st2 ?_
  show Fini p e below s _ _ _ T2 (mkF m 11 #[.val (.ref o0)] [(.ref b2), (.ref o0)])
  have F_4 : Fld Z h2 o0 "com/example/mapcodex/mapcodex/pbf/ObjectBatch" "objects" "[Ljava/lang/Object;" .null := (F_objects.ext E2)
  have Ex_5 : Exa Z h2 o0 "com/example/mapcodex/mapcodex/pbf/ObjectBatch" := (E_o0.ext E2)
  obtain ⟨T3, h3, X3, e3, W3, st3⟩ := putF X2 hx hZ hown (host := "") (Or.inl (hw _ (List.mem_of_getElem? (i := 11) rfl))) Via.refl e2 F_4 Ex_5 (Or.inr ⟨(hw _ (List.mem_of_getElem? (i := 12) rfl)), rfl, hnm⟩) (hw _ (List.mem_of_getElem? (i := 1) rfl)) (ty := (.array (.object "java/lang/Object"))) (by decide) rfl rfl (g := (mkF m 11 #[.val (.ref o0)] [(.ref b2), (.ref o0)])) rfl rfl (hb hby d1_11)
  have Fw3 : Fld Z h3 o0 "com/example/mapcodex/mapcodex/pbf/ObjectBatch" "objects" "[Ljava/lang/Object;" (.ref b2) := F_4.same W3
  refine Fini.st st3 ?_
  have N3 := Fr.snoc X3 N0 g0
  show Fini p e below s _ _ _ T3 (mkF m 14 #[.val (.ref o0)] [])
  have Kp_6 : Keep h0 h3 [o0] := (Keep.wr (Keep.ext (Keep.refl h0 [o0]) E2) W3 (Or.inl (List.mem_of_getElem? (i := 0) rfl)))
  have Ar_7 : AryR Z h3 b2 "java/lang/Object" (4096 : Int32) (fun _ => .null) := (Ar2.other W3 (Ne.symm ne_o0_b2))
  have F_8 : Fld Z h3 o0 "com/example/mapcodex/mapcodex/pbf/ObjectBatch" "size" "I" (.int n) := ((F_size.ext E2).other W3 (Or.inr (slot_ne (Or.inl (hw _ (List.mem_of_getElem? (i := 19) rfl))) (Or.inr (hw _ (List.mem_of_getElem? (i := 12) rfl))) (by decide) (t := .int) (t' := (.array (.object "java/lang/Object"))) (by decide) (by decide))))
  have F_9 : Fld Z h3 o0 "com/example/mapcodex/mapcodex/pbf/ObjectBatch" "values" "J" (.long q) := ((F_values.ext E2).other W3 (Or.inr (slot_ne (Or.inl (hw _ (List.mem_of_getElem? (i := 21) rfl))) (Or.inr (hw _ (List.mem_of_getElem? (i := 12) rfl))) (by decide) (t := .long) (t' := (.array (.object "java/lang/Object"))) (by decide) (by decide))))
  exact Fini.ret0 X3 hx hlk Bd.returns (hb hby d1_14) (by decide) (by decide) ⟨rfl, N3, (by rw [e3]; exact Kp_6), _, sz_b2, ge_b2, (by rw [e3]; exact Fw3), (by rw [e3]; exact Ar_7), (by rw [e3]; exact F_8), (by rw [e3]; exact F_9)⟩
theorem d3_0 : decode prog_49_method_2_code 0 = .ok (.aload_n 0, 1) := by decide +kernel
theorem d3_1 : decode prog_49_method_2_code 1 = .ok (.getfield 13, 3) := by decide +kernel
theorem d3_4 : decode prog_49_method_2_code 4 = .ok (.sipush 4096, 3) := by decide +kernel
theorem d3_7 : decode prog_49_method_2_code 7 = .ok (.if_icmp .eq 14, 3) := by decide +kernel
theorem d3_10 : decode prog_49_method_2_code 10 = .ok (.aload_n 0, 1) := by decide +kernel
theorem d3_11 : decode prog_49_method_2_code 11 = .ok (.getfield 17, 3) := by decide +kernel
theorem d3_14 : decode prog_49_method_2_code 14 = .ok (.ldc2_w 21, 3) := by decide +kernel
theorem d3_17 : decode prog_49_method_2_code 17 = .ok (.lcmp, 1) := by decide +kernel
theorem d3_18 : decode prog_49_method_2_code 18 = .ok (.ifCond .lt 7, 3) := by decide +kernel
theorem d3_21 : decode prog_49_method_2_code 21 = .ok (.iconst 1, 1) := by decide +kernel
theorem d3_22 : decode prog_49_method_2_code 22 = .ok (.goto 4, 3) := by decide +kernel
theorem d3_25 : decode prog_49_method_2_code 25 = .ok (.iconst 0, 1) := by decide +kernel
theorem d3_26 : decode prog_49_method_2_code 26 = .ok (.ireturn, 1) := by decide +kernel
theorem ef3 (m : MethodId) (x0 : Addr) : entryFrame m #[(.ref x0)] 1 = mkF m 0 #[.val (.ref x0)] [] := by first | (simp [entryFrame, mkF, argsToLocals, Value.category]; done) | rfl
def f3 (n : Int32) (q : Int64) : Int32 := (if n = (4096 : Int32) then (1 : Int32) else (if q < (16384 : Int64) then (0 : Int32) else (1 : Int32)))
set_option maxRecDepth 65536 in
set_option maxHeartbeats 40000000 in
theorem rm3 (l : Launch) (Z : State) (a0 : Array Value) (hw : ∀ d ∈ tables_1, d.before a0 Z = true) (ws : List Jvm.Cond) (o0 : Addr) (n : Int32) (q : Int64) (h0 : Heap) (F_size : Fld Z h0 o0 "com/example/mapcodex/mapcodex/pbf/ObjectBatch" "size" "I" (.int n)) (F_values : Fld Z h0 o0 "com/example/mapcodex/mapcodex/pbf/ObjectBatch" "values" "J" (.long q)) :
    Cmet l Z (⟨"com/example/mapcodex/mapcodex/pbf/ObjectBatch", "isFull", "()Z"⟩ : MethodName) prog_49_method_2_code 1 (some .boolean) ws ({ frames := 0, cells := 0, slots := 0, locals := 0 } : Room) #[(.ref o0)] h0 (fun v h' L => v = some (.int (f3 n q)) ∧ h' = h0 ∧ L = []) := by
  refine MetFree.of_bodySF (plainFor_of_name pn_0) hisR ?_
  intro p e s m args below meth c s₁ Bd hml0 hP hK
  obtain ⟨rfl, hZ, hh⟩ := hP
  have hx := Bd.exec
  have hlk : meth.locks = false := BodyLoose.notSynchronized Bd
  have hby := Bd.bytes
  have hml : c.maxLocals = 1 := hml0
  have hown : s.vm.findClass "com/example/mapcodex/mapcodex/pbf/ObjectBatch" = some m.cls := findClass_of_methodNamed Bd.named
  have hnm := (name_of_methodNamed Bd.named Bd.method).1
  have X0 : Stand p l e ({ frames := 0, cells := 0, slots := 0, locals := 0 } : Room) s m #[(.ref o0)] below meth c s₁ [] 0 0 := Stand.of_body Bd
  have e0 : s₁.heap = h0 := by rw [← hh, Bd.state]; rfl
  have hv0 : f3 n q = f3 n q := rfl
  show Fini p e below s (fun v h' L => v = some (.int (f3 n q)) ∧ h' = h0 ∧ L = []) _ _ s₁ (entryFrame m #[(.ref o0)] 1)
  refine Fini.cast (ef3 m o0) ?_
  show Fini p e below s _ _ _ s₁ (mkF m 0 #[.val (.ref o0)] [])
  refine Fini.st (fun _ k => XS.aloadN X0.here hx rfl (hb hby d3_0) rfl rfl k) ?_
  show Fini p e below s _ _ _ s₁ (mkF m 1 #[.val (.ref o0)] [(.ref o0)])
  obtain ⟨T1, X1, e1, st1⟩ := getF X0 hx hZ hown (host := "") (Or.inl (hw _ (List.mem_of_getElem? (i := 18) rfl))) Via.refl e0 F_size (g := (mkF m 1 #[.val (.ref o0)] [(.ref o0)])) rfl rfl (hb hby d3_1)
  refine Fini.st st1 ?_
  show Fini p e below s _ _ _ T1 (mkF m 4 #[.val (.ref o0)] [(.int n)])
  refine Fini.st (fun _ k => XS.sipush X1.here hx rfl (hb hby d3_4) k) ?_
  show Fini p e below s _ _ _ T1 (mkF m 7 #[.val (.ref o0)] [(.int (4096 : Int32)), (.int n)])
  by_cases c2 : n = (4096 : Int32)
  · have hv3 := hv0.trans (if_pos c2)
    refine Fini.st (fun _ k => XS.icmpYes X1.here hx rfl (pc0 := 7) (pc' := 21) rfl (hb hby d3_7) rfl (XT.ii_eq_t c2) (by decide) (by decide) k) ?_
    show Fini p e below s _ _ _ T1 (mkF m 21 #[.val (.ref o0)] [])
    refine Fini.st (fun _ k => XS.iconst X1.here hx rfl (hb hby d3_21) k) ?_
    show Fini p e below s _ _ _ T1 (mkF m 22 #[.val (.ref o0)] [(.int (1 : Int32))])
    refine Fini.st (fun _ k => XS.goto X1.here hx rfl (pc0 := 22) (pc' := 26) rfl (hb hby d3_22) (by decide) (by decide) k) ?_
    show Fini p e below s _ _ _ T1 (mkF m 26 #[.val (.ref o0)] [(.int (1 : Int32))])
    exact Fini.retN X1 hx hlk (t := .boolean) Bd.returns (by simp) (hb hby d3_26) nb1 (by decide) (by decide) ⟨congrArg (fun z => some (Value.int z)) hv3.symm, e1, rfl⟩
  · have hv4 := hv0.trans (if_neg c2)
    refine Fini.st (fun _ k => XS.icmpNo X1.here hx rfl (hb hby d3_7) rfl (XT.ii_eq_f c2) k) ?_
    show Fini p e below s _ _ _ T1 (mkF m 10 #[.val (.ref o0)] [])
    refine Fini.st (fun _ k => XS.aloadN X1.here hx rfl (hb hby d3_10) rfl rfl k) ?_
    show Fini p e below s _ _ _ T1 (mkF m 11 #[.val (.ref o0)] [(.ref o0)])
    obtain ⟨T5, X5, e5, st5⟩ := getF X1 hx hZ hown (host := "") (Or.inl (hw _ (List.mem_of_getElem? (i := 20) rfl))) Via.refl e1 F_values (g := (mkF m 11 #[.val (.ref o0)] [(.ref o0)])) rfl rfl (hb hby d3_11)
    refine Fini.st st5 ?_
    show Fini p e below s _ _ _ T5 (mkF m 14 #[.val (.ref o0)] [(.long q)])
    refine Fini.st (fun _ k => X5.ldc2J hx hown (mvT hZ (hw _ (List.mem_of_getElem? (i := 22) rfl))) rfl (hb hby d3_14) k) ?_
    show Fini p e below s _ _ _ T5 (mkF m 17 #[.val (.ref o0)] [(.long (16384 : Int64)), (.long q)])
    refine Fini.st (fun _ k => XT.lcmp X5.here hx rfl (hb hby d3_17) rfl k) ?_
    show Fini p e below s _ _ _ T5 (mkF m 18 #[.val (.ref o0)] [(.int (XT.cmpL q (16384 : Int64)))])
    by_cases c6 : q < (16384 : Int64)
    · have hv7 := hv4.trans (if_pos c6)
      refine Fini.st (fun _ k => XS.ifYes X5.here hx rfl (pc0 := 18) (pc' := 25) rfl (hb hby d3_18) rfl (XT.ll_lt_t c6) (by decide) (by decide) k) ?_
      show Fini p e below s _ _ _ T5 (mkF m 25 #[.val (.ref o0)] [])
      refine Fini.st (fun _ k => XS.iconst X5.here hx rfl (hb hby d3_25) k) ?_
      show Fini p e below s _ _ _ T5 (mkF m 26 #[.val (.ref o0)] [(.int (0 : Int32))])
      exact Fini.retN X5 hx hlk (t := .boolean) Bd.returns (by simp) (hb hby d3_26) nb0 (by decide) (by decide) ⟨congrArg (fun z => some (Value.int z)) hv7.symm, e5, rfl⟩
    · have hv8 := hv4.trans (if_neg c6)
      refine Fini.st (fun _ k => XS.ifNo X5.here hx rfl (hb hby d3_18) rfl (XT.ll_lt_f c6) k) ?_
      show Fini p e below s _ _ _ T5 (mkF m 21 #[.val (.ref o0)] [])
      refine Fini.st (fun _ k => XS.iconst X5.here hx rfl (hb hby d3_21) k) ?_
      show Fini p e below s _ _ _ T5 (mkF m 22 #[.val (.ref o0)] [(.int (1 : Int32))])
      refine Fini.st (fun _ k => XS.goto X5.here hx rfl (pc0 := 22) (pc' := 26) rfl (hb hby d3_22) (by decide) (by decide) k) ?_
      show Fini p e below s _ _ _ T5 (mkF m 26 #[.val (.ref o0)] [(.int (1 : Int32))])
      exact Fini.retN X5 hx hlk (t := .boolean) Bd.returns (by simp) (hb hby d3_26) nb1 (by decide) (by decide) ⟨congrArg (fun z => some (Value.int z)) hv8.symm, e5, rfl⟩
theorem d4_0 : decode prog_49_method_3_code 0 = .ok (.aload_n 0, 1) := by decide +kernel
theorem d4_1 : decode prog_49_method_3_code 1 = .ok (.getfield 9, 3) := by decide +kernel
theorem d4_4 : decode prog_49_method_3_code 4 = .ok (.aload_n 0, 1) := by decide +kernel
theorem d4_5 : decode prog_49_method_3_code 5 = .ok (.dup, 1) := by decide +kernel
theorem d4_6 : decode prog_49_method_3_code 6 = .ok (.getfield 13, 3) := by decide +kernel
theorem d4_9 : decode prog_49_method_3_code 9 = .ok (.dup_x1, 1) := by decide +kernel
theorem d4_10 : decode prog_49_method_3_code 10 = .ok (.iconst 1, 1) := by decide +kernel
theorem d4_11 : decode prog_49_method_3_code 11 = .ok (.iadd, 1) := by decide +kernel
theorem d4_12 : decode prog_49_method_3_code 12 = .ok (.putfield 13, 3) := by decide +kernel
theorem d4_15 : decode prog_49_method_3_code 15 = .ok (.aload_n 1, 1) := by decide +kernel
theorem d4_16 : decode prog_49_method_3_code 16 = .ok (.aastore, 1) := by decide +kernel
theorem d4_17 : decode prog_49_method_3_code 17 = .ok (.aload_n 0, 1) := by decide +kernel
theorem d4_18 : decode prog_49_method_3_code 18 = .ok (.dup, 1) := by decide +kernel
theorem d4_19 : decode prog_49_method_3_code 19 = .ok (.getfield 17, 3) := by decide +kernel
theorem d4_22 : decode prog_49_method_3_code 22 = .ok (.iload_n 2, 1) := by decide +kernel
theorem d4_23 : decode prog_49_method_3_code 23 = .ok (.i2l, 1) := by decide +kernel
theorem d4_24 : decode prog_49_method_3_code 24 = .ok (.ladd, 1) := by decide +kernel
theorem d4_25 : decode prog_49_method_3_code 25 = .ok (.putfield 17, 3) := by decide +kernel
theorem d4_28 : decode prog_49_method_3_code 28 = .ok (.return_, 1) := by decide +kernel
theorem ef4 (m : MethodId) (x0 : Addr) (x2 : Int32) : entryFrame m #[(.ref x0), .null, (.int x2)] 3 = mkF m 0 #[.val (.ref x0), .val .null, .val (.int x2)] [] := by first | (simp [entryFrame, mkF, argsToLocals, Value.category]; done) | rfl
set_option maxRecDepth 65536 in
set_option maxHeartbeats 40000000 in
theorem rm4 (l : Launch) (Z : State) (a0 : Array Value) (hw : ∀ d ∈ tables_1, d.before a0 Z = true) (ws : List Jvm.Cond) (o0 : Addr) (p2 : Int32) (ob : Addr) (n : Int32) (q : Int64) (u : Nat → Value) (h0 : Heap) (n0 : Nat) (Z0 : n0 ≤ h0.size) (E_o0 : Exa Z h0 o0 "com/example/mapcodex/mapcodex/pbf/ObjectBatch") (F_objects : Fld Z h0 o0 "com/example/mapcodex/mapcodex/pbf/ObjectBatch" "objects" "[Ljava/lang/Object;" (.ref ob)) (F_size : Fld Z h0 o0 "com/example/mapcodex/mapcodex/pbf/ObjectBatch" "size" "I" (.int n)) (F_values : Fld Z h0 o0 "com/example/mapcodex/mapcodex/pbf/ObjectBatch" "values" "J" (.long q)) (A_ob : AryR Z h0 ob "java/lang/Object" (4096 : Int32) u) (g0 : n0 ≤ o0) (g1 : n0 ≤ ob) (ne0 : o0 ≠ ob) (hin : ¬ n < 0 ∧ n < (4096 : Int32)) :
    Cmet l Z (⟨"com/example/mapcodex/mapcodex/pbf/ObjectBatch", "add", "(Lcom/example/mapcodex/mapcodex/osm/OsmObject;I)V"⟩ : MethodName) prog_49_method_3_code 3 none ws ({ frames := 0, cells := 0, slots := 0, locals := 0 } : Room) #[(.ref o0), .null, (.int p2)] h0 (fun v h' L => v = none ∧ Fr n0 L ∧ Keep h0 h' [o0, ob] ∧ Fld Z h' o0 "com/example/mapcodex/mapcodex/pbf/ObjectBatch" "objects" "[Ljava/lang/Object;" (.ref ob) ∧ AryR Z h' ob "java/lang/Object" (4096 : Int32) (upd u n.toNatClampNeg .null) ∧ Fld Z h' o0 "com/example/mapcodex/mapcodex/pbf/ObjectBatch" "size" "I" (.int (n + (1 : Int32))) ∧ Fld Z h' o0 "com/example/mapcodex/mapcodex/pbf/ObjectBatch" "values" "J" (.long (q + p2.toInt64))) := by
  refine MetFree.of_bodySF (plainFor_of_name pn_0) hisR ?_
  intro p e s m args below meth c s₁ Bd hml0 hP hK
  obtain ⟨rfl, hZ, hh⟩ := hP
  have hx := Bd.exec
  have hlk : meth.locks = false := BodyLoose.notSynchronized Bd
  have hby := Bd.bytes
  have hml : c.maxLocals = 3 := hml0
  have hown : s.vm.findClass "com/example/mapcodex/mapcodex/pbf/ObjectBatch" = some m.cls := findClass_of_methodNamed Bd.named
  have hnm := (name_of_methodNamed Bd.named Bd.method).1
  have X0 : Stand p l e ({ frames := 0, cells := 0, slots := 0, locals := 0 } : Room) s m #[(.ref o0), .null, (.int p2)] below meth c s₁ [] 0 0 := Stand.of_body Bd
  have e0 : s₁.heap = h0 := by rw [← hh, Bd.state]; rfl
  have N0 := Fr.nil n0
  show Fini p e below s (fun v h' L => v = none ∧ Fr n0 L ∧ Keep h0 h' [o0, ob] ∧ Fld Z h' o0 "com/example/mapcodex/mapcodex/pbf/ObjectBatch" "objects" "[Ljava/lang/Object;" (.ref ob) ∧ AryR Z h' ob "java/lang/Object" (4096 : Int32) (upd u n.toNatClampNeg .null) ∧ Fld Z h' o0 "com/example/mapcodex/mapcodex/pbf/ObjectBatch" "size" "I" (.int (n + (1 : Int32))) ∧ Fld Z h' o0 "com/example/mapcodex/mapcodex/pbf/ObjectBatch" "values" "J" (.long (q + p2.toInt64))) _ _ s₁ (entryFrame m #[(.ref o0), .null, (.int p2)] 3)
  refine Fini.cast (ef4 m o0 p2) ?_
  show Fini p e below s _ _ _ s₁ (mkF m 0 #[.val (.ref o0), .val .null, .val (.int p2)] [])
  refine Fini.st (fun _ k => XS.aloadN X0.here hx rfl (hb hby d4_0) rfl rfl k) ?_
  show Fini p e below s _ _ _ s₁ (mkF m 1 #[.val (.ref o0), .val .null, .val (.int p2)] [(.ref o0)])
  obtain ⟨T1, X1, e1, st1⟩ := getF X0 hx hZ hown (host := "") (Or.inl (hw _ (List.mem_of_getElem? (i := 11) rfl))) Via.refl e0 F_objects (g := (mkF m 1 #[.val (.ref o0), .val .null, .val (.int p2)] [(.ref o0)])) rfl rfl (hb hby d4_1)
  refine Fini.st st1 ?_
  show Fini p e below s _ _ _ T1 (mkF m 4 #[.val (.ref o0), .val .null, .val (.int p2)] [(.ref ob)])
  refine Fini.st (fun _ k => XS.aloadN X1.here hx rfl (hb hby d4_4) rfl rfl k) ?_
  show Fini p e below s _ _ _ T1 (mkF m 5 #[.val (.ref o0), .val .null, .val (.int p2)] [(.ref o0), (.ref ob)])
  refine Fini.st (fun _ k => XS.dup X1.here hx rfl (hb hby d4_5) rfl rfl k) ?_
  show Fini p e below s _ _ _ T1 (mkF m 6 #[.val (.ref o0), .val .null, .val (.int p2)] [(.ref o0), (.ref o0), (.ref ob)])
  obtain ⟨T2, X2, e2, st2⟩ := getF X1 hx hZ hown (host := "") (Or.inl (hw _ (List.mem_of_getElem? (i := 18) rfl))) Via.refl e1 F_size (g := (mkF m 6 #[.val (.ref o0), .val .null, .val (.int p2)] [(.ref o0), (.ref o0), (.ref ob)])) rfl rfl (hb hby d4_6)
  refine Fini.st st2 ?_
  show Fini p e below s _ _ _ T2 (mkF m 9 #[.val (.ref o0), .val .null, .val (.int p2)] [(.int n), (.ref o0), (.ref ob)])
  refine Fini.st (fun _ k => XS.dupX1 X2.here hx rfl (hb hby d4_9) rfl rfl rfl k) ?_
  show Fini p e below s _ _ _ T2 (mkF m 10 #[.val (.ref o0), .val .null, .val (.int p2)] [(.int n), (.ref o0), (.int n), (.ref ob)])
  refine Fini.st (fun _ k => XS.iconst X2.here hx rfl (hb hby d4_10) k) ?_
  show Fini p e below s _ _ _ T2 (mkF m 11 #[.val (.ref o0), .val .null, .val (.int p2)] [(.int (1 : Int32)), (.int n), (.ref o0), (.int n), (.ref ob)])
  refine Fini.st (fun _ k => XS.iadd X2.here hx rfl (hb hby d4_11) rfl k) ?_
  show Fini p e below s _ _ _ T2 (mkF m 12 #[.val (.ref o0), .val .null, .val (.int p2)] [(.int (n + (1 : Int32))), (.ref o0), (.int n), (.ref ob)])
  obtain ⟨T3, h3, X3, e3, W3, st3⟩ := putF X2 hx hZ hown (host := "") (Or.inl (hw _ (List.mem_of_getElem? (i := 18) rfl))) Via.refl e2 F_size E_o0 (Or.inl (hw _ (List.mem_of_getElem? (i := 19) rfl))) (hw _ (List.mem_of_getElem? (i := 1) rfl)) (ty := .int) (by decide) rfl rfl (g := (mkF m 12 #[.val (.ref o0), .val .null, .val (.int p2)] [(.int (n + (1 : Int32))), (.ref o0), (.int n), (.ref ob)])) rfl rfl (hb hby d4_12)
  have Fw3 : Fld Z h3 o0 "com/example/mapcodex/mapcodex/pbf/ObjectBatch" "size" "I" (.int (n + (1 : Int32))) := F_size.same W3
  refine Fini.st st3 ?_
  have N3 := Fr.snoc X3 N0 g0
  show Fini p e below s _ _ _ T3 (mkF m 15 #[.val (.ref o0), .val .null, .val (.int p2)] [(.int n), (.ref ob)])
  refine Fini.st (fun _ k => XS.aloadN X3.here hx rfl (hb hby d4_15) rfl rfl k) ?_
  show Fini p e below s _ _ _ T3 (mkF m 16 #[.val (.ref o0), .val .null, .val (.int p2)] [.null, (.int n), (.ref ob)])
  have Ar_4 : AryR Z h3 ob "java/lang/Object" (4096 : Int32) u := (A_ob.other W3 (Ne.symm ne0))
  obtain ⟨T5, h5, X5, e5, W5, Ar5, st5⟩ := Ar_4.st X3 hx hZ e3 hin (Or.inl rfl) (g := (mkF m 16 #[.val (.ref o0), .val .null, .val (.int p2)] [.null, (.int n), (.ref ob)])) rfl rfl (hb hby d4_16)
  refine Fini.st st5 ?_
  have N5 := Fr.snoc X5 N3 g1
  show Fini p e below s _ _ _ T5 (mkF m 17 #[.val (.ref o0), .val .null, .val (.int p2)] [])
  refine Fini.st (fun _ k => XS.aloadN X5.here hx rfl (hb hby d4_17) rfl rfl k) ?_
  show Fini p e below s _ _ _ T5 (mkF m 18 #[.val (.ref o0), .val .null, .val (.int p2)] [(.ref o0)])
  refine Fini.st (fun _ k => XS.dup X5.here hx rfl (hb hby d4_18) rfl rfl k) ?_
  show Fini p e below s _ _ _ T5 (mkF m 19 #[.val (.ref o0), .val .null, .val (.int p2)] [(.ref o0), (.ref o0)])
  have F_7 : Fld Z h5 o0 "com/example/mapcodex/mapcodex/pbf/ObjectBatch" "values" "J" (.long q) := ((F_values.other W3 (Or.inr (slot_ne (Or.inl (hw _ (List.mem_of_getElem? (i := 21) rfl))) (Or.inl (hw _ (List.mem_of_getElem? (i := 19) rfl))) (by decide) (t := .long) (t' := .int) (by decide) (by decide)))).other W5 (Or.inl ne0))
  obtain ⟨T6, X6, e6, st6⟩ := getF X5 hx hZ hown (host := "") (Or.inl (hw _ (List.mem_of_getElem? (i := 20) rfl))) Via.refl e5 F_7 (g := (mkF m 19 #[.val (.ref o0), .val .null, .val (.int p2)] [(.ref o0), (.ref o0)])) rfl rfl (hb hby d4_19)
  refine Fini.st st6 ?_
  show Fini p e below s _ _ _ T6 (mkF m 22 #[.val (.ref o0), .val .null, .val (.int p2)] [(.long q), (.ref o0)])
  refine Fini.st (fun _ k => XS.iloadN X6.here hx rfl (hb hby d4_22) rfl k) ?_
  show Fini p e below s _ _ _ T6 (mkF m 23 #[.val (.ref o0), .val .null, .val (.int p2)] [(.int p2), (.long q), (.ref o0)])
  refine Fini.st (fun _ k => XS.i2l X6.here hx rfl (hb hby d4_23) rfl k) ?_
  show Fini p e below s _ _ _ T6 (mkF m 24 #[.val (.ref o0), .val .null, .val (.int p2)] [(.long p2.toInt64), (.long q), (.ref o0)])
  refine Fini.st (fun _ k => XS.ladd X6.here hx rfl (hb hby d4_24) rfl k) ?_
  show Fini p e below s _ _ _ T6 (mkF m 25 #[.val (.ref o0), .val .null, .val (.int p2)] [(.long (q + p2.toInt64)), (.ref o0)])
  have Ex_9 : Exa Z h5 o0 "com/example/mapcodex/mapcodex/pbf/ObjectBatch" := ((E_o0.wr W3).wr W5)
  obtain ⟨T8, h8, X8, e8, W8, st8⟩ := putF X6 hx hZ hown (host := "") (Or.inl (hw _ (List.mem_of_getElem? (i := 20) rfl))) Via.refl e6 F_7 Ex_9 (Or.inl (hw _ (List.mem_of_getElem? (i := 21) rfl))) (hw _ (List.mem_of_getElem? (i := 1) rfl)) (ty := .long) (by decide) rfl rfl (g := (mkF m 25 #[.val (.ref o0), .val .null, .val (.int p2)] [(.long (q + p2.toInt64)), (.ref o0)])) rfl rfl (hb hby d4_25)
  have Fw8 : Fld Z h8 o0 "com/example/mapcodex/mapcodex/pbf/ObjectBatch" "values" "J" (.long (q + p2.toInt64)) := F_7.same W8
  refine Fini.st st8 ?_
  have N8 := Fr.snoc X8 N5 g0
  show Fini p e below s _ _ _ T8 (mkF m 28 #[.val (.ref o0), .val .null, .val (.int p2)] [])
  have Kp_10 : Keep h0 h8 [o0, ob] := (Keep.wr (Keep.wr (Keep.wr (Keep.refl h0 [o0, ob]) W3 (Or.inl (List.mem_of_getElem? (i := 0) rfl))) W5 (Or.inl (List.mem_of_getElem? (i := 1) rfl))) W8 (Or.inl (List.mem_of_getElem? (i := 0) rfl)))
  have F_11 : Fld Z h8 o0 "com/example/mapcodex/mapcodex/pbf/ObjectBatch" "objects" "[Ljava/lang/Object;" (.ref ob) := (((F_objects.other W3 (Or.inr (slot_ne (Or.inr (hw _ (List.mem_of_getElem? (i := 12) rfl))) (Or.inl (hw _ (List.mem_of_getElem? (i := 19) rfl))) (by decide) (t := (.array (.object "java/lang/Object"))) (t' := .int) (by decide) (by decide)))).other W5 (Or.inl ne0)).other W8 (Or.inr (slot_ne (Or.inr (hw _ (List.mem_of_getElem? (i := 12) rfl))) (Or.inl (hw _ (List.mem_of_getElem? (i := 21) rfl))) (by decide) (t := (.array (.object "java/lang/Object"))) (t' := .long) (by decide) (by decide))))
  have Ar_12 : AryR Z h8 ob "java/lang/Object" (4096 : Int32) (upd u (n).toNatClampNeg .null) := (Ar5.other W8 (Ne.symm ne0))
  have F_13 : Fld Z h8 o0 "com/example/mapcodex/mapcodex/pbf/ObjectBatch" "size" "I" (.int (n + (1 : Int32))) := ((Fw3.other W5 (Or.inl ne0)).other W8 (Or.inr (slot_ne (Or.inl (hw _ (List.mem_of_getElem? (i := 19) rfl))) (Or.inl (hw _ (List.mem_of_getElem? (i := 21) rfl))) (by decide) (t := .int) (t' := .long) (by decide) (by decide))))
  exact Fini.ret0 X8 hx hlk Bd.returns (hb hby d4_28) (by decide) (by decide) ⟨rfl, N8, (by rw [e8]; exact Kp_10), (by rw [e8]; exact F_11), (by rw [e8]; exact Ar_12), (by rw [e8]; exact F_13), (by rw [e8]; exact Fw8)⟩
theorem pd_0 : parseMethodDescriptor "()V" = some ⟨[], none⟩ := by decide +kernel
theorem pd_1 : parseMethodDescriptor "()Z" = some ⟨[], some .boolean⟩ := by decide +kernel
theorem pd_2 : parseMethodDescriptor "(Lcom/example/mapcodex/mapcodex/osm/OsmObject;I)V" = some ⟨[(.object "com/example/mapcodex/mapcodex/osm/OsmObject"), .int], none⟩ := by decide +kernel
theorem pn_1 : plainName "com/example/mapcodex/mapcodex/pbf/ObjectBatchIsFullPinLaw" = true := by first | (simp [plainName, overriddenIn]; done) | decide +kernel
theorem ef0 (m : MethodId) (x0 : Int32) (x1 : Int32) (x2 : Int32) (x3 : Int32) : entryFrame m #[(.int x0), (.int x1), (.int x2), (.int x3)] maxLocals = mkF m 0 #[.val (.int x0), .val (.int x1), .val (.int x2), .val (.int x3), .unset, .unset, .unset, .unset, .unset] [] := by first | (simp [entryFrame, mkF, argsToLocals, Value.category, maxLocals]; done) | rfl
def f0_185_1 (p0 : Int32) (p1 : Int32) (p2 : Int32) (p3 : Int32) (z185_1_s0 : Int32) (z27_0_s0 : Int32) : Int32 := (nar .boolean (z27_0_s0 &&& z185_1_s0))
def f0_185_2 (p0 : Int32) (p1 : Int32) (p2 : Int32) (p3 : Int32) (z185_2_s0 : Int32) (z136_1_f_F_b1_values : Int64) (z136_1_l6 : Int32) (z136_1_l7 : Int64) : Int32 := (nar .boolean (z136_1_l6 &&& z185_2_s0))
def f0_185_3 (p0 : Int32) (p1 : Int32) (p2 : Int32) (p3 : Int32) (z185_3_s0 : Int32) (z133_2_s0 : Int32) (z27_0_s0 : Int32) (z81_1_s0 : Int32) : Int32 := (nar .boolean (((z27_0_s0 &&& z81_1_s0) &&& z133_2_s0) &&& z185_3_s0))
def f0_177_1 (p0 : Int32) (p1 : Int32) (p2 : Int32) (p3 : Int32) (z177_1_s0 : Int32) (z27_0_s0 : Int32) : Int32 := (if (f3 (1 : Int32) ((0 : Int64) + p3.toInt64)) = z177_1_s0 then (f0_185_1 p0 p1 p2 p3 (1 : Int32) z27_0_s0) else (f0_185_1 p0 p1 p2 p3 (0 : Int32) z27_0_s0))
def f0_177_2 (p0 : Int32) (p1 : Int32) (p2 : Int32) (p3 : Int32) (z177_2_s0 : Int32) (z136_1_f_F_b1_values : Int64) (z136_1_l6 : Int32) (z136_1_l7 : Int64) : Int32 := (if (f3 (2 : Int32) (z136_1_f_F_b1_values + p3.toInt64)) = z177_2_s0 then (f0_185_2 p0 p1 p2 p3 (1 : Int32) z136_1_f_F_b1_values z136_1_l6 z136_1_l7) else (f0_185_2 p0 p1 p2 p3 (0 : Int32) z136_1_f_F_b1_values z136_1_l6 z136_1_l7))
def f0_177_3 (p0 : Int32) (p1 : Int32) (p2 : Int32) (p3 : Int32) (z177_3_s0 : Int32) (z133_2_s0 : Int32) (z27_0_s0 : Int32) (z81_1_s0 : Int32) : Int32 := (if (f3 (3 : Int32) ((((0 : Int64) + p1.toInt64) + p2.toInt64) + p3.toInt64)) = z177_3_s0 then (f0_185_3 p0 p1 p2 p3 (1 : Int32) z133_2_s0 z27_0_s0 z81_1_s0) else (f0_185_3 p0 p1 p2 p3 (0 : Int32) z133_2_s0 z27_0_s0 z81_1_s0))
def f0_136_0 (p0 : Int32) (p1 : Int32) (p2 : Int32) (p3 : Int32) (z27_0_s0 : Int32) : Int32 := (if (p0 &&& (3 : Int32)) < (3 : Int32) then (nar .boolean z27_0_s0) else (if ((0 : Int64) + p3.toInt64) < (16384 : Int64) then (f0_177_1 p0 p1 p2 p3 (0 : Int32) z27_0_s0) else (f0_177_1 p0 p1 p2 p3 (1 : Int32) z27_0_s0)))
def f0_136_1 (p0 : Int32) (p1 : Int32) (p2 : Int32) (p3 : Int32) (z136_1_l6 : Int32) (z136_1_l7 : Int64) (z136_1_f_F_b1_values : Int64) : Int32 := (if (p0 &&& (3 : Int32)) < (3 : Int32) then (nar .boolean z136_1_l6) else (if (z136_1_l7 + p3.toInt64) < (16384 : Int64) then (f0_177_2 p0 p1 p2 p3 (0 : Int32) z136_1_f_F_b1_values z136_1_l6 z136_1_l7) else (f0_177_2 p0 p1 p2 p3 (1 : Int32) z136_1_f_F_b1_values z136_1_l6 z136_1_l7)))
def f0_136_2 (p0 : Int32) (p1 : Int32) (p2 : Int32) (p3 : Int32) (z133_2_s0 : Int32) (z27_0_s0 : Int32) (z81_1_s0 : Int32) : Int32 := (if (p0 &&& (3 : Int32)) < (3 : Int32) then (nar .boolean ((z27_0_s0 &&& z81_1_s0) &&& z133_2_s0)) else (if ((((0 : Int64) + p1.toInt64) + p2.toInt64) + p3.toInt64) < (16384 : Int64) then (f0_177_3 p0 p1 p2 p3 (0 : Int32) z133_2_s0 z27_0_s0 z81_1_s0) else (f0_177_3 p0 p1 p2 p3 (1 : Int32) z133_2_s0 z27_0_s0 z81_1_s0)))
def f0_133_1 (p0 : Int32) (p1 : Int32) (p2 : Int32) (p3 : Int32) (z133_1_s0 : Int32) (z27_0_s0 : Int32) : Int32 := (f0_136_1 p0 p1 p2 p3 (z27_0_s0 &&& z133_1_s0) ((0 : Int64) + p2.toInt64) ((0 : Int64) + p2.toInt64))
def f0_133_2 (p0 : Int32) (p1 : Int32) (p2 : Int32) (p3 : Int32) (z133_2_s0 : Int32) (z27_0_s0 : Int32) (z81_1_s0 : Int32) : Int32 := (f0_136_2 p0 p1 p2 p3 z133_2_s0 z27_0_s0 z81_1_s0)
def f0_125_1 (p0 : Int32) (p1 : Int32) (p2 : Int32) (p3 : Int32) (z125_1_s0 : Int32) (z27_0_s0 : Int32) : Int32 := (if (f3 (1 : Int32) ((0 : Int64) + p2.toInt64)) = z125_1_s0 then (f0_133_1 p0 p1 p2 p3 (1 : Int32) z27_0_s0) else (f0_133_1 p0 p1 p2 p3 (0 : Int32) z27_0_s0))
def f0_125_2 (p0 : Int32) (p1 : Int32) (p2 : Int32) (p3 : Int32) (z125_2_s0 : Int32) (z27_0_s0 : Int32) (z81_1_s0 : Int32) : Int32 := (if (f3 (2 : Int32) (((0 : Int64) + p1.toInt64) + p2.toInt64)) = z125_2_s0 then (f0_133_2 p0 p1 p2 p3 (1 : Int32) z27_0_s0 z81_1_s0) else (f0_133_2 p0 p1 p2 p3 (0 : Int32) z27_0_s0 z81_1_s0))
def f0_84_0 (p0 : Int32) (p1 : Int32) (p2 : Int32) (p3 : Int32) (z27_0_s0 : Int32) : Int32 := (if (p0 &&& (3 : Int32)) < (2 : Int32) then (f0_136_0 p0 p1 p2 p3 z27_0_s0) else (if ((0 : Int64) + p2.toInt64) < (16384 : Int64) then (f0_125_1 p0 p1 p2 p3 (0 : Int32) z27_0_s0) else (f0_125_1 p0 p1 p2 p3 (1 : Int32) z27_0_s0)))
def f0_84_1 (p0 : Int32) (p1 : Int32) (p2 : Int32) (p3 : Int32) (z27_0_s0 : Int32) (z81_1_s0 : Int32) : Int32 := (if (p0 &&& (3 : Int32)) < (2 : Int32) then (f0_136_1 p0 p1 p2 p3 (z27_0_s0 &&& z81_1_s0) ((0 : Int64) + p1.toInt64) ((0 : Int64) + p1.toInt64)) else (if (((0 : Int64) + p1.toInt64) + p2.toInt64) < (16384 : Int64) then (f0_125_2 p0 p1 p2 p3 (0 : Int32) z27_0_s0 z81_1_s0) else (f0_125_2 p0 p1 p2 p3 (1 : Int32) z27_0_s0 z81_1_s0)))
def f0_81_1 (p0 : Int32) (p1 : Int32) (p2 : Int32) (p3 : Int32) (z81_1_s0 : Int32) (z27_0_s0 : Int32) : Int32 := (f0_84_1 p0 p1 p2 p3 z27_0_s0 z81_1_s0)
def f0_73_1 (p0 : Int32) (p1 : Int32) (p2 : Int32) (p3 : Int32) (z73_1_s0 : Int32) (z27_0_s0 : Int32) : Int32 := (if (f3 (1 : Int32) ((0 : Int64) + p1.toInt64)) = z73_1_s0 then (f0_81_1 p0 p1 p2 p3 (1 : Int32) z27_0_s0) else (f0_81_1 p0 p1 p2 p3 (0 : Int32) z27_0_s0))
def f0_27_0 (p0 : Int32) (p1 : Int32) (p2 : Int32) (p3 : Int32) (z27_0_s0 : Int32) : Int32 := (if (p0 &&& (3 : Int32)) < (1 : Int32) then (f0_84_0 p0 p1 p2 p3 z27_0_s0) else (if ((0 : Int64) + p1.toInt64) < (16384 : Int64) then (f0_73_1 p0 p1 p2 p3 (0 : Int32) z27_0_s0) else (f0_73_1 p0 p1 p2 p3 (1 : Int32) z27_0_s0)))
def f0 (p0 : Int32) (p1 : Int32) (p2 : Int32) (p3 : Int32) : Int32 := (if (f3 (0 : Int32) (0 : Int64)) = (0 : Int32) then (f0_27_0 p0 p1 p2 p3 (1 : Int32)) else (f0_27_0 p0 p1 p2 p3 (0 : Int32)))
set_option maxRecDepth 65536 in
set_option maxHeartbeats 40000000 in
theorem rm0 (l : Launch) (Z : State) (a0 : Array Value) (hw : ∀ d ∈ tables_1, d.before a0 Z = true) (ws : List Jvm.Cond) (p0 : Int32) (p1 : Int32) (p2 : Int32) (p3 : Int32) (h0 : Heap) (n0 : Nat) (Z0 : n0 ≤ h0.size) :
    Cmet l Z x code maxLocals ret ws room_1 #[(.int p0), (.int p1), (.int p2), (.int p3)] h0 (fun v h' L => v = some (.int (f0 p0 p1 p2 p3)) ∧ Fr n0 L) := by
  refine MetFree.of_bodySF (plainFor_of_name pn_1) hisR ?_
  intro p e s m args below meth c s₁ Bd hml0 hP hK
  obtain ⟨rfl, hZ, hh⟩ := hP
  have hx := Bd.exec
  have hlk : meth.locks = false := BodyLoose.notSynchronized Bd
  have hby := Bd.bytes
  have hml : c.maxLocals = 9 := hml0
  have hown : s.vm.findClass "com/example/mapcodex/mapcodex/pbf/ObjectBatchIsFullPinLaw" = some m.cls := findClass_of_methodNamed Bd.named
  have hnm := (name_of_methodNamed Bd.named Bd.method).1
  have X0 : Stand p l e room_1 s m #[(.int p0), (.int p1), (.int p2), (.int p3)] below meth c s₁ [] 0 0 := Stand.of_body Bd
  have e0 : s₁.heap = h0 := by rw [← hh, Bd.state]; rfl
  have N0 := Fr.nil n0
  have hv0 : f0 p0 p1 p2 p3 = f0 p0 p1 p2 p3 := rfl
  have B185_1 : ∀ (T_185_1 : State) (h_185_1 : Heap) (locs : List Loc) (X_185_1 : Stand p l e room_1 s m #[(.int p0), (.int p1), (.int p2), (.int p3)] below meth c T_185_1 locs 2 4100) (e_185_1 : T_185_1.heap = h_185_1) (b1 : Addr) (b2 : Addr) (z185_1_s0 : Int32) (z27_0_s0 : Int32) (N_185_1 : Fr n0 locs) (H185_1_Z : n0 ≤ h_185_1.size) (H185_1_E_b1 : Exa Z h_185_1 b1 "com/example/mapcodex/mapcodex/pbf/ObjectBatch") (H185_1_F_b1_objects : Fld Z h_185_1 b1 "com/example/mapcodex/mapcodex/pbf/ObjectBatch" "objects" "[Ljava/lang/Object;" (.ref b2)) (H185_1_F_b1_size : Fld Z h_185_1 b1 "com/example/mapcodex/mapcodex/pbf/ObjectBatch" "size" "I" (.int (1 : Int32))) (H185_1_F_b1_values : Fld Z h_185_1 b1 "com/example/mapcodex/mapcodex/pbf/ObjectBatch" "values" "J" (.long ((0 : Int64) + p3.toInt64))) (H185_1_A_b2 : AryR Z h_185_1 b2 "java/lang/Object" (4096 : Int32) (upd (fun _ => .null) 0 .null)) (ne185_1_b1_b2 : b1 ≠ b2) (ge185_1_b1 : n0 ≤ b1) (ge185_1_b2 : n0 ≤ b2), f0 p0 p1 p2 p3 = f0_185_1 p0 p1 p2 p3 z185_1_s0 z27_0_s0 → Fini p e below s (fun v h' L => v = some (.int (f0 p0 p1 p2 p3)) ∧ Fr n0 L) (Room.cells room_1) (Room.slots room_1) T_185_1 (mkF m 185 #[.val (.int p0), .val (.int p1), .val (.int p2), .val (.int p3), .val (.int (p0 &&& (3 : Int32))), .val (.ref b1), .val (.int z27_0_s0), .val (.long ((0 : Int64) + p3.toInt64)), .second] [(.int z185_1_s0), (.int z27_0_s0)]) := by
    intro T_185_1 h_185_1 locs X_185_1 e_185_1 b1 b2 z185_1_s0 z27_0_s0 N_185_1 H185_1_Z H185_1_E_b1 H185_1_F_b1_objects H185_1_F_b1_size H185_1_F_b1_values H185_1_A_b2 ne185_1_b1_b2 ge185_1_b1 ge185_1_b2 hv_185_1
    refine Fini.st (fun _ k => XS.iand X_185_1.here hx rfl (hb hby at_185) rfl k) ?_
    show Fini p e below s _ _ _ T_185_1 (mkF m 186 #[.val (.int p0), .val (.int p1), .val (.int p2), .val (.int p3), .val (.int (p0 &&& (3 : Int32))), .val (.ref b1), .val (.int z27_0_s0), .val (.long ((0 : Int64) + p3.toInt64)), .second] [(.int (z27_0_s0 &&& z185_1_s0))])
    refine Fini.st (fun _ k => XS.istore X_185_1.here hx rfl (hb hby at_186) rfl (l' := #[.val (.int p0), .val (.int p1), .val (.int p2), .val (.int p3), .val (.int (p0 &&& (3 : Int32))), .val (.ref b1), .val (.int (z27_0_s0 &&& z185_1_s0)), .val (.long ((0 : Int64) + p3.toInt64)), .second]) rfl k) ?_
    show Fini p e below s _ _ _ T_185_1 (mkF m 188 #[.val (.int p0), .val (.int p1), .val (.int p2), .val (.int p3), .val (.int (p0 &&& (3 : Int32))), .val (.ref b1), .val (.int (z27_0_s0 &&& z185_1_s0)), .val (.long ((0 : Int64) + p3.toInt64)), .second] [])
    refine Fini.st (fun _ k => XS.iload X_185_1.here hx rfl (hb hby at_188) rfl k) ?_
    show Fini p e below s _ _ _ T_185_1 (mkF m 190 #[.val (.int p0), .val (.int p1), .val (.int p2), .val (.int p3), .val (.int (p0 &&& (3 : Int32))), .val (.ref b1), .val (.int (z27_0_s0 &&& z185_1_s0)), .val (.long ((0 : Int64) + p3.toInt64)), .second] [(.int (z27_0_s0 &&& z185_1_s0))])
    exact Fini.retN X_185_1 hx hlk (t := .boolean) Bd.returns (by simp) (hb hby at_190) rfl (by decide) (by decide) ⟨congrArg (fun z => some (Value.int z)) hv_185_1.symm, N_185_1⟩
  have B185_2 : ∀ (T_185_2 : State) (h_185_2 : Heap) (locs : List Loc) (X_185_2 : Stand p l e room_1 s m #[(.int p0), (.int p1), (.int p2), (.int p3)] below meth c T_185_2 locs 2 4100) (e_185_2 : T_185_2.heap = h_185_2) (b1 : Addr) (b2 : Addr) (z185_2_s0 : Int32) (z136_1_f_F_b1_values : Int64) (z136_1_l6 : Int32) (z136_1_l7 : Int64) (N_185_2 : Fr n0 locs) (H185_2_Z : n0 ≤ h_185_2.size) (H185_2_E_b1 : Exa Z h_185_2 b1 "com/example/mapcodex/mapcodex/pbf/ObjectBatch") (H185_2_F_b1_objects : Fld Z h_185_2 b1 "com/example/mapcodex/mapcodex/pbf/ObjectBatch" "objects" "[Ljava/lang/Object;" (.ref b2)) (H185_2_F_b1_size : Fld Z h_185_2 b1 "com/example/mapcodex/mapcodex/pbf/ObjectBatch" "size" "I" (.int (2 : Int32))) (H185_2_F_b1_values : Fld Z h_185_2 b1 "com/example/mapcodex/mapcodex/pbf/ObjectBatch" "values" "J" (.long (z136_1_f_F_b1_values + p3.toInt64))) (H185_2_A_b2 : AryR Z h_185_2 b2 "java/lang/Object" (4096 : Int32) (upd (upd (fun _ => .null) 0 .null) 1 .null)) (ne185_2_b1_b2 : b1 ≠ b2) (ge185_2_b1 : n0 ≤ b1) (ge185_2_b2 : n0 ≤ b2), f0 p0 p1 p2 p3 = f0_185_2 p0 p1 p2 p3 z185_2_s0 z136_1_f_F_b1_values z136_1_l6 z136_1_l7 → Fini p e below s (fun v h' L => v = some (.int (f0 p0 p1 p2 p3)) ∧ Fr n0 L) (Room.cells room_1) (Room.slots room_1) T_185_2 (mkF m 185 #[.val (.int p0), .val (.int p1), .val (.int p2), .val (.int p3), .val (.int (p0 &&& (3 : Int32))), .val (.ref b1), .val (.int z136_1_l6), .val (.long (z136_1_l7 + p3.toInt64)), .second] [(.int z185_2_s0), (.int z136_1_l6)]) := by
    intro T_185_2 h_185_2 locs X_185_2 e_185_2 b1 b2 z185_2_s0 z136_1_f_F_b1_values z136_1_l6 z136_1_l7 N_185_2 H185_2_Z H185_2_E_b1 H185_2_F_b1_objects H185_2_F_b1_size H185_2_F_b1_values H185_2_A_b2 ne185_2_b1_b2 ge185_2_b1 ge185_2_b2 hv_185_2
    refine Fini.st (fun _ k => XS.iand X_185_2.here hx rfl (hb hby at_185) rfl k) ?_
    show Fini p e below s _ _ _ T_185_2 (mkF m 186 #[.val (.int p0), .val (.int p1), .val (.int p2), .val (.int p3), .val (.int (p0 &&& (3 : Int32))), .val (.ref b1), .val (.int z136_1_l6), .val (.long (z136_1_l7 + p3.toInt64)), .second] [(.int (z136_1_l6 &&& z185_2_s0))])
    refine Fini.st (fun _ k => XS.istore X_185_2.here hx rfl (hb hby at_186) rfl (l' := #[.val (.int p0), .val (.int p1), .val (.int p2), .val (.int p3), .val (.int (p0 &&& (3 : Int32))), .val (.ref b1), .val (.int (z136_1_l6 &&& z185_2_s0)), .val (.long (z136_1_l7 + p3.toInt64)), .second]) rfl k) ?_
    show Fini p e below s _ _ _ T_185_2 (mkF m 188 #[.val (.int p0), .val (.int p1), .val (.int p2), .val (.int p3), .val (.int (p0 &&& (3 : Int32))), .val (.ref b1), .val (.int (z136_1_l6 &&& z185_2_s0)), .val (.long (z136_1_l7 + p3.toInt64)), .second] [])
    refine Fini.st (fun _ k => XS.iload X_185_2.here hx rfl (hb hby at_188) rfl k) ?_
    show Fini p e below s _ _ _ T_185_2 (mkF m 190 #[.val (.int p0), .val (.int p1), .val (.int p2), .val (.int p3), .val (.int (p0 &&& (3 : Int32))), .val (.ref b1), .val (.int (z136_1_l6 &&& z185_2_s0)), .val (.long (z136_1_l7 + p3.toInt64)), .second] [(.int (z136_1_l6 &&& z185_2_s0))])
    exact Fini.retN X_185_2 hx hlk (t := .boolean) Bd.returns (by simp) (hb hby at_190) rfl (by decide) (by decide) ⟨congrArg (fun z => some (Value.int z)) hv_185_2.symm, N_185_2⟩
  have B185_3 : ∀ (T_185_3 : State) (h_185_3 : Heap) (locs : List Loc) (X_185_3 : Stand p l e room_1 s m #[(.int p0), (.int p1), (.int p2), (.int p3)] below meth c T_185_3 locs 2 4100) (e_185_3 : T_185_3.heap = h_185_3) (b1 : Addr) (b2 : Addr) (z185_3_s0 : Int32) (z133_2_s0 : Int32) (z27_0_s0 : Int32) (z81_1_s0 : Int32) (N_185_3 : Fr n0 locs) (H185_3_Z : n0 ≤ h_185_3.size) (H185_3_E_b1 : Exa Z h_185_3 b1 "com/example/mapcodex/mapcodex/pbf/ObjectBatch") (H185_3_F_b1_objects : Fld Z h_185_3 b1 "com/example/mapcodex/mapcodex/pbf/ObjectBatch" "objects" "[Ljava/lang/Object;" (.ref b2)) (H185_3_F_b1_size : Fld Z h_185_3 b1 "com/example/mapcodex/mapcodex/pbf/ObjectBatch" "size" "I" (.int (3 : Int32))) (H185_3_F_b1_values : Fld Z h_185_3 b1 "com/example/mapcodex/mapcodex/pbf/ObjectBatch" "values" "J" (.long ((((0 : Int64) + p1.toInt64) + p2.toInt64) + p3.toInt64))) (H185_3_A_b2 : AryR Z h_185_3 b2 "java/lang/Object" (4096 : Int32) (upd (upd (upd (fun _ => .null) 0 .null) 1 .null) 2 .null)) (ne185_3_b1_b2 : b1 ≠ b2) (ge185_3_b1 : n0 ≤ b1) (ge185_3_b2 : n0 ≤ b2), f0 p0 p1 p2 p3 = f0_185_3 p0 p1 p2 p3 z185_3_s0 z133_2_s0 z27_0_s0 z81_1_s0 → Fini p e below s (fun v h' L => v = some (.int (f0 p0 p1 p2 p3)) ∧ Fr n0 L) (Room.cells room_1) (Room.slots room_1) T_185_3 (mkF m 185 #[.val (.int p0), .val (.int p1), .val (.int p2), .val (.int p3), .val (.int (p0 &&& (3 : Int32))), .val (.ref b1), .val (.int ((z27_0_s0 &&& z81_1_s0) &&& z133_2_s0)), .val (.long ((((0 : Int64) + p1.toInt64) + p2.toInt64) + p3.toInt64)), .second] [(.int z185_3_s0), (.int ((z27_0_s0 &&& z81_1_s0) &&& z133_2_s0))]) := by
    intro T_185_3 h_185_3 locs X_185_3 e_185_3 b1 b2 z185_3_s0 z133_2_s0 z27_0_s0 z81_1_s0 N_185_3 H185_3_Z H185_3_E_b1 H185_3_F_b1_objects H185_3_F_b1_size H185_3_F_b1_values H185_3_A_b2 ne185_3_b1_b2 ge185_3_b1 ge185_3_b2 hv_185_3
    refine Fini.st (fun _ k => XS.iand X_185_3.here hx rfl (hb hby at_185) rfl k) ?_
    show Fini p e below s _ _ _ T_185_3 (mkF m 186 #[.val (.int p0), .val (.int p1), .val (.int p2), .val (.int p3), .val (.int (p0 &&& (3 : Int32))), .val (.ref b1), .val (.int ((z27_0_s0 &&& z81_1_s0) &&& z133_2_s0)), .val (.long ((((0 : Int64) + p1.toInt64) + p2.toInt64) + p3.toInt64)), .second] [(.int (((z27_0_s0 &&& z81_1_s0) &&& z133_2_s0) &&& z185_3_s0))])
    refine Fini.st (fun _ k => XS.istore X_185_3.here hx rfl (hb hby at_186) rfl (l' := #[.val (.int p0), .val (.int p1), .val (.int p2), .val (.int p3), .val (.int (p0 &&& (3 : Int32))), .val (.ref b1), .val (.int (((z27_0_s0 &&& z81_1_s0) &&& z133_2_s0) &&& z185_3_s0)), .val (.long ((((0 : Int64) + p1.toInt64) + p2.toInt64) + p3.toInt64)), .second]) rfl k) ?_
    show Fini p e below s _ _ _ T_185_3 (mkF m 188 #[.val (.int p0), .val (.int p1), .val (.int p2), .val (.int p3), .val (.int (p0 &&& (3 : Int32))), .val (.ref b1), .val (.int (((z27_0_s0 &&& z81_1_s0) &&& z133_2_s0) &&& z185_3_s0)), .val (.long ((((0 : Int64) + p1.toInt64) + p2.toInt64) + p3.toInt64)), .second] [])
    refine Fini.st (fun _ k => XS.iload X_185_3.here hx rfl (hb hby at_188) rfl k) ?_
    show Fini p e below s _ _ _ T_185_3 (mkF m 190 #[.val (.int p0), .val (.int p1), .val (.int p2), .val (.int p3), .val (.int (p0 &&& (3 : Int32))), .val (.ref b1), .val (.int (((z27_0_s0 &&& z81_1_s0) &&& z133_2_s0) &&& z185_3_s0)), .val (.long ((((0 : Int64) + p1.toInt64) + p2.toInt64) + p3.toInt64)), .second] [(.int (((z27_0_s0 &&& z81_1_s0) &&& z133_2_s0) &&& z185_3_s0))])
    exact Fini.retN X_185_3 hx hlk (t := .boolean) Bd.returns (by simp) (hb hby at_190) rfl (by decide) (by decide) ⟨congrArg (fun z => some (Value.int z)) hv_185_3.symm, N_185_3⟩
  have B177_1 : ∀ (T_177_1 : State) (h_177_1 : Heap) (locs : List Loc) (X_177_1 : Stand p l e room_1 s m #[(.int p0), (.int p1), (.int p2), (.int p3)] below meth c T_177_1 locs 2 4100) (e_177_1 : T_177_1.heap = h_177_1) (b1 : Addr) (b2 : Addr) (z177_1_s0 : Int32) (z27_0_s0 : Int32) (N_177_1 : Fr n0 locs) (H177_1_Z : n0 ≤ h_177_1.size) (H177_1_E_b1 : Exa Z h_177_1 b1 "com/example/mapcodex/mapcodex/pbf/ObjectBatch") (H177_1_F_b1_objects : Fld Z h_177_1 b1 "com/example/mapcodex/mapcodex/pbf/ObjectBatch" "objects" "[Ljava/lang/Object;" (.ref b2)) (H177_1_F_b1_size : Fld Z h_177_1 b1 "com/example/mapcodex/mapcodex/pbf/ObjectBatch" "size" "I" (.int (1 : Int32))) (H177_1_F_b1_values : Fld Z h_177_1 b1 "com/example/mapcodex/mapcodex/pbf/ObjectBatch" "values" "J" (.long ((0 : Int64) + p3.toInt64))) (H177_1_A_b2 : AryR Z h_177_1 b2 "java/lang/Object" (4096 : Int32) (upd (fun _ => .null) 0 .null)) (ne177_1_b1_b2 : b1 ≠ b2) (ge177_1_b1 : n0 ≤ b1) (ge177_1_b2 : n0 ≤ b2), f0 p0 p1 p2 p3 = f0_177_1 p0 p1 p2 p3 z177_1_s0 z27_0_s0 → Fini p e below s (fun v h' L => v = some (.int (f0 p0 p1 p2 p3)) ∧ Fr n0 L) (Room.cells room_1) (Room.slots room_1) T_177_1 (mkF m 177 #[.val (.int p0), .val (.int p1), .val (.int p2), .val (.int p3), .val (.int (p0 &&& (3 : Int32))), .val (.ref b1), .val (.int z27_0_s0), .val (.long ((0 : Int64) + p3.toInt64)), .second] [(.int z177_1_s0), (.int (f3 (1 : Int32) ((0 : Int64) + p3.toInt64))), (.int z27_0_s0)]) := by
    intro T_177_1 h_177_1 locs X_177_1 e_177_1 b1 b2 z177_1_s0 z27_0_s0 N_177_1 H177_1_Z H177_1_E_b1 H177_1_F_b1_objects H177_1_F_b1_size H177_1_F_b1_values H177_1_A_b2 ne177_1_b1_b2 ge177_1_b1 ge177_1_b2 hv_177_1
    by_cases c72 : (f3 (1 : Int32) ((0 : Int64) + p3.toInt64)) = z177_1_s0
    · have hv73 := hv_177_1.trans (if_pos c72)
      refine Fini.st (fun _ k => XS.icmpNo X_177_1.here hx rfl (hb hby at_177) rfl (XT.ii_ne_f c72) k) ?_
      show Fini p e below s _ _ _ T_177_1 (mkF m 180 #[.val (.int p0), .val (.int p1), .val (.int p2), .val (.int p3), .val (.int (p0 &&& (3 : Int32))), .val (.ref b1), .val (.int z27_0_s0), .val (.long ((0 : Int64) + p3.toInt64)), .second] [(.int z27_0_s0)])
      refine Fini.st (fun _ k => XS.iconst X_177_1.here hx rfl (hb hby at_180) k) ?_
      show Fini p e below s _ _ _ T_177_1 (mkF m 181 #[.val (.int p0), .val (.int p1), .val (.int p2), .val (.int p3), .val (.int (p0 &&& (3 : Int32))), .val (.ref b1), .val (.int z27_0_s0), .val (.long ((0 : Int64) + p3.toInt64)), .second] [(.int (1 : Int32)), (.int z27_0_s0)])
      refine Fini.st (fun _ k => XS.goto X_177_1.here hx rfl (pc0 := 181) (pc' := 185) rfl (hb hby at_181) (by decide) (by decide) k) ?_
      show Fini p e below s _ _ _ T_177_1 (mkF m 185 #[.val (.int p0), .val (.int p1), .val (.int p2), .val (.int p3), .val (.int (p0 &&& (3 : Int32))), .val (.ref b1), .val (.int z27_0_s0), .val (.long ((0 : Int64) + p3.toInt64)), .second] [(.int (1 : Int32)), (.int z27_0_s0)])
      exact B185_1 T_177_1 _ _ (X_177_1.more (cells' := 2) (slots' := 4100) (by decide) (by decide)) e_177_1 b1 b2 (1 : Int32) z27_0_s0 N_177_1 H177_1_Z H177_1_E_b1 H177_1_F_b1_objects H177_1_F_b1_size H177_1_F_b1_values H177_1_A_b2 ne177_1_b1_b2 ge177_1_b1 ge177_1_b2 hv73
    · have hv74 := hv_177_1.trans (if_neg c72)
      refine Fini.st (fun _ k => XS.icmpYes X_177_1.here hx rfl (pc0 := 177) (pc' := 184) rfl (hb hby at_177) rfl (XT.ii_ne_t c72) (by decide) (by decide) k) ?_
      show Fini p e below s _ _ _ T_177_1 (mkF m 184 #[.val (.int p0), .val (.int p1), .val (.int p2), .val (.int p3), .val (.int (p0 &&& (3 : Int32))), .val (.ref b1), .val (.int z27_0_s0), .val (.long ((0 : Int64) + p3.toInt64)), .second] [(.int z27_0_s0)])
      refine Fini.st (fun _ k => XS.iconst X_177_1.here hx rfl (hb hby at_184) k) ?_
      show Fini p e below s _ _ _ T_177_1 (mkF m 185 #[.val (.int p0), .val (.int p1), .val (.int p2), .val (.int p3), .val (.int (p0 &&& (3 : Int32))), .val (.ref b1), .val (.int z27_0_s0), .val (.long ((0 : Int64) + p3.toInt64)), .second] [(.int (0 : Int32)), (.int z27_0_s0)])
      exact B185_1 T_177_1 _ _ (X_177_1.more (cells' := 2) (slots' := 4100) (by decide) (by decide)) e_177_1 b1 b2 (0 : Int32) z27_0_s0 N_177_1 H177_1_Z H177_1_E_b1 H177_1_F_b1_objects H177_1_F_b1_size H177_1_F_b1_values H177_1_A_b2 ne177_1_b1_b2 ge177_1_b1 ge177_1_b2 hv74
  have B177_2 : ∀ (T_177_2 : State) (h_177_2 : Heap) (locs : List Loc) (X_177_2 : Stand p l e room_1 s m #[(.int p0), (.int p1), (.int p2), (.int p3)] below meth c T_177_2 locs 2 4100) (e_177_2 : T_177_2.heap = h_177_2) (b1 : Addr) (b2 : Addr) (z177_2_s0 : Int32) (z136_1_f_F_b1_values : Int64) (z136_1_l6 : Int32) (z136_1_l7 : Int64) (N_177_2 : Fr n0 locs) (H177_2_Z : n0 ≤ h_177_2.size) (H177_2_E_b1 : Exa Z h_177_2 b1 "com/example/mapcodex/mapcodex/pbf/ObjectBatch") (H177_2_F_b1_objects : Fld Z h_177_2 b1 "com/example/mapcodex/mapcodex/pbf/ObjectBatch" "objects" "[Ljava/lang/Object;" (.ref b2)) (H177_2_F_b1_size : Fld Z h_177_2 b1 "com/example/mapcodex/mapcodex/pbf/ObjectBatch" "size" "I" (.int (2 : Int32))) (H177_2_F_b1_values : Fld Z h_177_2 b1 "com/example/mapcodex/mapcodex/pbf/ObjectBatch" "values" "J" (.long (z136_1_f_F_b1_values + p3.toInt64))) (H177_2_A_b2 : AryR Z h_177_2 b2 "java/lang/Object" (4096 : Int32) (upd (upd (fun _ => .null) 0 .null) 1 .null)) (ne177_2_b1_b2 : b1 ≠ b2) (ge177_2_b1 : n0 ≤ b1) (ge177_2_b2 : n0 ≤ b2), f0 p0 p1 p2 p3 = f0_177_2 p0 p1 p2 p3 z177_2_s0 z136_1_f_F_b1_values z136_1_l6 z136_1_l7 → Fini p e below s (fun v h' L => v = some (.int (f0 p0 p1 p2 p3)) ∧ Fr n0 L) (Room.cells room_1) (Room.slots room_1) T_177_2 (mkF m 177 #[.val (.int p0), .val (.int p1), .val (.int p2), .val (.int p3), .val (.int (p0 &&& (3 : Int32))), .val (.ref b1), .val (.int z136_1_l6), .val (.long (z136_1_l7 + p3.toInt64)), .second] [(.int z177_2_s0), (.int (f3 (2 : Int32) (z136_1_f_F_b1_values + p3.toInt64))), (.int z136_1_l6)]) := by
    intro T_177_2 h_177_2 locs X_177_2 e_177_2 b1 b2 z177_2_s0 z136_1_f_F_b1_values z136_1_l6 z136_1_l7 N_177_2 H177_2_Z H177_2_E_b1 H177_2_F_b1_objects H177_2_F_b1_size H177_2_F_b1_values H177_2_A_b2 ne177_2_b1_b2 ge177_2_b1 ge177_2_b2 hv_177_2
    by_cases c75 : (f3 (2 : Int32) (z136_1_f_F_b1_values + p3.toInt64)) = z177_2_s0
    · have hv76 := hv_177_2.trans (if_pos c75)
      refine Fini.st (fun _ k => XS.icmpNo X_177_2.here hx rfl (hb hby at_177) rfl (XT.ii_ne_f c75) k) ?_
      show Fini p e below s _ _ _ T_177_2 (mkF m 180 #[.val (.int p0), .val (.int p1), .val (.int p2), .val (.int p3), .val (.int (p0 &&& (3 : Int32))), .val (.ref b1), .val (.int z136_1_l6), .val (.long (z136_1_l7 + p3.toInt64)), .second] [(.int z136_1_l6)])
      refine Fini.st (fun _ k => XS.iconst X_177_2.here hx rfl (hb hby at_180) k) ?_
      show Fini p e below s _ _ _ T_177_2 (mkF m 181 #[.val (.int p0), .val (.int p1), .val (.int p2), .val (.int p3), .val (.int (p0 &&& (3 : Int32))), .val (.ref b1), .val (.int z136_1_l6), .val (.long (z136_1_l7 + p3.toInt64)), .second] [(.int (1 : Int32)), (.int z136_1_l6)])
      refine Fini.st (fun _ k => XS.goto X_177_2.here hx rfl (pc0 := 181) (pc' := 185) rfl (hb hby at_181) (by decide) (by decide) k) ?_
      show Fini p e below s _ _ _ T_177_2 (mkF m 185 #[.val (.int p0), .val (.int p1), .val (.int p2), .val (.int p3), .val (.int (p0 &&& (3 : Int32))), .val (.ref b1), .val (.int z136_1_l6), .val (.long (z136_1_l7 + p3.toInt64)), .second] [(.int (1 : Int32)), (.int z136_1_l6)])
      exact B185_2 T_177_2 _ _ (X_177_2.more (cells' := 2) (slots' := 4100) (by decide) (by decide)) e_177_2 b1 b2 (1 : Int32) z136_1_f_F_b1_values z136_1_l6 z136_1_l7 N_177_2 H177_2_Z H177_2_E_b1 H177_2_F_b1_objects H177_2_F_b1_size H177_2_F_b1_values H177_2_A_b2 ne177_2_b1_b2 ge177_2_b1 ge177_2_b2 hv76
    · have hv77 := hv_177_2.trans (if_neg c75)
      refine Fini.st (fun _ k => XS.icmpYes X_177_2.here hx rfl (pc0 := 177) (pc' := 184) rfl (hb hby at_177) rfl (XT.ii_ne_t c75) (by decide) (by decide) k) ?_
      show Fini p e below s _ _ _ T_177_2 (mkF m 184 #[.val (.int p0), .val (.int p1), .val (.int p2), .val (.int p3), .val (.int (p0 &&& (3 : Int32))), .val (.ref b1), .val (.int z136_1_l6), .val (.long (z136_1_l7 + p3.toInt64)), .second] [(.int z136_1_l6)])
      refine Fini.st (fun _ k => XS.iconst X_177_2.here hx rfl (hb hby at_184) k) ?_
      show Fini p e below s _ _ _ T_177_2 (mkF m 185 #[.val (.int p0), .val (.int p1), .val (.int p2), .val (.int p3), .val (.int (p0 &&& (3 : Int32))), .val (.ref b1), .val (.int z136_1_l6), .val (.long (z136_1_l7 + p3.toInt64)), .second] [(.int (0 : Int32)), (.int z136_1_l6)])
      exact B185_2 T_177_2 _ _ (X_177_2.more (cells' := 2) (slots' := 4100) (by decide) (by decide)) e_177_2 b1 b2 (0 : Int32) z136_1_f_F_b1_values z136_1_l6 z136_1_l7 N_177_2 H177_2_Z H177_2_E_b1 H177_2_F_b1_objects H177_2_F_b1_size H177_2_F_b1_values H177_2_A_b2 ne177_2_b1_b2 ge177_2_b1 ge177_2_b2 hv77
  have B177_3 : ∀ (T_177_3 : State) (h_177_3 : Heap) (locs : List Loc) (X_177_3 : Stand p l e room_1 s m #[(.int p0), (.int p1), (.int p2), (.int p3)] below meth c T_177_3 locs 2 4100) (e_177_3 : T_177_3.heap = h_177_3) (b1 : Addr) (b2 : Addr) (z177_3_s0 : Int32) (z133_2_s0 : Int32) (z27_0_s0 : Int32) (z81_1_s0 : Int32) (N_177_3 : Fr n0 locs) (H177_3_Z : n0 ≤ h_177_3.size) (H177_3_E_b1 : Exa Z h_177_3 b1 "com/example/mapcodex/mapcodex/pbf/ObjectBatch") (H177_3_F_b1_objects : Fld Z h_177_3 b1 "com/example/mapcodex/mapcodex/pbf/ObjectBatch" "objects" "[Ljava/lang/Object;" (.ref b2)) (H177_3_F_b1_size : Fld Z h_177_3 b1 "com/example/mapcodex/mapcodex/pbf/ObjectBatch" "size" "I" (.int (3 : Int32))) (H177_3_F_b1_values : Fld Z h_177_3 b1 "com/example/mapcodex/mapcodex/pbf/ObjectBatch" "values" "J" (.long ((((0 : Int64) + p1.toInt64) + p2.toInt64) + p3.toInt64))) (H177_3_A_b2 : AryR Z h_177_3 b2 "java/lang/Object" (4096 : Int32) (upd (upd (upd (fun _ => .null) 0 .null) 1 .null) 2 .null)) (ne177_3_b1_b2 : b1 ≠ b2) (ge177_3_b1 : n0 ≤ b1) (ge177_3_b2 : n0 ≤ b2), f0 p0 p1 p2 p3 = f0_177_3 p0 p1 p2 p3 z177_3_s0 z133_2_s0 z27_0_s0 z81_1_s0 → Fini p e below s (fun v h' L => v = some (.int (f0 p0 p1 p2 p3)) ∧ Fr n0 L) (Room.cells room_1) (Room.slots room_1) T_177_3 (mkF m 177 #[.val (.int p0), .val (.int p1), .val (.int p2), .val (.int p3), .val (.int (p0 &&& (3 : Int32))), .val (.ref b1), .val (.int ((z27_0_s0 &&& z81_1_s0) &&& z133_2_s0)), .val (.long ((((0 : Int64) + p1.toInt64) + p2.toInt64) + p3.toInt64)), .second] [(.int z177_3_s0), (.int (f3 (3 : Int32) ((((0 : Int64) + p1.toInt64) + p2.toInt64) + p3.toInt64))), (.int ((z27_0_s0 &&& z81_1_s0) &&& z133_2_s0))]) := by
    intro T_177_3 h_177_3 locs X_177_3 e_177_3 b1 b2 z177_3_s0 z133_2_s0 z27_0_s0 z81_1_s0 N_177_3 H177_3_Z H177_3_E_b1 H177_3_F_b1_objects H177_3_F_b1_size H177_3_F_b1_values H177_3_A_b2 ne177_3_b1_b2 ge177_3_b1 ge177_3_b2 hv_177_3
    by_cases c78 : (f3 (3 : Int32) ((((0 : Int64) + p1.toInt64) + p2.toInt64) + p3.toInt64)) = z177_3_s0
    · have hv79 := hv_177_3.trans (if_pos c78)
      refine Fini.st (fun _ k => XS.icmpNo X_177_3.here hx rfl (hb hby at_177) rfl (XT.ii_ne_f c78) k) ?_
      show Fini p e below s _ _ _ T_177_3 (mkF m 180 #[.val (.int p0), .val (.int p1), .val (.int p2), .val (.int p3), .val (.int (p0 &&& (3 : Int32))), .val (.ref b1), .val (.int ((z27_0_s0 &&& z81_1_s0) &&& z133_2_s0)), .val (.long ((((0 : Int64) + p1.toInt64) + p2.toInt64) + p3.toInt64)), .second] [(.int ((z27_0_s0 &&& z81_1_s0) &&& z133_2_s0))])
      refine Fini.st (fun _ k => XS.iconst X_177_3.here hx rfl (hb hby at_180) k) ?_
      show Fini p e below s _ _ _ T_177_3 (mkF m 181 #[.val (.int p0), .val (.int p1), .val (.int p2), .val (.int p3), .val (.int (p0 &&& (3 : Int32))), .val (.ref b1), .val (.int ((z27_0_s0 &&& z81_1_s0) &&& z133_2_s0)), .val (.long ((((0 : Int64) + p1.toInt64) + p2.toInt64) + p3.toInt64)), .second] [(.int (1 : Int32)), (.int ((z27_0_s0 &&& z81_1_s0) &&& z133_2_s0))])
      refine Fini.st (fun _ k => XS.goto X_177_3.here hx rfl (pc0 := 181) (pc' := 185) rfl (hb hby at_181) (by decide) (by decide) k) ?_
      show Fini p e below s _ _ _ T_177_3 (mkF m 185 #[.val (.int p0), .val (.int p1), .val (.int p2), .val (.int p3), .val (.int (p0 &&& (3 : Int32))), .val (.ref b1), .val (.int ((z27_0_s0 &&& z81_1_s0) &&& z133_2_s0)), .val (.long ((((0 : Int64) + p1.toInt64) + p2.toInt64) + p3.toInt64)), .second] [(.int (1 : Int32)), (.int ((z27_0_s0 &&& z81_1_s0) &&& z133_2_s0))])
      exact B185_3 T_177_3 _ _ (X_177_3.more (cells' := 2) (slots' := 4100) (by decide) (by decide)) e_177_3 b1 b2 (1 : Int32) z133_2_s0 z27_0_s0 z81_1_s0 N_177_3 H177_3_Z H177_3_E_b1 H177_3_F_b1_objects H177_3_F_b1_size H177_3_F_b1_values H177_3_A_b2 ne177_3_b1_b2 ge177_3_b1 ge177_3_b2 hv79
    · have hv80 := hv_177_3.trans (if_neg c78)
      refine Fini.st (fun _ k => XS.icmpYes X_177_3.here hx rfl (pc0 := 177) (pc' := 184) rfl (hb hby at_177) rfl (XT.ii_ne_t c78) (by decide) (by decide) k) ?_
      show Fini p e below s _ _ _ T_177_3 (mkF m 184 #[.val (.int p0), .val (.int p1), .val (.int p2), .val (.int p3), .val (.int (p0 &&& (3 : Int32))), .val (.ref b1), .val (.int ((z27_0_s0 &&& z81_1_s0) &&& z133_2_s0)), .val (.long ((((0 : Int64) + p1.toInt64) + p2.toInt64) + p3.toInt64)), .second] [(.int ((z27_0_s0 &&& z81_1_s0) &&& z133_2_s0))])
      refine Fini.st (fun _ k => XS.iconst X_177_3.here hx rfl (hb hby at_184) k) ?_
      show Fini p e below s _ _ _ T_177_3 (mkF m 185 #[.val (.int p0), .val (.int p1), .val (.int p2), .val (.int p3), .val (.int (p0 &&& (3 : Int32))), .val (.ref b1), .val (.int ((z27_0_s0 &&& z81_1_s0) &&& z133_2_s0)), .val (.long ((((0 : Int64) + p1.toInt64) + p2.toInt64) + p3.toInt64)), .second] [(.int (0 : Int32)), (.int ((z27_0_s0 &&& z81_1_s0) &&& z133_2_s0))])
      exact B185_3 T_177_3 _ _ (X_177_3.more (cells' := 2) (slots' := 4100) (by decide) (by decide)) e_177_3 b1 b2 (0 : Int32) z133_2_s0 z27_0_s0 z81_1_s0 N_177_3 H177_3_Z H177_3_E_b1 H177_3_F_b1_objects H177_3_F_b1_size H177_3_F_b1_values H177_3_A_b2 ne177_3_b1_b2 ge177_3_b1 ge177_3_b2 hv80
  have B136_0 : ∀ (T_136_0 : State) (h_136_0 : Heap) (locs : List Loc) (X_136_0 : Stand p l e room_1 s m #[(.int p0), (.int p1), (.int p2), (.int p3)] below meth c T_136_0 locs 2 4100) (e_136_0 : T_136_0.heap = h_136_0) (b1 : Addr) (b2 : Addr) (z27_0_s0 : Int32) (N_136_0 : Fr n0 locs) (H136_0_Z : n0 ≤ h_136_0.size) (H136_0_E_b1 : Exa Z h_136_0 b1 "com/example/mapcodex/mapcodex/pbf/ObjectBatch") (H136_0_F_b1_objects : Fld Z h_136_0 b1 "com/example/mapcodex/mapcodex/pbf/ObjectBatch" "objects" "[Ljava/lang/Object;" (.ref b2)) (H136_0_F_b1_size : Fld Z h_136_0 b1 "com/example/mapcodex/mapcodex/pbf/ObjectBatch" "size" "I" (.int (0 : Int32))) (H136_0_F_b1_values : Fld Z h_136_0 b1 "com/example/mapcodex/mapcodex/pbf/ObjectBatch" "values" "J" (.long (0 : Int64))) (H136_0_A_b2 : AryR Z h_136_0 b2 "java/lang/Object" (4096 : Int32) (fun _ => .null)) (ne136_0_b1_b2 : b1 ≠ b2) (ge136_0_b1 : n0 ≤ b1) (ge136_0_b2 : n0 ≤ b2), f0 p0 p1 p2 p3 = f0_136_0 p0 p1 p2 p3 z27_0_s0 → Fini p e below s (fun v h' L => v = some (.int (f0 p0 p1 p2 p3)) ∧ Fr n0 L) (Room.cells room_1) (Room.slots room_1) T_136_0 (mkF m 136 #[.val (.int p0), .val (.int p1), .val (.int p2), .val (.int p3), .val (.int (p0 &&& (3 : Int32))), .val (.ref b1), .val (.int z27_0_s0), .val (.long (0 : Int64)), .second] []) := by
    intro T_136_0 h_136_0 locs X_136_0 e_136_0 b1 b2 z27_0_s0 N_136_0 H136_0_Z H136_0_E_b1 H136_0_F_b1_objects H136_0_F_b1_size H136_0_F_b1_values H136_0_A_b2 ne136_0_b1_b2 ge136_0_b1 ge136_0_b2 hv_136_0
    refine Fini.st (fun _ k => XS.iload X_136_0.here hx rfl (hb hby at_136) rfl k) ?_
    show Fini p e below s _ _ _ T_136_0 (mkF m 138 #[.val (.int p0), .val (.int p1), .val (.int p2), .val (.int p3), .val (.int (p0 &&& (3 : Int32))), .val (.ref b1), .val (.int z27_0_s0), .val (.long (0 : Int64)), .second] [(.int (p0 &&& (3 : Int32)))])
    refine Fini.st (fun _ k => XS.iconst X_136_0.here hx rfl (hb hby at_138) k) ?_
    show Fini p e below s _ _ _ T_136_0 (mkF m 139 #[.val (.int p0), .val (.int p1), .val (.int p2), .val (.int p3), .val (.int (p0 &&& (3 : Int32))), .val (.ref b1), .val (.int z27_0_s0), .val (.long (0 : Int64)), .second] [(.int (3 : Int32)), (.int (p0 &&& (3 : Int32)))])
    by_cases c45 : (p0 &&& (3 : Int32)) < (3 : Int32)
    · have hv46 := hv_136_0.trans (if_pos c45)
      refine Fini.st (fun _ k => XS.icmpYes X_136_0.here hx rfl (pc0 := 139) (pc' := 188) rfl (hb hby at_139) rfl (XT.ii_lt_t c45) (by decide) (by decide) k) ?_
      show Fini p e below s _ _ _ T_136_0 (mkF m 188 #[.val (.int p0), .val (.int p1), .val (.int p2), .val (.int p3), .val (.int (p0 &&& (3 : Int32))), .val (.ref b1), .val (.int z27_0_s0), .val (.long (0 : Int64)), .second] [])
      refine Fini.st (fun _ k => XS.iload X_136_0.here hx rfl (hb hby at_188) rfl k) ?_
      show Fini p e below s _ _ _ T_136_0 (mkF m 190 #[.val (.int p0), .val (.int p1), .val (.int p2), .val (.int p3), .val (.int (p0 &&& (3 : Int32))), .val (.ref b1), .val (.int z27_0_s0), .val (.long (0 : Int64)), .second] [(.int z27_0_s0)])
      exact Fini.retN X_136_0 hx hlk (t := .boolean) Bd.returns (by simp) (hb hby at_190) rfl (by decide) (by decide) ⟨congrArg (fun z => some (Value.int z)) hv46.symm, N_136_0⟩
    · have hv47 := hv_136_0.trans (if_neg c45)
      refine Fini.st (fun _ k => XS.icmpNo X_136_0.here hx rfl (hb hby at_139) rfl (XT.ii_lt_f c45) k) ?_
      show Fini p e below s _ _ _ T_136_0 (mkF m 142 #[.val (.int p0), .val (.int p1), .val (.int p2), .val (.int p3), .val (.int (p0 &&& (3 : Int32))), .val (.ref b1), .val (.int z27_0_s0), .val (.long (0 : Int64)), .second] [])
      refine Fini.st (fun _ k => XS.aload X_136_0.here hx rfl (hb hby at_142) rfl rfl k) ?_
      show Fini p e below s _ _ _ T_136_0 (mkF m 144 #[.val (.int p0), .val (.int p1), .val (.int p2), .val (.int p3), .val (.int (p0 &&& (3 : Int32))), .val (.ref b1), .val (.int z27_0_s0), .val (.long (0 : Int64)), .second] [(.ref b1)])
      refine Fini.st (fun _ k => XS.aconstNull X_136_0.here hx rfl (hb hby at_144) k) ?_
      show Fini p e below s _ _ _ T_136_0 (mkF m 145 #[.val (.int p0), .val (.int p1), .val (.int p2), .val (.int p3), .val (.int (p0 &&& (3 : Int32))), .val (.ref b1), .val (.int z27_0_s0), .val (.long (0 : Int64)), .second] [.null, (.ref b1)])
      refine Fini.st (fun _ k => XS.iloadN X_136_0.here hx rfl (hb hby at_145) rfl k) ?_
      show Fini p e below s _ _ _ T_136_0 (mkF m 146 #[.val (.int p0), .val (.int p1), .val (.int p2), .val (.int p3), .val (.int (p0 &&& (3 : Int32))), .val (.ref b1), .val (.int z27_0_s0), .val (.long (0 : Int64)), .second] [(.int p3), .null, (.ref b1)])
      obtain ⟨v48, T48, L48, X48, hQ48, st48⟩ := callV X_136_0 hx hZ hown (hw _ (List.mem_of_getElem? (i := 23) rfl)) (hw _ (List.mem_of_getElem? (i := 24) rfl)) (hw _ (List.mem_of_getElem? (i := 26) rfl)) (hw _ (List.mem_of_getElem? (i := 25) rfl)) (hw _ (List.mem_of_getElem? (i := 2) rfl)) (hw _ (List.mem_of_getElem? (i := 27) rfl)) (notFace_of_selects (args := #[]) (mvT hZ (hw _ (List.mem_of_getElem? (i := 26) rfl)))) H136_0_E_b1 (by decide) (rm4 l Z a0 hw [] b1 p3 b2 (0 : Int32) (0 : Int64) (fun _ => .null) h_136_0 n0 H136_0_Z H136_0_E_b1 H136_0_F_b1_objects H136_0_F_b1_size H136_0_F_b1_values H136_0_A_b2 ge136_0_b1 ge136_0_b2 ne136_0_b1_b2 (⟨by decide, by decide⟩)) e_136_0 (W := 0) (by decide) (by decide) (by decide) (by decide) (g := (mkF m 146 #[.val (.int p0), .val (.int p1), .val (.int p2), .val (.int p3), .val (.int (p0 &&& (3 : Int32))), .val (.ref b1), .val (.int z27_0_s0), .val (.long (0 : Int64)), .second] [(.int p3), .null, (.ref b1)])) rfl (by rw [hml]; rfl) (argsL := [.null, (.int p3)]) (rest := []) rfl (lenOf pd_2 rfl) rfl (by show 2 * 0 + _ ≤ _; exact Nat.le_of_eq rfl) (hb hby at_146)
      obtain ⟨rfl, Nq48, K48, Fo48, Ar48, Fs48, Fv48⟩ := hQ48
      have N48 := Fr.app N_136_0 Nq48
      refine Fini.st st48 ?_
      show Fini p e below s _ _ _ T48 (mkF m 149 #[.val (.int p0), .val (.int p1), .val (.int p2), .val (.int p3), .val (.int (p0 &&& (3 : Int32))), .val (.ref b1), .val (.int z27_0_s0), .val (.long (0 : Int64)), .second] [])
      refine Fini.st (fun _ k => XS.lload X48.here hx rfl (hb hby at_149) rfl k) ?_
      show Fini p e below s _ _ _ T48 (mkF m 151 #[.val (.int p0), .val (.int p1), .val (.int p2), .val (.int p3), .val (.int (p0 &&& (3 : Int32))), .val (.ref b1), .val (.int z27_0_s0), .val (.long (0 : Int64)), .second] [(.long (0 : Int64))])
      refine Fini.st (fun _ k => XS.iloadN X48.here hx rfl (hb hby at_151) rfl k) ?_
      show Fini p e below s _ _ _ T48 (mkF m 152 #[.val (.int p0), .val (.int p1), .val (.int p2), .val (.int p3), .val (.int (p0 &&& (3 : Int32))), .val (.ref b1), .val (.int z27_0_s0), .val (.long (0 : Int64)), .second] [(.int p3), (.long (0 : Int64))])
      refine Fini.st (fun _ k => XS.i2l X48.here hx rfl (hb hby at_152) rfl k) ?_
      show Fini p e below s _ _ _ T48 (mkF m 153 #[.val (.int p0), .val (.int p1), .val (.int p2), .val (.int p3), .val (.int (p0 &&& (3 : Int32))), .val (.ref b1), .val (.int z27_0_s0), .val (.long (0 : Int64)), .second] [(.long p3.toInt64), (.long (0 : Int64))])
      refine Fini.st (fun _ k => XS.ladd X48.here hx rfl (hb hby at_153) rfl k) ?_
      show Fini p e below s _ _ _ T48 (mkF m 154 #[.val (.int p0), .val (.int p1), .val (.int p2), .val (.int p3), .val (.int (p0 &&& (3 : Int32))), .val (.ref b1), .val (.int z27_0_s0), .val (.long (0 : Int64)), .second] [(.long ((0 : Int64) + p3.toInt64))])
      refine Fini.st (fun _ k => XS.lstore X48.here hx rfl (hb hby at_154) rfl (l' := #[.val (.int p0), .val (.int p1), .val (.int p2), .val (.int p3), .val (.int (p0 &&& (3 : Int32))), .val (.ref b1), .val (.int z27_0_s0), .val (.long ((0 : Int64) + p3.toInt64)), .second]) rfl k) ?_
      show Fini p e below s _ _ _ T48 (mkF m 156 #[.val (.int p0), .val (.int p1), .val (.int p2), .val (.int p3), .val (.int (p0 &&& (3 : Int32))), .val (.ref b1), .val (.int z27_0_s0), .val (.long ((0 : Int64) + p3.toInt64)), .second] [])
      refine Fini.st (fun _ k => XS.iload X48.here hx rfl (hb hby at_156) rfl k) ?_
      show Fini p e below s _ _ _ T48 (mkF m 158 #[.val (.int p0), .val (.int p1), .val (.int p2), .val (.int p3), .val (.int (p0 &&& (3 : Int32))), .val (.ref b1), .val (.int z27_0_s0), .val (.long ((0 : Int64) + p3.toInt64)), .second] [(.int z27_0_s0)])
      refine Fini.st (fun _ k => XS.aload X48.here hx rfl (hb hby at_158) rfl rfl k) ?_
      show Fini p e below s _ _ _ T48 (mkF m 160 #[.val (.int p0), .val (.int p1), .val (.int p2), .val (.int p3), .val (.int (p0 &&& (3 : Int32))), .val (.ref b1), .val (.int z27_0_s0), .val (.long ((0 : Int64) + p3.toInt64)), .second] [(.ref b1), (.int z27_0_s0)])
      have Ex_50 : Exa Z T48.heap b1 "com/example/mapcodex/mapcodex/pbf/ObjectBatch" := (H136_0_E_b1.keep K48)
      obtain ⟨T49, X49, e49, st49⟩ := pureV X48 hx hZ hown (hw _ (List.mem_of_getElem? (i := 13) rfl)) (hw _ (List.mem_of_getElem? (i := 14) rfl)) (hw _ (List.mem_of_getElem? (i := 16) rfl)) (hw _ (List.mem_of_getElem? (i := 15) rfl)) (hw _ (List.mem_of_getElem? (i := 2) rfl)) (hw _ (List.mem_of_getElem? (i := 17) rfl)) (notFace_of_selects (args := #[]) (mvT hZ (hw _ (List.mem_of_getElem? (i := 16) rfl)))) Ex_50 (by decide) (rm3 l Z a0 hw [] b1 (1 : Int32) ((0 : Int64) + p3.toInt64) T48.heap Fs48 Fv48) rfl (W := 1) (by decide) (by decide) (by decide) (by decide) (g := (mkF m 160 #[.val (.int p0), .val (.int p1), .val (.int p2), .val (.int p3), .val (.int (p0 &&& (3 : Int32))), .val (.ref b1), .val (.int z27_0_s0), .val (.long ((0 : Int64) + p3.toInt64)), .second] [(.ref b1), (.int z27_0_s0)])) rfl (by rw [hml]; rfl) (argsL := []) (rest := [(.int z27_0_s0)]) rfl (lenOf pd_1 rfl) rfl (by show 2 * 0 + _ ≤ _; exact Nat.le_of_eq rfl) (hb hby at_160)
      refine Fini.st st49 ?_
      show Fini p e below s _ _ _ T49 (mkF m 163 #[.val (.int p0), .val (.int p1), .val (.int p2), .val (.int p3), .val (.int (p0 &&& (3 : Int32))), .val (.ref b1), .val (.int z27_0_s0), .val (.long ((0 : Int64) + p3.toInt64)), .second] [(.int (f3 (1 : Int32) ((0 : Int64) + p3.toInt64))), (.int z27_0_s0)])
      refine Fini.st (fun _ k => XS.lload X49.here hx rfl (hb hby at_163) rfl k) ?_
      show Fini p e below s _ _ _ T49 (mkF m 165 #[.val (.int p0), .val (.int p1), .val (.int p2), .val (.int p3), .val (.int (p0 &&& (3 : Int32))), .val (.ref b1), .val (.int z27_0_s0), .val (.long ((0 : Int64) + p3.toInt64)), .second] [(.long ((0 : Int64) + p3.toInt64)), (.int (f3 (1 : Int32) ((0 : Int64) + p3.toInt64))), (.int z27_0_s0)])
      refine Fini.st (fun _ k => X49.ldc2J hx hown (mvT hZ (hw _ (List.mem_of_getElem? (i := 28) rfl))) rfl (hb hby at_165) k) ?_
      show Fini p e below s _ _ _ T49 (mkF m 168 #[.val (.int p0), .val (.int p1), .val (.int p2), .val (.int p3), .val (.int (p0 &&& (3 : Int32))), .val (.ref b1), .val (.int z27_0_s0), .val (.long ((0 : Int64) + p3.toInt64)), .second] [(.long (16384 : Int64)), (.long ((0 : Int64) + p3.toInt64)), (.int (f3 (1 : Int32) ((0 : Int64) + p3.toInt64))), (.int z27_0_s0)])
      refine Fini.st (fun _ k => XT.lcmp X49.here hx rfl (hb hby at_168) rfl k) ?_
      show Fini p e below s _ _ _ T49 (mkF m 169 #[.val (.int p0), .val (.int p1), .val (.int p2), .val (.int p3), .val (.int (p0 &&& (3 : Int32))), .val (.ref b1), .val (.int z27_0_s0), .val (.long ((0 : Int64) + p3.toInt64)), .second] [(.int (XT.cmpL ((0 : Int64) + p3.toInt64) (16384 : Int64))), (.int (f3 (1 : Int32) ((0 : Int64) + p3.toInt64))), (.int z27_0_s0)])
      by_cases c51 : ((0 : Int64) + p3.toInt64) < (16384 : Int64)
      · have hv52 := hv47.trans (if_pos c51)
        refine Fini.st (fun _ k => XS.ifYes X49.here hx rfl (pc0 := 169) (pc' := 176) rfl (hb hby at_169) rfl (XT.ll_lt_t c51) (by decide) (by decide) k) ?_
        show Fini p e below s _ _ _ T49 (mkF m 176 #[.val (.int p0), .val (.int p1), .val (.int p2), .val (.int p3), .val (.int (p0 &&& (3 : Int32))), .val (.ref b1), .val (.int z27_0_s0), .val (.long ((0 : Int64) + p3.toInt64)), .second] [(.int (f3 (1 : Int32) ((0 : Int64) + p3.toInt64))), (.int z27_0_s0)])
        refine Fini.st (fun _ k => XS.iconst X49.here hx rfl (hb hby at_176) k) ?_
        show Fini p e below s _ _ _ T49 (mkF m 177 #[.val (.int p0), .val (.int p1), .val (.int p2), .val (.int p3), .val (.int (p0 &&& (3 : Int32))), .val (.ref b1), .val (.int z27_0_s0), .val (.long ((0 : Int64) + p3.toInt64)), .second] [(.int (0 : Int32)), (.int (f3 (1 : Int32) ((0 : Int64) + p3.toInt64))), (.int z27_0_s0)])
        have Zs_81 : n0 ≤ T48.heap.size := (Nat.le_trans H136_0_Z K48.1)
        exact B177_1 T49 _ _ (X49.more (cells' := 2) (slots' := 4100) (by decide) (by decide)) e49 b1 b2 (0 : Int32) z27_0_s0 N48 Zs_81 Ex_50 Fo48 Fs48 Fv48 Ar48 ne136_0_b1_b2 ge136_0_b1 ge136_0_b2 hv52
      · have hv53 := hv47.trans (if_neg c51)
        refine Fini.st (fun _ k => XS.ifNo X49.here hx rfl (hb hby at_169) rfl (XT.ll_lt_f c51) k) ?_
        show Fini p e below s _ _ _ T49 (mkF m 172 #[.val (.int p0), .val (.int p1), .val (.int p2), .val (.int p3), .val (.int (p0 &&& (3 : Int32))), .val (.ref b1), .val (.int z27_0_s0), .val (.long ((0 : Int64) + p3.toInt64)), .second] [(.int (f3 (1 : Int32) ((0 : Int64) + p3.toInt64))), (.int z27_0_s0)])
        refine Fini.st (fun _ k => XS.iconst X49.here hx rfl (hb hby at_172) k) ?_
        show Fini p e below s _ _ _ T49 (mkF m 173 #[.val (.int p0), .val (.int p1), .val (.int p2), .val (.int p3), .val (.int (p0 &&& (3 : Int32))), .val (.ref b1), .val (.int z27_0_s0), .val (.long ((0 : Int64) + p3.toInt64)), .second] [(.int (1 : Int32)), (.int (f3 (1 : Int32) ((0 : Int64) + p3.toInt64))), (.int z27_0_s0)])
        refine Fini.st (fun _ k => XS.goto X49.here hx rfl (pc0 := 173) (pc' := 177) rfl (hb hby at_173) (by decide) (by decide) k) ?_
        show Fini p e below s _ _ _ T49 (mkF m 177 #[.val (.int p0), .val (.int p1), .val (.int p2), .val (.int p3), .val (.int (p0 &&& (3 : Int32))), .val (.ref b1), .val (.int z27_0_s0), .val (.long ((0 : Int64) + p3.toInt64)), .second] [(.int (1 : Int32)), (.int (f3 (1 : Int32) ((0 : Int64) + p3.toInt64))), (.int z27_0_s0)])
        have Zs_82 : n0 ≤ T48.heap.size := (Nat.le_trans H136_0_Z K48.1)
        exact B177_1 T49 _ _ (X49.more (cells' := 2) (slots' := 4100) (by decide) (by decide)) e49 b1 b2 (1 : Int32) z27_0_s0 N48 Zs_82 Ex_50 Fo48 Fs48 Fv48 Ar48 ne136_0_b1_b2 ge136_0_b1 ge136_0_b2 hv53
  have B136_1 : ∀ (T_136_1 : State) (h_136_1 : Heap) (locs : List Loc) (X_136_1 : Stand p l e room_1 s m #[(.int p0), (.int p1), (.int p2), (.int p3)] below meth c T_136_1 locs 2 4100) (e_136_1 : T_136_1.heap = h_136_1) (b1 : Addr) (b2 : Addr) (z136_1_l6 : Int32) (z136_1_l7 : Int64) (z136_1_f_F_b1_values : Int64) (N_136_1 : Fr n0 locs) (H136_1_Z : n0 ≤ h_136_1.size) (H136_1_E_b1 : Exa Z h_136_1 b1 "com/example/mapcodex/mapcodex/pbf/ObjectBatch") (H136_1_F_b1_objects : Fld Z h_136_1 b1 "com/example/mapcodex/mapcodex/pbf/ObjectBatch" "objects" "[Ljava/lang/Object;" (.ref b2)) (H136_1_F_b1_size : Fld Z h_136_1 b1 "com/example/mapcodex/mapcodex/pbf/ObjectBatch" "size" "I" (.int (1 : Int32))) (H136_1_F_b1_values : Fld Z h_136_1 b1 "com/example/mapcodex/mapcodex/pbf/ObjectBatch" "values" "J" (.long z136_1_f_F_b1_values)) (H136_1_A_b2 : AryR Z h_136_1 b2 "java/lang/Object" (4096 : Int32) (upd (fun _ => .null) 0 .null)) (ne136_1_b1_b2 : b1 ≠ b2) (ge136_1_b1 : n0 ≤ b1) (ge136_1_b2 : n0 ≤ b2), f0 p0 p1 p2 p3 = f0_136_1 p0 p1 p2 p3 z136_1_l6 z136_1_l7 z136_1_f_F_b1_values → Fini p e below s (fun v h' L => v = some (.int (f0 p0 p1 p2 p3)) ∧ Fr n0 L) (Room.cells room_1) (Room.slots room_1) T_136_1 (mkF m 136 #[.val (.int p0), .val (.int p1), .val (.int p2), .val (.int p3), .val (.int (p0 &&& (3 : Int32))), .val (.ref b1), .val (.int z136_1_l6), .val (.long z136_1_l7), .second] []) := by
    intro T_136_1 h_136_1 locs X_136_1 e_136_1 b1 b2 z136_1_l6 z136_1_l7 z136_1_f_F_b1_values N_136_1 H136_1_Z H136_1_E_b1 H136_1_F_b1_objects H136_1_F_b1_size H136_1_F_b1_values H136_1_A_b2 ne136_1_b1_b2 ge136_1_b1 ge136_1_b2 hv_136_1
    refine Fini.st (fun _ k => XS.iload X_136_1.here hx rfl (hb hby at_136) rfl k) ?_
    show Fini p e below s _ _ _ T_136_1 (mkF m 138 #[.val (.int p0), .val (.int p1), .val (.int p2), .val (.int p3), .val (.int (p0 &&& (3 : Int32))), .val (.ref b1), .val (.int z136_1_l6), .val (.long z136_1_l7), .second] [(.int (p0 &&& (3 : Int32)))])
    refine Fini.st (fun _ k => XS.iconst X_136_1.here hx rfl (hb hby at_138) k) ?_
    show Fini p e below s _ _ _ T_136_1 (mkF m 139 #[.val (.int p0), .val (.int p1), .val (.int p2), .val (.int p3), .val (.int (p0 &&& (3 : Int32))), .val (.ref b1), .val (.int z136_1_l6), .val (.long z136_1_l7), .second] [(.int (3 : Int32)), (.int (p0 &&& (3 : Int32)))])
    by_cases c54 : (p0 &&& (3 : Int32)) < (3 : Int32)
    · have hv55 := hv_136_1.trans (if_pos c54)
      refine Fini.st (fun _ k => XS.icmpYes X_136_1.here hx rfl (pc0 := 139) (pc' := 188) rfl (hb hby at_139) rfl (XT.ii_lt_t c54) (by decide) (by decide) k) ?_
      show Fini p e below s _ _ _ T_136_1 (mkF m 188 #[.val (.int p0), .val (.int p1), .val (.int p2), .val (.int p3), .val (.int (p0 &&& (3 : Int32))), .val (.ref b1), .val (.int z136_1_l6), .val (.long z136_1_l7), .second] [])
      refine Fini.st (fun _ k => XS.iload X_136_1.here hx rfl (hb hby at_188) rfl k) ?_
      show Fini p e below s _ _ _ T_136_1 (mkF m 190 #[.val (.int p0), .val (.int p1), .val (.int p2), .val (.int p3), .val (.int (p0 &&& (3 : Int32))), .val (.ref b1), .val (.int z136_1_l6), .val (.long z136_1_l7), .second] [(.int z136_1_l6)])
      exact Fini.retN X_136_1 hx hlk (t := .boolean) Bd.returns (by simp) (hb hby at_190) rfl (by decide) (by decide) ⟨congrArg (fun z => some (Value.int z)) hv55.symm, N_136_1⟩
    · have hv56 := hv_136_1.trans (if_neg c54)
      refine Fini.st (fun _ k => XS.icmpNo X_136_1.here hx rfl (hb hby at_139) rfl (XT.ii_lt_f c54) k) ?_
      show Fini p e below s _ _ _ T_136_1 (mkF m 142 #[.val (.int p0), .val (.int p1), .val (.int p2), .val (.int p3), .val (.int (p0 &&& (3 : Int32))), .val (.ref b1), .val (.int z136_1_l6), .val (.long z136_1_l7), .second] [])
      refine Fini.st (fun _ k => XS.aload X_136_1.here hx rfl (hb hby at_142) rfl rfl k) ?_
      show Fini p e below s _ _ _ T_136_1 (mkF m 144 #[.val (.int p0), .val (.int p1), .val (.int p2), .val (.int p3), .val (.int (p0 &&& (3 : Int32))), .val (.ref b1), .val (.int z136_1_l6), .val (.long z136_1_l7), .second] [(.ref b1)])
      refine Fini.st (fun _ k => XS.aconstNull X_136_1.here hx rfl (hb hby at_144) k) ?_
      show Fini p e below s _ _ _ T_136_1 (mkF m 145 #[.val (.int p0), .val (.int p1), .val (.int p2), .val (.int p3), .val (.int (p0 &&& (3 : Int32))), .val (.ref b1), .val (.int z136_1_l6), .val (.long z136_1_l7), .second] [.null, (.ref b1)])
      refine Fini.st (fun _ k => XS.iloadN X_136_1.here hx rfl (hb hby at_145) rfl k) ?_
      show Fini p e below s _ _ _ T_136_1 (mkF m 146 #[.val (.int p0), .val (.int p1), .val (.int p2), .val (.int p3), .val (.int (p0 &&& (3 : Int32))), .val (.ref b1), .val (.int z136_1_l6), .val (.long z136_1_l7), .second] [(.int p3), .null, (.ref b1)])
      obtain ⟨v57, T57, L57, X57, hQ57, st57⟩ := callV X_136_1 hx hZ hown (hw _ (List.mem_of_getElem? (i := 23) rfl)) (hw _ (List.mem_of_getElem? (i := 24) rfl)) (hw _ (List.mem_of_getElem? (i := 26) rfl)) (hw _ (List.mem_of_getElem? (i := 25) rfl)) (hw _ (List.mem_of_getElem? (i := 2) rfl)) (hw _ (List.mem_of_getElem? (i := 27) rfl)) (notFace_of_selects (args := #[]) (mvT hZ (hw _ (List.mem_of_getElem? (i := 26) rfl)))) H136_1_E_b1 (by decide) (rm4 l Z a0 hw [] b1 p3 b2 (1 : Int32) z136_1_f_F_b1_values (upd (fun _ => .null) 0 .null) h_136_1 n0 H136_1_Z H136_1_E_b1 H136_1_F_b1_objects H136_1_F_b1_size H136_1_F_b1_values H136_1_A_b2 ge136_1_b1 ge136_1_b2 ne136_1_b1_b2 (⟨by decide, by decide⟩)) e_136_1 (W := 0) (by decide) (by decide) (by decide) (by decide) (g := (mkF m 146 #[.val (.int p0), .val (.int p1), .val (.int p2), .val (.int p3), .val (.int (p0 &&& (3 : Int32))), .val (.ref b1), .val (.int z136_1_l6), .val (.long z136_1_l7), .second] [(.int p3), .null, (.ref b1)])) rfl (by rw [hml]; rfl) (argsL := [.null, (.int p3)]) (rest := []) rfl (lenOf pd_2 rfl) rfl (by show 2 * 0 + _ ≤ _; exact Nat.le_of_eq rfl) (hb hby at_146)
      obtain ⟨rfl, Nq57, K57, Fo57, Ar57, Fs57, Fv57⟩ := hQ57
      have N57 := Fr.app N_136_1 Nq57
      refine Fini.st st57 ?_
      show Fini p e below s _ _ _ T57 (mkF m 149 #[.val (.int p0), .val (.int p1), .val (.int p2), .val (.int p3), .val (.int (p0 &&& (3 : Int32))), .val (.ref b1), .val (.int z136_1_l6), .val (.long z136_1_l7), .second] [])
      refine Fini.st (fun _ k => XS.lload X57.here hx rfl (hb hby at_149) rfl k) ?_
      show Fini p e below s _ _ _ T57 (mkF m 151 #[.val (.int p0), .val (.int p1), .val (.int p2), .val (.int p3), .val (.int (p0 &&& (3 : Int32))), .val (.ref b1), .val (.int z136_1_l6), .val (.long z136_1_l7), .second] [(.long z136_1_l7)])
      refine Fini.st (fun _ k => XS.iloadN X57.here hx rfl (hb hby at_151) rfl k) ?_
      show Fini p e below s _ _ _ T57 (mkF m 152 #[.val (.int p0), .val (.int p1), .val (.int p2), .val (.int p3), .val (.int (p0 &&& (3 : Int32))), .val (.ref b1), .val (.int z136_1_l6), .val (.long z136_1_l7), .second] [(.int p3), (.long z136_1_l7)])
      refine Fini.st (fun _ k => XS.i2l X57.here hx rfl (hb hby at_152) rfl k) ?_
      show Fini p e below s _ _ _ T57 (mkF m 153 #[.val (.int p0), .val (.int p1), .val (.int p2), .val (.int p3), .val (.int (p0 &&& (3 : Int32))), .val (.ref b1), .val (.int z136_1_l6), .val (.long z136_1_l7), .second] [(.long p3.toInt64), (.long z136_1_l7)])
      refine Fini.st (fun _ k => XS.ladd X57.here hx rfl (hb hby at_153) rfl k) ?_
      show Fini p e below s _ _ _ T57 (mkF m 154 #[.val (.int p0), .val (.int p1), .val (.int p2), .val (.int p3), .val (.int (p0 &&& (3 : Int32))), .val (.ref b1), .val (.int z136_1_l6), .val (.long z136_1_l7), .second] [(.long (z136_1_l7 + p3.toInt64))])
      refine Fini.st (fun _ k => XS.lstore X57.here hx rfl (hb hby at_154) rfl (l' := #[.val (.int p0), .val (.int p1), .val (.int p2), .val (.int p3), .val (.int (p0 &&& (3 : Int32))), .val (.ref b1), .val (.int z136_1_l6), .val (.long (z136_1_l7 + p3.toInt64)), .second]) rfl k) ?_
      show Fini p e below s _ _ _ T57 (mkF m 156 #[.val (.int p0), .val (.int p1), .val (.int p2), .val (.int p3), .val (.int (p0 &&& (3 : Int32))), .val (.ref b1), .val (.int z136_1_l6), .val (.long (z136_1_l7 + p3.toInt64)), .second] [])
      refine Fini.st (fun _ k => XS.iload X57.here hx rfl (hb hby at_156) rfl k) ?_
      show Fini p e below s _ _ _ T57 (mkF m 158 #[.val (.int p0), .val (.int p1), .val (.int p2), .val (.int p3), .val (.int (p0 &&& (3 : Int32))), .val (.ref b1), .val (.int z136_1_l6), .val (.long (z136_1_l7 + p3.toInt64)), .second] [(.int z136_1_l6)])
      refine Fini.st (fun _ k => XS.aload X57.here hx rfl (hb hby at_158) rfl rfl k) ?_
      show Fini p e below s _ _ _ T57 (mkF m 160 #[.val (.int p0), .val (.int p1), .val (.int p2), .val (.int p3), .val (.int (p0 &&& (3 : Int32))), .val (.ref b1), .val (.int z136_1_l6), .val (.long (z136_1_l7 + p3.toInt64)), .second] [(.ref b1), (.int z136_1_l6)])
      have Ex_59 : Exa Z T57.heap b1 "com/example/mapcodex/mapcodex/pbf/ObjectBatch" := (H136_1_E_b1.keep K57)
      obtain ⟨T58, X58, e58, st58⟩ := pureV X57 hx hZ hown (hw _ (List.mem_of_getElem? (i := 13) rfl)) (hw _ (List.mem_of_getElem? (i := 14) rfl)) (hw _ (List.mem_of_getElem? (i := 16) rfl)) (hw _ (List.mem_of_getElem? (i := 15) rfl)) (hw _ (List.mem_of_getElem? (i := 2) rfl)) (hw _ (List.mem_of_getElem? (i := 17) rfl)) (notFace_of_selects (args := #[]) (mvT hZ (hw _ (List.mem_of_getElem? (i := 16) rfl)))) Ex_59 (by decide) (rm3 l Z a0 hw [] b1 (2 : Int32) (z136_1_f_F_b1_values + p3.toInt64) T57.heap Fs57 Fv57) rfl (W := 1) (by decide) (by decide) (by decide) (by decide) (g := (mkF m 160 #[.val (.int p0), .val (.int p1), .val (.int p2), .val (.int p3), .val (.int (p0 &&& (3 : Int32))), .val (.ref b1), .val (.int z136_1_l6), .val (.long (z136_1_l7 + p3.toInt64)), .second] [(.ref b1), (.int z136_1_l6)])) rfl (by rw [hml]; rfl) (argsL := []) (rest := [(.int z136_1_l6)]) rfl (lenOf pd_1 rfl) rfl (by show 2 * 0 + _ ≤ _; exact Nat.le_of_eq rfl) (hb hby at_160)
      refine Fini.st st58 ?_
      show Fini p e below s _ _ _ T58 (mkF m 163 #[.val (.int p0), .val (.int p1), .val (.int p2), .val (.int p3), .val (.int (p0 &&& (3 : Int32))), .val (.ref b1), .val (.int z136_1_l6), .val (.long (z136_1_l7 + p3.toInt64)), .second] [(.int (f3 (2 : Int32) (z136_1_f_F_b1_values + p3.toInt64))), (.int z136_1_l6)])
      refine Fini.st (fun _ k => XS.lload X58.here hx rfl (hb hby at_163) rfl k) ?_
      show Fini p e below s _ _ _ T58 (mkF m 165 #[.val (.int p0), .val (.int p1), .val (.int p2), .val (.int p3), .val (.int (p0 &&& (3 : Int32))), .val (.ref b1), .val (.int z136_1_l6), .val (.long (z136_1_l7 + p3.toInt64)), .second] [(.long (z136_1_l7 + p3.toInt64)), (.int (f3 (2 : Int32) (z136_1_f_F_b1_values + p3.toInt64))), (.int z136_1_l6)])
      refine Fini.st (fun _ k => X58.ldc2J hx hown (mvT hZ (hw _ (List.mem_of_getElem? (i := 28) rfl))) rfl (hb hby at_165) k) ?_
      show Fini p e below s _ _ _ T58 (mkF m 168 #[.val (.int p0), .val (.int p1), .val (.int p2), .val (.int p3), .val (.int (p0 &&& (3 : Int32))), .val (.ref b1), .val (.int z136_1_l6), .val (.long (z136_1_l7 + p3.toInt64)), .second] [(.long (16384 : Int64)), (.long (z136_1_l7 + p3.toInt64)), (.int (f3 (2 : Int32) (z136_1_f_F_b1_values + p3.toInt64))), (.int z136_1_l6)])
      refine Fini.st (fun _ k => XT.lcmp X58.here hx rfl (hb hby at_168) rfl k) ?_
      show Fini p e below s _ _ _ T58 (mkF m 169 #[.val (.int p0), .val (.int p1), .val (.int p2), .val (.int p3), .val (.int (p0 &&& (3 : Int32))), .val (.ref b1), .val (.int z136_1_l6), .val (.long (z136_1_l7 + p3.toInt64)), .second] [(.int (XT.cmpL (z136_1_l7 + p3.toInt64) (16384 : Int64))), (.int (f3 (2 : Int32) (z136_1_f_F_b1_values + p3.toInt64))), (.int z136_1_l6)])
      by_cases c60 : (z136_1_l7 + p3.toInt64) < (16384 : Int64)
      · have hv61 := hv56.trans (if_pos c60)
        refine Fini.st (fun _ k => XS.ifYes X58.here hx rfl (pc0 := 169) (pc' := 176) rfl (hb hby at_169) rfl (XT.ll_lt_t c60) (by decide) (by decide) k) ?_
        show Fini p e below s _ _ _ T58 (mkF m 176 #[.val (.int p0), .val (.int p1), .val (.int p2), .val (.int p3), .val (.int (p0 &&& (3 : Int32))), .val (.ref b1), .val (.int z136_1_l6), .val (.long (z136_1_l7 + p3.toInt64)), .second] [(.int (f3 (2 : Int32) (z136_1_f_F_b1_values + p3.toInt64))), (.int z136_1_l6)])
        refine Fini.st (fun _ k => XS.iconst X58.here hx rfl (hb hby at_176) k) ?_
        show Fini p e below s _ _ _ T58 (mkF m 177 #[.val (.int p0), .val (.int p1), .val (.int p2), .val (.int p3), .val (.int (p0 &&& (3 : Int32))), .val (.ref b1), .val (.int z136_1_l6), .val (.long (z136_1_l7 + p3.toInt64)), .second] [(.int (0 : Int32)), (.int (f3 (2 : Int32) (z136_1_f_F_b1_values + p3.toInt64))), (.int z136_1_l6)])
        have Zs_83 : n0 ≤ T57.heap.size := (Nat.le_trans H136_1_Z K57.1)
        exact B177_2 T58 _ _ (X58.more (cells' := 2) (slots' := 4100) (by decide) (by decide)) e58 b1 b2 (0 : Int32) z136_1_f_F_b1_values z136_1_l6 z136_1_l7 N57 Zs_83 Ex_59 Fo57 Fs57 Fv57 Ar57 ne136_1_b1_b2 ge136_1_b1 ge136_1_b2 hv61
      · have hv62 := hv56.trans (if_neg c60)
        refine Fini.st (fun _ k => XS.ifNo X58.here hx rfl (hb hby at_169) rfl (XT.ll_lt_f c60) k) ?_
        show Fini p e below s _ _ _ T58 (mkF m 172 #[.val (.int p0), .val (.int p1), .val (.int p2), .val (.int p3), .val (.int (p0 &&& (3 : Int32))), .val (.ref b1), .val (.int z136_1_l6), .val (.long (z136_1_l7 + p3.toInt64)), .second] [(.int (f3 (2 : Int32) (z136_1_f_F_b1_values + p3.toInt64))), (.int z136_1_l6)])
        refine Fini.st (fun _ k => XS.iconst X58.here hx rfl (hb hby at_172) k) ?_
        show Fini p e below s _ _ _ T58 (mkF m 173 #[.val (.int p0), .val (.int p1), .val (.int p2), .val (.int p3), .val (.int (p0 &&& (3 : Int32))), .val (.ref b1), .val (.int z136_1_l6), .val (.long (z136_1_l7 + p3.toInt64)), .second] [(.int (1 : Int32)), (.int (f3 (2 : Int32) (z136_1_f_F_b1_values + p3.toInt64))), (.int z136_1_l6)])
        refine Fini.st (fun _ k => XS.goto X58.here hx rfl (pc0 := 173) (pc' := 177) rfl (hb hby at_173) (by decide) (by decide) k) ?_
        show Fini p e below s _ _ _ T58 (mkF m 177 #[.val (.int p0), .val (.int p1), .val (.int p2), .val (.int p3), .val (.int (p0 &&& (3 : Int32))), .val (.ref b1), .val (.int z136_1_l6), .val (.long (z136_1_l7 + p3.toInt64)), .second] [(.int (1 : Int32)), (.int (f3 (2 : Int32) (z136_1_f_F_b1_values + p3.toInt64))), (.int z136_1_l6)])
        have Zs_84 : n0 ≤ T57.heap.size := (Nat.le_trans H136_1_Z K57.1)
        exact B177_2 T58 _ _ (X58.more (cells' := 2) (slots' := 4100) (by decide) (by decide)) e58 b1 b2 (1 : Int32) z136_1_f_F_b1_values z136_1_l6 z136_1_l7 N57 Zs_84 Ex_59 Fo57 Fs57 Fv57 Ar57 ne136_1_b1_b2 ge136_1_b1 ge136_1_b2 hv62
  have B136_2 : ∀ (T_136_2 : State) (h_136_2 : Heap) (locs : List Loc) (X_136_2 : Stand p l e room_1 s m #[(.int p0), (.int p1), (.int p2), (.int p3)] below meth c T_136_2 locs 2 4100) (e_136_2 : T_136_2.heap = h_136_2) (b1 : Addr) (b2 : Addr) (z133_2_s0 : Int32) (z27_0_s0 : Int32) (z81_1_s0 : Int32) (N_136_2 : Fr n0 locs) (H136_2_Z : n0 ≤ h_136_2.size) (H136_2_E_b1 : Exa Z h_136_2 b1 "com/example/mapcodex/mapcodex/pbf/ObjectBatch") (H136_2_F_b1_objects : Fld Z h_136_2 b1 "com/example/mapcodex/mapcodex/pbf/ObjectBatch" "objects" "[Ljava/lang/Object;" (.ref b2)) (H136_2_F_b1_size : Fld Z h_136_2 b1 "com/example/mapcodex/mapcodex/pbf/ObjectBatch" "size" "I" (.int (2 : Int32))) (H136_2_F_b1_values : Fld Z h_136_2 b1 "com/example/mapcodex/mapcodex/pbf/ObjectBatch" "values" "J" (.long (((0 : Int64) + p1.toInt64) + p2.toInt64))) (H136_2_A_b2 : AryR Z h_136_2 b2 "java/lang/Object" (4096 : Int32) (upd (upd (fun _ => .null) 0 .null) 1 .null)) (ne136_2_b1_b2 : b1 ≠ b2) (ge136_2_b1 : n0 ≤ b1) (ge136_2_b2 : n0 ≤ b2), f0 p0 p1 p2 p3 = f0_136_2 p0 p1 p2 p3 z133_2_s0 z27_0_s0 z81_1_s0 → Fini p e below s (fun v h' L => v = some (.int (f0 p0 p1 p2 p3)) ∧ Fr n0 L) (Room.cells room_1) (Room.slots room_1) T_136_2 (mkF m 136 #[.val (.int p0), .val (.int p1), .val (.int p2), .val (.int p3), .val (.int (p0 &&& (3 : Int32))), .val (.ref b1), .val (.int ((z27_0_s0 &&& z81_1_s0) &&& z133_2_s0)), .val (.long (((0 : Int64) + p1.toInt64) + p2.toInt64)), .second] []) := by
    intro T_136_2 h_136_2 locs X_136_2 e_136_2 b1 b2 z133_2_s0 z27_0_s0 z81_1_s0 N_136_2 H136_2_Z H136_2_E_b1 H136_2_F_b1_objects H136_2_F_b1_size H136_2_F_b1_values H136_2_A_b2 ne136_2_b1_b2 ge136_2_b1 ge136_2_b2 hv_136_2
    refine Fini.st (fun _ k => XS.iload X_136_2.here hx rfl (hb hby at_136) rfl k) ?_
    show Fini p e below s _ _ _ T_136_2 (mkF m 138 #[.val (.int p0), .val (.int p1), .val (.int p2), .val (.int p3), .val (.int (p0 &&& (3 : Int32))), .val (.ref b1), .val (.int ((z27_0_s0 &&& z81_1_s0) &&& z133_2_s0)), .val (.long (((0 : Int64) + p1.toInt64) + p2.toInt64)), .second] [(.int (p0 &&& (3 : Int32)))])
    refine Fini.st (fun _ k => XS.iconst X_136_2.here hx rfl (hb hby at_138) k) ?_
    show Fini p e below s _ _ _ T_136_2 (mkF m 139 #[.val (.int p0), .val (.int p1), .val (.int p2), .val (.int p3), .val (.int (p0 &&& (3 : Int32))), .val (.ref b1), .val (.int ((z27_0_s0 &&& z81_1_s0) &&& z133_2_s0)), .val (.long (((0 : Int64) + p1.toInt64) + p2.toInt64)), .second] [(.int (3 : Int32)), (.int (p0 &&& (3 : Int32)))])
    by_cases c63 : (p0 &&& (3 : Int32)) < (3 : Int32)
    · have hv64 := hv_136_2.trans (if_pos c63)
      refine Fini.st (fun _ k => XS.icmpYes X_136_2.here hx rfl (pc0 := 139) (pc' := 188) rfl (hb hby at_139) rfl (XT.ii_lt_t c63) (by decide) (by decide) k) ?_
      show Fini p e below s _ _ _ T_136_2 (mkF m 188 #[.val (.int p0), .val (.int p1), .val (.int p2), .val (.int p3), .val (.int (p0 &&& (3 : Int32))), .val (.ref b1), .val (.int ((z27_0_s0 &&& z81_1_s0) &&& z133_2_s0)), .val (.long (((0 : Int64) + p1.toInt64) + p2.toInt64)), .second] [])
      refine Fini.st (fun _ k => XS.iload X_136_2.here hx rfl (hb hby at_188) rfl k) ?_
      show Fini p e below s _ _ _ T_136_2 (mkF m 190 #[.val (.int p0), .val (.int p1), .val (.int p2), .val (.int p3), .val (.int (p0 &&& (3 : Int32))), .val (.ref b1), .val (.int ((z27_0_s0 &&& z81_1_s0) &&& z133_2_s0)), .val (.long (((0 : Int64) + p1.toInt64) + p2.toInt64)), .second] [(.int ((z27_0_s0 &&& z81_1_s0) &&& z133_2_s0))])
      exact Fini.retN X_136_2 hx hlk (t := .boolean) Bd.returns (by simp) (hb hby at_190) rfl (by decide) (by decide) ⟨congrArg (fun z => some (Value.int z)) hv64.symm, N_136_2⟩
    · have hv65 := hv_136_2.trans (if_neg c63)
      refine Fini.st (fun _ k => XS.icmpNo X_136_2.here hx rfl (hb hby at_139) rfl (XT.ii_lt_f c63) k) ?_
      show Fini p e below s _ _ _ T_136_2 (mkF m 142 #[.val (.int p0), .val (.int p1), .val (.int p2), .val (.int p3), .val (.int (p0 &&& (3 : Int32))), .val (.ref b1), .val (.int ((z27_0_s0 &&& z81_1_s0) &&& z133_2_s0)), .val (.long (((0 : Int64) + p1.toInt64) + p2.toInt64)), .second] [])
      refine Fini.st (fun _ k => XS.aload X_136_2.here hx rfl (hb hby at_142) rfl rfl k) ?_
      show Fini p e below s _ _ _ T_136_2 (mkF m 144 #[.val (.int p0), .val (.int p1), .val (.int p2), .val (.int p3), .val (.int (p0 &&& (3 : Int32))), .val (.ref b1), .val (.int ((z27_0_s0 &&& z81_1_s0) &&& z133_2_s0)), .val (.long (((0 : Int64) + p1.toInt64) + p2.toInt64)), .second] [(.ref b1)])
      refine Fini.st (fun _ k => XS.aconstNull X_136_2.here hx rfl (hb hby at_144) k) ?_
      show Fini p e below s _ _ _ T_136_2 (mkF m 145 #[.val (.int p0), .val (.int p1), .val (.int p2), .val (.int p3), .val (.int (p0 &&& (3 : Int32))), .val (.ref b1), .val (.int ((z27_0_s0 &&& z81_1_s0) &&& z133_2_s0)), .val (.long (((0 : Int64) + p1.toInt64) + p2.toInt64)), .second] [.null, (.ref b1)])
      refine Fini.st (fun _ k => XS.iloadN X_136_2.here hx rfl (hb hby at_145) rfl k) ?_
      show Fini p e below s _ _ _ T_136_2 (mkF m 146 #[.val (.int p0), .val (.int p1), .val (.int p2), .val (.int p3), .val (.int (p0 &&& (3 : Int32))), .val (.ref b1), .val (.int ((z27_0_s0 &&& z81_1_s0) &&& z133_2_s0)), .val (.long (((0 : Int64) + p1.toInt64) + p2.toInt64)), .second] [(.int p3), .null, (.ref b1)])
      obtain ⟨v66, T66, L66, X66, hQ66, st66⟩ := callV X_136_2 hx hZ hown (hw _ (List.mem_of_getElem? (i := 23) rfl)) (hw _ (List.mem_of_getElem? (i := 24) rfl)) (hw _ (List.mem_of_getElem? (i := 26) rfl)) (hw _ (List.mem_of_getElem? (i := 25) rfl)) (hw _ (List.mem_of_getElem? (i := 2) rfl)) (hw _ (List.mem_of_getElem? (i := 27) rfl)) (notFace_of_selects (args := #[]) (mvT hZ (hw _ (List.mem_of_getElem? (i := 26) rfl)))) H136_2_E_b1 (by decide) (rm4 l Z a0 hw [] b1 p3 b2 (2 : Int32) (((0 : Int64) + p1.toInt64) + p2.toInt64) (upd (upd (fun _ => .null) 0 .null) 1 .null) h_136_2 n0 H136_2_Z H136_2_E_b1 H136_2_F_b1_objects H136_2_F_b1_size H136_2_F_b1_values H136_2_A_b2 ge136_2_b1 ge136_2_b2 ne136_2_b1_b2 (⟨by decide, by decide⟩)) e_136_2 (W := 0) (by decide) (by decide) (by decide) (by decide) (g := (mkF m 146 #[.val (.int p0), .val (.int p1), .val (.int p2), .val (.int p3), .val (.int (p0 &&& (3 : Int32))), .val (.ref b1), .val (.int ((z27_0_s0 &&& z81_1_s0) &&& z133_2_s0)), .val (.long (((0 : Int64) + p1.toInt64) + p2.toInt64)), .second] [(.int p3), .null, (.ref b1)])) rfl (by rw [hml]; rfl) (argsL := [.null, (.int p3)]) (rest := []) rfl (lenOf pd_2 rfl) rfl (by show 2 * 0 + _ ≤ _; exact Nat.le_of_eq rfl) (hb hby at_146)
      obtain ⟨rfl, Nq66, K66, Fo66, Ar66, Fs66, Fv66⟩ := hQ66
      have N66 := Fr.app N_136_2 Nq66
      refine Fini.st st66 ?_
      show Fini p e below s _ _ _ T66 (mkF m 149 #[.val (.int p0), .val (.int p1), .val (.int p2), .val (.int p3), .val (.int (p0 &&& (3 : Int32))), .val (.ref b1), .val (.int ((z27_0_s0 &&& z81_1_s0) &&& z133_2_s0)), .val (.long (((0 : Int64) + p1.toInt64) + p2.toInt64)), .second] [])
      refine Fini.st (fun _ k => XS.lload X66.here hx rfl (hb hby at_149) rfl k) ?_
      show Fini p e below s _ _ _ T66 (mkF m 151 #[.val (.int p0), .val (.int p1), .val (.int p2), .val (.int p3), .val (.int (p0 &&& (3 : Int32))), .val (.ref b1), .val (.int ((z27_0_s0 &&& z81_1_s0) &&& z133_2_s0)), .val (.long (((0 : Int64) + p1.toInt64) + p2.toInt64)), .second] [(.long (((0 : Int64) + p1.toInt64) + p2.toInt64))])
      refine Fini.st (fun _ k => XS.iloadN X66.here hx rfl (hb hby at_151) rfl k) ?_
      show Fini p e below s _ _ _ T66 (mkF m 152 #[.val (.int p0), .val (.int p1), .val (.int p2), .val (.int p3), .val (.int (p0 &&& (3 : Int32))), .val (.ref b1), .val (.int ((z27_0_s0 &&& z81_1_s0) &&& z133_2_s0)), .val (.long (((0 : Int64) + p1.toInt64) + p2.toInt64)), .second] [(.int p3), (.long (((0 : Int64) + p1.toInt64) + p2.toInt64))])
      refine Fini.st (fun _ k => XS.i2l X66.here hx rfl (hb hby at_152) rfl k) ?_
      show Fini p e below s _ _ _ T66 (mkF m 153 #[.val (.int p0), .val (.int p1), .val (.int p2), .val (.int p3), .val (.int (p0 &&& (3 : Int32))), .val (.ref b1), .val (.int ((z27_0_s0 &&& z81_1_s0) &&& z133_2_s0)), .val (.long (((0 : Int64) + p1.toInt64) + p2.toInt64)), .second] [(.long p3.toInt64), (.long (((0 : Int64) + p1.toInt64) + p2.toInt64))])
      refine Fini.st (fun _ k => XS.ladd X66.here hx rfl (hb hby at_153) rfl k) ?_
      show Fini p e below s _ _ _ T66 (mkF m 154 #[.val (.int p0), .val (.int p1), .val (.int p2), .val (.int p3), .val (.int (p0 &&& (3 : Int32))), .val (.ref b1), .val (.int ((z27_0_s0 &&& z81_1_s0) &&& z133_2_s0)), .val (.long (((0 : Int64) + p1.toInt64) + p2.toInt64)), .second] [(.long ((((0 : Int64) + p1.toInt64) + p2.toInt64) + p3.toInt64))])
      refine Fini.st (fun _ k => XS.lstore X66.here hx rfl (hb hby at_154) rfl (l' := #[.val (.int p0), .val (.int p1), .val (.int p2), .val (.int p3), .val (.int (p0 &&& (3 : Int32))), .val (.ref b1), .val (.int ((z27_0_s0 &&& z81_1_s0) &&& z133_2_s0)), .val (.long ((((0 : Int64) + p1.toInt64) + p2.toInt64) + p3.toInt64)), .second]) rfl k) ?_
      show Fini p e below s _ _ _ T66 (mkF m 156 #[.val (.int p0), .val (.int p1), .val (.int p2), .val (.int p3), .val (.int (p0 &&& (3 : Int32))), .val (.ref b1), .val (.int ((z27_0_s0 &&& z81_1_s0) &&& z133_2_s0)), .val (.long ((((0 : Int64) + p1.toInt64) + p2.toInt64) + p3.toInt64)), .second] [])
      refine Fini.st (fun _ k => XS.iload X66.here hx rfl (hb hby at_156) rfl k) ?_
      show Fini p e below s _ _ _ T66 (mkF m 158 #[.val (.int p0), .val (.int p1), .val (.int p2), .val (.int p3), .val (.int (p0 &&& (3 : Int32))), .val (.ref b1), .val (.int ((z27_0_s0 &&& z81_1_s0) &&& z133_2_s0)), .val (.long ((((0 : Int64) + p1.toInt64) + p2.toInt64) + p3.toInt64)), .second] [(.int ((z27_0_s0 &&& z81_1_s0) &&& z133_2_s0))])
      refine Fini.st (fun _ k => XS.aload X66.here hx rfl (hb hby at_158) rfl rfl k) ?_
      show Fini p e below s _ _ _ T66 (mkF m 160 #[.val (.int p0), .val (.int p1), .val (.int p2), .val (.int p3), .val (.int (p0 &&& (3 : Int32))), .val (.ref b1), .val (.int ((z27_0_s0 &&& z81_1_s0) &&& z133_2_s0)), .val (.long ((((0 : Int64) + p1.toInt64) + p2.toInt64) + p3.toInt64)), .second] [(.ref b1), (.int ((z27_0_s0 &&& z81_1_s0) &&& z133_2_s0))])
      have Ex_68 : Exa Z T66.heap b1 "com/example/mapcodex/mapcodex/pbf/ObjectBatch" := (H136_2_E_b1.keep K66)
      obtain ⟨T67, X67, e67, st67⟩ := pureV X66 hx hZ hown (hw _ (List.mem_of_getElem? (i := 13) rfl)) (hw _ (List.mem_of_getElem? (i := 14) rfl)) (hw _ (List.mem_of_getElem? (i := 16) rfl)) (hw _ (List.mem_of_getElem? (i := 15) rfl)) (hw _ (List.mem_of_getElem? (i := 2) rfl)) (hw _ (List.mem_of_getElem? (i := 17) rfl)) (notFace_of_selects (args := #[]) (mvT hZ (hw _ (List.mem_of_getElem? (i := 16) rfl)))) Ex_68 (by decide) (rm3 l Z a0 hw [] b1 (3 : Int32) ((((0 : Int64) + p1.toInt64) + p2.toInt64) + p3.toInt64) T66.heap Fs66 Fv66) rfl (W := 1) (by decide) (by decide) (by decide) (by decide) (g := (mkF m 160 #[.val (.int p0), .val (.int p1), .val (.int p2), .val (.int p3), .val (.int (p0 &&& (3 : Int32))), .val (.ref b1), .val (.int ((z27_0_s0 &&& z81_1_s0) &&& z133_2_s0)), .val (.long ((((0 : Int64) + p1.toInt64) + p2.toInt64) + p3.toInt64)), .second] [(.ref b1), (.int ((z27_0_s0 &&& z81_1_s0) &&& z133_2_s0))])) rfl (by rw [hml]; rfl) (argsL := []) (rest := [(.int ((z27_0_s0 &&& z81_1_s0) &&& z133_2_s0))]) rfl (lenOf pd_1 rfl) rfl (by show 2 * 0 + _ ≤ _; exact Nat.le_of_eq rfl) (hb hby at_160)
      refine Fini.st st67 ?_
      show Fini p e below s _ _ _ T67 (mkF m 163 #[.val (.int p0), .val (.int p1), .val (.int p2), .val (.int p3), .val (.int (p0 &&& (3 : Int32))), .val (.ref b1), .val (.int ((z27_0_s0 &&& z81_1_s0) &&& z133_2_s0)), .val (.long ((((0 : Int64) + p1.toInt64) + p2.toInt64) + p3.toInt64)), .second] [(.int (f3 (3 : Int32) ((((0 : Int64) + p1.toInt64) + p2.toInt64) + p3.toInt64))), (.int ((z27_0_s0 &&& z81_1_s0) &&& z133_2_s0))])
      refine Fini.st (fun _ k => XS.lload X67.here hx rfl (hb hby at_163) rfl k) ?_
      show Fini p e below s _ _ _ T67 (mkF m 165 #[.val (.int p0), .val (.int p1), .val (.int p2), .val (.int p3), .val (.int (p0 &&& (3 : Int32))), .val (.ref b1), .val (.int ((z27_0_s0 &&& z81_1_s0) &&& z133_2_s0)), .val (.long ((((0 : Int64) + p1.toInt64) + p2.toInt64) + p3.toInt64)), .second] [(.long ((((0 : Int64) + p1.toInt64) + p2.toInt64) + p3.toInt64)), (.int (f3 (3 : Int32) ((((0 : Int64) + p1.toInt64) + p2.toInt64) + p3.toInt64))), (.int ((z27_0_s0 &&& z81_1_s0) &&& z133_2_s0))])
      refine Fini.st (fun _ k => X67.ldc2J hx hown (mvT hZ (hw _ (List.mem_of_getElem? (i := 28) rfl))) rfl (hb hby at_165) k) ?_
      show Fini p e below s _ _ _ T67 (mkF m 168 #[.val (.int p0), .val (.int p1), .val (.int p2), .val (.int p3), .val (.int (p0 &&& (3 : Int32))), .val (.ref b1), .val (.int ((z27_0_s0 &&& z81_1_s0) &&& z133_2_s0)), .val (.long ((((0 : Int64) + p1.toInt64) + p2.toInt64) + p3.toInt64)), .second] [(.long (16384 : Int64)), (.long ((((0 : Int64) + p1.toInt64) + p2.toInt64) + p3.toInt64)), (.int (f3 (3 : Int32) ((((0 : Int64) + p1.toInt64) + p2.toInt64) + p3.toInt64))), (.int ((z27_0_s0 &&& z81_1_s0) &&& z133_2_s0))])
      refine Fini.st (fun _ k => XT.lcmp X67.here hx rfl (hb hby at_168) rfl k) ?_
      show Fini p e below s _ _ _ T67 (mkF m 169 #[.val (.int p0), .val (.int p1), .val (.int p2), .val (.int p3), .val (.int (p0 &&& (3 : Int32))), .val (.ref b1), .val (.int ((z27_0_s0 &&& z81_1_s0) &&& z133_2_s0)), .val (.long ((((0 : Int64) + p1.toInt64) + p2.toInt64) + p3.toInt64)), .second] [(.int (XT.cmpL ((((0 : Int64) + p1.toInt64) + p2.toInt64) + p3.toInt64) (16384 : Int64))), (.int (f3 (3 : Int32) ((((0 : Int64) + p1.toInt64) + p2.toInt64) + p3.toInt64))), (.int ((z27_0_s0 &&& z81_1_s0) &&& z133_2_s0))])
      by_cases c69 : ((((0 : Int64) + p1.toInt64) + p2.toInt64) + p3.toInt64) < (16384 : Int64)
      · have hv70 := hv65.trans (if_pos c69)
        refine Fini.st (fun _ k => XS.ifYes X67.here hx rfl (pc0 := 169) (pc' := 176) rfl (hb hby at_169) rfl (XT.ll_lt_t c69) (by decide) (by decide) k) ?_
        show Fini p e below s _ _ _ T67 (mkF m 176 #[.val (.int p0), .val (.int p1), .val (.int p2), .val (.int p3), .val (.int (p0 &&& (3 : Int32))), .val (.ref b1), .val (.int ((z27_0_s0 &&& z81_1_s0) &&& z133_2_s0)), .val (.long ((((0 : Int64) + p1.toInt64) + p2.toInt64) + p3.toInt64)), .second] [(.int (f3 (3 : Int32) ((((0 : Int64) + p1.toInt64) + p2.toInt64) + p3.toInt64))), (.int ((z27_0_s0 &&& z81_1_s0) &&& z133_2_s0))])
        refine Fini.st (fun _ k => XS.iconst X67.here hx rfl (hb hby at_176) k) ?_
        show Fini p e below s _ _ _ T67 (mkF m 177 #[.val (.int p0), .val (.int p1), .val (.int p2), .val (.int p3), .val (.int (p0 &&& (3 : Int32))), .val (.ref b1), .val (.int ((z27_0_s0 &&& z81_1_s0) &&& z133_2_s0)), .val (.long ((((0 : Int64) + p1.toInt64) + p2.toInt64) + p3.toInt64)), .second] [(.int (0 : Int32)), (.int (f3 (3 : Int32) ((((0 : Int64) + p1.toInt64) + p2.toInt64) + p3.toInt64))), (.int ((z27_0_s0 &&& z81_1_s0) &&& z133_2_s0))])
        have Zs_85 : n0 ≤ T66.heap.size := (Nat.le_trans H136_2_Z K66.1)
        exact B177_3 T67 _ _ (X67.more (cells' := 2) (slots' := 4100) (by decide) (by decide)) e67 b1 b2 (0 : Int32) z133_2_s0 z27_0_s0 z81_1_s0 N66 Zs_85 Ex_68 Fo66 Fs66 Fv66 Ar66 ne136_2_b1_b2 ge136_2_b1 ge136_2_b2 hv70
      · have hv71 := hv65.trans (if_neg c69)
        refine Fini.st (fun _ k => XS.ifNo X67.here hx rfl (hb hby at_169) rfl (XT.ll_lt_f c69) k) ?_
        show Fini p e below s _ _ _ T67 (mkF m 172 #[.val (.int p0), .val (.int p1), .val (.int p2), .val (.int p3), .val (.int (p0 &&& (3 : Int32))), .val (.ref b1), .val (.int ((z27_0_s0 &&& z81_1_s0) &&& z133_2_s0)), .val (.long ((((0 : Int64) + p1.toInt64) + p2.toInt64) + p3.toInt64)), .second] [(.int (f3 (3 : Int32) ((((0 : Int64) + p1.toInt64) + p2.toInt64) + p3.toInt64))), (.int ((z27_0_s0 &&& z81_1_s0) &&& z133_2_s0))])
        refine Fini.st (fun _ k => XS.iconst X67.here hx rfl (hb hby at_172) k) ?_
        show Fini p e below s _ _ _ T67 (mkF m 173 #[.val (.int p0), .val (.int p1), .val (.int p2), .val (.int p3), .val (.int (p0 &&& (3 : Int32))), .val (.ref b1), .val (.int ((z27_0_s0 &&& z81_1_s0) &&& z133_2_s0)), .val (.long ((((0 : Int64) + p1.toInt64) + p2.toInt64) + p3.toInt64)), .second] [(.int (1 : Int32)), (.int (f3 (3 : Int32) ((((0 : Int64) + p1.toInt64) + p2.toInt64) + p3.toInt64))), (.int ((z27_0_s0 &&& z81_1_s0) &&& z133_2_s0))])
        refine Fini.st (fun _ k => XS.goto X67.here hx rfl (pc0 := 173) (pc' := 177) rfl (hb hby at_173) (by decide) (by decide) k) ?_
        show Fini p e below s _ _ _ T67 (mkF m 177 #[.val (.int p0), .val (.int p1), .val (.int p2), .val (.int p3), .val (.int (p0 &&& (3 : Int32))), .val (.ref b1), .val (.int ((z27_0_s0 &&& z81_1_s0) &&& z133_2_s0)), .val (.long ((((0 : Int64) + p1.toInt64) + p2.toInt64) + p3.toInt64)), .second] [(.int (1 : Int32)), (.int (f3 (3 : Int32) ((((0 : Int64) + p1.toInt64) + p2.toInt64) + p3.toInt64))), (.int ((z27_0_s0 &&& z81_1_s0) &&& z133_2_s0))])
        have Zs_86 : n0 ≤ T66.heap.size := (Nat.le_trans H136_2_Z K66.1)
        exact B177_3 T67 _ _ (X67.more (cells' := 2) (slots' := 4100) (by decide) (by decide)) e67 b1 b2 (1 : Int32) z133_2_s0 z27_0_s0 z81_1_s0 N66 Zs_86 Ex_68 Fo66 Fs66 Fv66 Ar66 ne136_2_b1_b2 ge136_2_b1 ge136_2_b2 hv71
  have B133_1 : ∀ (T_133_1 : State) (h_133_1 : Heap) (locs : List Loc) (X_133_1 : Stand p l e room_1 s m #[(.int p0), (.int p1), (.int p2), (.int p3)] below meth c T_133_1 locs 2 4100) (e_133_1 : T_133_1.heap = h_133_1) (b1 : Addr) (b2 : Addr) (z133_1_s0 : Int32) (z27_0_s0 : Int32) (N_133_1 : Fr n0 locs) (H133_1_Z : n0 ≤ h_133_1.size) (H133_1_E_b1 : Exa Z h_133_1 b1 "com/example/mapcodex/mapcodex/pbf/ObjectBatch") (H133_1_F_b1_objects : Fld Z h_133_1 b1 "com/example/mapcodex/mapcodex/pbf/ObjectBatch" "objects" "[Ljava/lang/Object;" (.ref b2)) (H133_1_F_b1_size : Fld Z h_133_1 b1 "com/example/mapcodex/mapcodex/pbf/ObjectBatch" "size" "I" (.int (1 : Int32))) (H133_1_F_b1_values : Fld Z h_133_1 b1 "com/example/mapcodex/mapcodex/pbf/ObjectBatch" "values" "J" (.long ((0 : Int64) + p2.toInt64))) (H133_1_A_b2 : AryR Z h_133_1 b2 "java/lang/Object" (4096 : Int32) (upd (fun _ => .null) 0 .null)) (ne133_1_b1_b2 : b1 ≠ b2) (ge133_1_b1 : n0 ≤ b1) (ge133_1_b2 : n0 ≤ b2), f0 p0 p1 p2 p3 = f0_133_1 p0 p1 p2 p3 z133_1_s0 z27_0_s0 → Fini p e below s (fun v h' L => v = some (.int (f0 p0 p1 p2 p3)) ∧ Fr n0 L) (Room.cells room_1) (Room.slots room_1) T_133_1 (mkF m 133 #[.val (.int p0), .val (.int p1), .val (.int p2), .val (.int p3), .val (.int (p0 &&& (3 : Int32))), .val (.ref b1), .val (.int z27_0_s0), .val (.long ((0 : Int64) + p2.toInt64)), .second] [(.int z133_1_s0), (.int z27_0_s0)]) := by
    intro T_133_1 h_133_1 locs X_133_1 e_133_1 b1 b2 z133_1_s0 z27_0_s0 N_133_1 H133_1_Z H133_1_E_b1 H133_1_F_b1_objects H133_1_F_b1_size H133_1_F_b1_values H133_1_A_b2 ne133_1_b1_b2 ge133_1_b1 ge133_1_b2 hv_133_1
    refine Fini.st (fun _ k => XS.iand X_133_1.here hx rfl (hb hby at_133) rfl k) ?_
    show Fini p e below s _ _ _ T_133_1 (mkF m 134 #[.val (.int p0), .val (.int p1), .val (.int p2), .val (.int p3), .val (.int (p0 &&& (3 : Int32))), .val (.ref b1), .val (.int z27_0_s0), .val (.long ((0 : Int64) + p2.toInt64)), .second] [(.int (z27_0_s0 &&& z133_1_s0))])
    refine Fini.st (fun _ k => XS.istore X_133_1.here hx rfl (hb hby at_134) rfl (l' := #[.val (.int p0), .val (.int p1), .val (.int p2), .val (.int p3), .val (.int (p0 &&& (3 : Int32))), .val (.ref b1), .val (.int (z27_0_s0 &&& z133_1_s0)), .val (.long ((0 : Int64) + p2.toInt64)), .second]) rfl k) ?_
    show Fini p e below s _ _ _ T_133_1 (mkF m 136 #[.val (.int p0), .val (.int p1), .val (.int p2), .val (.int p3), .val (.int (p0 &&& (3 : Int32))), .val (.ref b1), .val (.int (z27_0_s0 &&& z133_1_s0)), .val (.long ((0 : Int64) + p2.toInt64)), .second] [])
    exact B136_1 T_133_1 _ _ (X_133_1.more (cells' := 2) (slots' := 4100) (by decide) (by decide)) e_133_1 b1 b2 (z27_0_s0 &&& z133_1_s0) ((0 : Int64) + p2.toInt64) ((0 : Int64) + p2.toInt64) N_133_1 H133_1_Z H133_1_E_b1 H133_1_F_b1_objects H133_1_F_b1_size H133_1_F_b1_values H133_1_A_b2 ne133_1_b1_b2 ge133_1_b1 ge133_1_b2 hv_133_1
  have B133_2 : ∀ (T_133_2 : State) (h_133_2 : Heap) (locs : List Loc) (X_133_2 : Stand p l e room_1 s m #[(.int p0), (.int p1), (.int p2), (.int p3)] below meth c T_133_2 locs 2 4100) (e_133_2 : T_133_2.heap = h_133_2) (b1 : Addr) (b2 : Addr) (z133_2_s0 : Int32) (z27_0_s0 : Int32) (z81_1_s0 : Int32) (N_133_2 : Fr n0 locs) (H133_2_Z : n0 ≤ h_133_2.size) (H133_2_E_b1 : Exa Z h_133_2 b1 "com/example/mapcodex/mapcodex/pbf/ObjectBatch") (H133_2_F_b1_objects : Fld Z h_133_2 b1 "com/example/mapcodex/mapcodex/pbf/ObjectBatch" "objects" "[Ljava/lang/Object;" (.ref b2)) (H133_2_F_b1_size : Fld Z h_133_2 b1 "com/example/mapcodex/mapcodex/pbf/ObjectBatch" "size" "I" (.int (2 : Int32))) (H133_2_F_b1_values : Fld Z h_133_2 b1 "com/example/mapcodex/mapcodex/pbf/ObjectBatch" "values" "J" (.long (((0 : Int64) + p1.toInt64) + p2.toInt64))) (H133_2_A_b2 : AryR Z h_133_2 b2 "java/lang/Object" (4096 : Int32) (upd (upd (fun _ => .null) 0 .null) 1 .null)) (ne133_2_b1_b2 : b1 ≠ b2) (ge133_2_b1 : n0 ≤ b1) (ge133_2_b2 : n0 ≤ b2), f0 p0 p1 p2 p3 = f0_133_2 p0 p1 p2 p3 z133_2_s0 z27_0_s0 z81_1_s0 → Fini p e below s (fun v h' L => v = some (.int (f0 p0 p1 p2 p3)) ∧ Fr n0 L) (Room.cells room_1) (Room.slots room_1) T_133_2 (mkF m 133 #[.val (.int p0), .val (.int p1), .val (.int p2), .val (.int p3), .val (.int (p0 &&& (3 : Int32))), .val (.ref b1), .val (.int (z27_0_s0 &&& z81_1_s0)), .val (.long (((0 : Int64) + p1.toInt64) + p2.toInt64)), .second] [(.int z133_2_s0), (.int (z27_0_s0 &&& z81_1_s0))]) := by
    intro T_133_2 h_133_2 locs X_133_2 e_133_2 b1 b2 z133_2_s0 z27_0_s0 z81_1_s0 N_133_2 H133_2_Z H133_2_E_b1 H133_2_F_b1_objects H133_2_F_b1_size H133_2_F_b1_values H133_2_A_b2 ne133_2_b1_b2 ge133_2_b1 ge133_2_b2 hv_133_2
    refine Fini.st (fun _ k => XS.iand X_133_2.here hx rfl (hb hby at_133) rfl k) ?_
    show Fini p e below s _ _ _ T_133_2 (mkF m 134 #[.val (.int p0), .val (.int p1), .val (.int p2), .val (.int p3), .val (.int (p0 &&& (3 : Int32))), .val (.ref b1), .val (.int (z27_0_s0 &&& z81_1_s0)), .val (.long (((0 : Int64) + p1.toInt64) + p2.toInt64)), .second] [(.int ((z27_0_s0 &&& z81_1_s0) &&& z133_2_s0))])
    refine Fini.st (fun _ k => XS.istore X_133_2.here hx rfl (hb hby at_134) rfl (l' := #[.val (.int p0), .val (.int p1), .val (.int p2), .val (.int p3), .val (.int (p0 &&& (3 : Int32))), .val (.ref b1), .val (.int ((z27_0_s0 &&& z81_1_s0) &&& z133_2_s0)), .val (.long (((0 : Int64) + p1.toInt64) + p2.toInt64)), .second]) rfl k) ?_
    show Fini p e below s _ _ _ T_133_2 (mkF m 136 #[.val (.int p0), .val (.int p1), .val (.int p2), .val (.int p3), .val (.int (p0 &&& (3 : Int32))), .val (.ref b1), .val (.int ((z27_0_s0 &&& z81_1_s0) &&& z133_2_s0)), .val (.long (((0 : Int64) + p1.toInt64) + p2.toInt64)), .second] [])
    exact B136_2 T_133_2 _ _ (X_133_2.more (cells' := 2) (slots' := 4100) (by decide) (by decide)) e_133_2 b1 b2 z133_2_s0 z27_0_s0 z81_1_s0 N_133_2 H133_2_Z H133_2_E_b1 H133_2_F_b1_objects H133_2_F_b1_size H133_2_F_b1_values H133_2_A_b2 ne133_2_b1_b2 ge133_2_b1 ge133_2_b2 hv_133_2
  have B125_1 : ∀ (T_125_1 : State) (h_125_1 : Heap) (locs : List Loc) (X_125_1 : Stand p l e room_1 s m #[(.int p0), (.int p1), (.int p2), (.int p3)] below meth c T_125_1 locs 2 4100) (e_125_1 : T_125_1.heap = h_125_1) (b1 : Addr) (b2 : Addr) (z125_1_s0 : Int32) (z27_0_s0 : Int32) (N_125_1 : Fr n0 locs) (H125_1_Z : n0 ≤ h_125_1.size) (H125_1_E_b1 : Exa Z h_125_1 b1 "com/example/mapcodex/mapcodex/pbf/ObjectBatch") (H125_1_F_b1_objects : Fld Z h_125_1 b1 "com/example/mapcodex/mapcodex/pbf/ObjectBatch" "objects" "[Ljava/lang/Object;" (.ref b2)) (H125_1_F_b1_size : Fld Z h_125_1 b1 "com/example/mapcodex/mapcodex/pbf/ObjectBatch" "size" "I" (.int (1 : Int32))) (H125_1_F_b1_values : Fld Z h_125_1 b1 "com/example/mapcodex/mapcodex/pbf/ObjectBatch" "values" "J" (.long ((0 : Int64) + p2.toInt64))) (H125_1_A_b2 : AryR Z h_125_1 b2 "java/lang/Object" (4096 : Int32) (upd (fun _ => .null) 0 .null)) (ne125_1_b1_b2 : b1 ≠ b2) (ge125_1_b1 : n0 ≤ b1) (ge125_1_b2 : n0 ≤ b2), f0 p0 p1 p2 p3 = f0_125_1 p0 p1 p2 p3 z125_1_s0 z27_0_s0 → Fini p e below s (fun v h' L => v = some (.int (f0 p0 p1 p2 p3)) ∧ Fr n0 L) (Room.cells room_1) (Room.slots room_1) T_125_1 (mkF m 125 #[.val (.int p0), .val (.int p1), .val (.int p2), .val (.int p3), .val (.int (p0 &&& (3 : Int32))), .val (.ref b1), .val (.int z27_0_s0), .val (.long ((0 : Int64) + p2.toInt64)), .second] [(.int z125_1_s0), (.int (f3 (1 : Int32) ((0 : Int64) + p2.toInt64))), (.int z27_0_s0)]) := by
    intro T_125_1 h_125_1 locs X_125_1 e_125_1 b1 b2 z125_1_s0 z27_0_s0 N_125_1 H125_1_Z H125_1_E_b1 H125_1_F_b1_objects H125_1_F_b1_size H125_1_F_b1_values H125_1_A_b2 ne125_1_b1_b2 ge125_1_b1 ge125_1_b2 hv_125_1
    by_cases c39 : (f3 (1 : Int32) ((0 : Int64) + p2.toInt64)) = z125_1_s0
    · have hv40 := hv_125_1.trans (if_pos c39)
      refine Fini.st (fun _ k => XS.icmpNo X_125_1.here hx rfl (hb hby at_125) rfl (XT.ii_ne_f c39) k) ?_
      show Fini p e below s _ _ _ T_125_1 (mkF m 128 #[.val (.int p0), .val (.int p1), .val (.int p2), .val (.int p3), .val (.int (p0 &&& (3 : Int32))), .val (.ref b1), .val (.int z27_0_s0), .val (.long ((0 : Int64) + p2.toInt64)), .second] [(.int z27_0_s0)])
      refine Fini.st (fun _ k => XS.iconst X_125_1.here hx rfl (hb hby at_128) k) ?_
      show Fini p e below s _ _ _ T_125_1 (mkF m 129 #[.val (.int p0), .val (.int p1), .val (.int p2), .val (.int p3), .val (.int (p0 &&& (3 : Int32))), .val (.ref b1), .val (.int z27_0_s0), .val (.long ((0 : Int64) + p2.toInt64)), .second] [(.int (1 : Int32)), (.int z27_0_s0)])
      refine Fini.st (fun _ k => XS.goto X_125_1.here hx rfl (pc0 := 129) (pc' := 133) rfl (hb hby at_129) (by decide) (by decide) k) ?_
      show Fini p e below s _ _ _ T_125_1 (mkF m 133 #[.val (.int p0), .val (.int p1), .val (.int p2), .val (.int p3), .val (.int (p0 &&& (3 : Int32))), .val (.ref b1), .val (.int z27_0_s0), .val (.long ((0 : Int64) + p2.toInt64)), .second] [(.int (1 : Int32)), (.int z27_0_s0)])
      exact B133_1 T_125_1 _ _ (X_125_1.more (cells' := 2) (slots' := 4100) (by decide) (by decide)) e_125_1 b1 b2 (1 : Int32) z27_0_s0 N_125_1 H125_1_Z H125_1_E_b1 H125_1_F_b1_objects H125_1_F_b1_size H125_1_F_b1_values H125_1_A_b2 ne125_1_b1_b2 ge125_1_b1 ge125_1_b2 hv40
    · have hv41 := hv_125_1.trans (if_neg c39)
      refine Fini.st (fun _ k => XS.icmpYes X_125_1.here hx rfl (pc0 := 125) (pc' := 132) rfl (hb hby at_125) rfl (XT.ii_ne_t c39) (by decide) (by decide) k) ?_
      show Fini p e below s _ _ _ T_125_1 (mkF m 132 #[.val (.int p0), .val (.int p1), .val (.int p2), .val (.int p3), .val (.int (p0 &&& (3 : Int32))), .val (.ref b1), .val (.int z27_0_s0), .val (.long ((0 : Int64) + p2.toInt64)), .second] [(.int z27_0_s0)])
      refine Fini.st (fun _ k => XS.iconst X_125_1.here hx rfl (hb hby at_132) k) ?_
      show Fini p e below s _ _ _ T_125_1 (mkF m 133 #[.val (.int p0), .val (.int p1), .val (.int p2), .val (.int p3), .val (.int (p0 &&& (3 : Int32))), .val (.ref b1), .val (.int z27_0_s0), .val (.long ((0 : Int64) + p2.toInt64)), .second] [(.int (0 : Int32)), (.int z27_0_s0)])
      exact B133_1 T_125_1 _ _ (X_125_1.more (cells' := 2) (slots' := 4100) (by decide) (by decide)) e_125_1 b1 b2 (0 : Int32) z27_0_s0 N_125_1 H125_1_Z H125_1_E_b1 H125_1_F_b1_objects H125_1_F_b1_size H125_1_F_b1_values H125_1_A_b2 ne125_1_b1_b2 ge125_1_b1 ge125_1_b2 hv41
  have B125_2 : ∀ (T_125_2 : State) (h_125_2 : Heap) (locs : List Loc) (X_125_2 : Stand p l e room_1 s m #[(.int p0), (.int p1), (.int p2), (.int p3)] below meth c T_125_2 locs 2 4100) (e_125_2 : T_125_2.heap = h_125_2) (b1 : Addr) (b2 : Addr) (z125_2_s0 : Int32) (z27_0_s0 : Int32) (z81_1_s0 : Int32) (N_125_2 : Fr n0 locs) (H125_2_Z : n0 ≤ h_125_2.size) (H125_2_E_b1 : Exa Z h_125_2 b1 "com/example/mapcodex/mapcodex/pbf/ObjectBatch") (H125_2_F_b1_objects : Fld Z h_125_2 b1 "com/example/mapcodex/mapcodex/pbf/ObjectBatch" "objects" "[Ljava/lang/Object;" (.ref b2)) (H125_2_F_b1_size : Fld Z h_125_2 b1 "com/example/mapcodex/mapcodex/pbf/ObjectBatch" "size" "I" (.int (2 : Int32))) (H125_2_F_b1_values : Fld Z h_125_2 b1 "com/example/mapcodex/mapcodex/pbf/ObjectBatch" "values" "J" (.long (((0 : Int64) + p1.toInt64) + p2.toInt64))) (H125_2_A_b2 : AryR Z h_125_2 b2 "java/lang/Object" (4096 : Int32) (upd (upd (fun _ => .null) 0 .null) 1 .null)) (ne125_2_b1_b2 : b1 ≠ b2) (ge125_2_b1 : n0 ≤ b1) (ge125_2_b2 : n0 ≤ b2), f0 p0 p1 p2 p3 = f0_125_2 p0 p1 p2 p3 z125_2_s0 z27_0_s0 z81_1_s0 → Fini p e below s (fun v h' L => v = some (.int (f0 p0 p1 p2 p3)) ∧ Fr n0 L) (Room.cells room_1) (Room.slots room_1) T_125_2 (mkF m 125 #[.val (.int p0), .val (.int p1), .val (.int p2), .val (.int p3), .val (.int (p0 &&& (3 : Int32))), .val (.ref b1), .val (.int (z27_0_s0 &&& z81_1_s0)), .val (.long (((0 : Int64) + p1.toInt64) + p2.toInt64)), .second] [(.int z125_2_s0), (.int (f3 (2 : Int32) (((0 : Int64) + p1.toInt64) + p2.toInt64))), (.int (z27_0_s0 &&& z81_1_s0))]) := by
    intro T_125_2 h_125_2 locs X_125_2 e_125_2 b1 b2 z125_2_s0 z27_0_s0 z81_1_s0 N_125_2 H125_2_Z H125_2_E_b1 H125_2_F_b1_objects H125_2_F_b1_size H125_2_F_b1_values H125_2_A_b2 ne125_2_b1_b2 ge125_2_b1 ge125_2_b2 hv_125_2
    by_cases c42 : (f3 (2 : Int32) (((0 : Int64) + p1.toInt64) + p2.toInt64)) = z125_2_s0
    · have hv43 := hv_125_2.trans (if_pos c42)
      refine Fini.st (fun _ k => XS.icmpNo X_125_2.here hx rfl (hb hby at_125) rfl (XT.ii_ne_f c42) k) ?_
      show Fini p e below s _ _ _ T_125_2 (mkF m 128 #[.val (.int p0), .val (.int p1), .val (.int p2), .val (.int p3), .val (.int (p0 &&& (3 : Int32))), .val (.ref b1), .val (.int (z27_0_s0 &&& z81_1_s0)), .val (.long (((0 : Int64) + p1.toInt64) + p2.toInt64)), .second] [(.int (z27_0_s0 &&& z81_1_s0))])
      refine Fini.st (fun _ k => XS.iconst X_125_2.here hx rfl (hb hby at_128) k) ?_
      show Fini p e below s _ _ _ T_125_2 (mkF m 129 #[.val (.int p0), .val (.int p1), .val (.int p2), .val (.int p3), .val (.int (p0 &&& (3 : Int32))), .val (.ref b1), .val (.int (z27_0_s0 &&& z81_1_s0)), .val (.long (((0 : Int64) + p1.toInt64) + p2.toInt64)), .second] [(.int (1 : Int32)), (.int (z27_0_s0 &&& z81_1_s0))])
      refine Fini.st (fun _ k => XS.goto X_125_2.here hx rfl (pc0 := 129) (pc' := 133) rfl (hb hby at_129) (by decide) (by decide) k) ?_
      show Fini p e below s _ _ _ T_125_2 (mkF m 133 #[.val (.int p0), .val (.int p1), .val (.int p2), .val (.int p3), .val (.int (p0 &&& (3 : Int32))), .val (.ref b1), .val (.int (z27_0_s0 &&& z81_1_s0)), .val (.long (((0 : Int64) + p1.toInt64) + p2.toInt64)), .second] [(.int (1 : Int32)), (.int (z27_0_s0 &&& z81_1_s0))])
      exact B133_2 T_125_2 _ _ (X_125_2.more (cells' := 2) (slots' := 4100) (by decide) (by decide)) e_125_2 b1 b2 (1 : Int32) z27_0_s0 z81_1_s0 N_125_2 H125_2_Z H125_2_E_b1 H125_2_F_b1_objects H125_2_F_b1_size H125_2_F_b1_values H125_2_A_b2 ne125_2_b1_b2 ge125_2_b1 ge125_2_b2 hv43
    · have hv44 := hv_125_2.trans (if_neg c42)
      refine Fini.st (fun _ k => XS.icmpYes X_125_2.here hx rfl (pc0 := 125) (pc' := 132) rfl (hb hby at_125) rfl (XT.ii_ne_t c42) (by decide) (by decide) k) ?_
      show Fini p e below s _ _ _ T_125_2 (mkF m 132 #[.val (.int p0), .val (.int p1), .val (.int p2), .val (.int p3), .val (.int (p0 &&& (3 : Int32))), .val (.ref b1), .val (.int (z27_0_s0 &&& z81_1_s0)), .val (.long (((0 : Int64) + p1.toInt64) + p2.toInt64)), .second] [(.int (z27_0_s0 &&& z81_1_s0))])
      refine Fini.st (fun _ k => XS.iconst X_125_2.here hx rfl (hb hby at_132) k) ?_
      show Fini p e below s _ _ _ T_125_2 (mkF m 133 #[.val (.int p0), .val (.int p1), .val (.int p2), .val (.int p3), .val (.int (p0 &&& (3 : Int32))), .val (.ref b1), .val (.int (z27_0_s0 &&& z81_1_s0)), .val (.long (((0 : Int64) + p1.toInt64) + p2.toInt64)), .second] [(.int (0 : Int32)), (.int (z27_0_s0 &&& z81_1_s0))])
      exact B133_2 T_125_2 _ _ (X_125_2.more (cells' := 2) (slots' := 4100) (by decide) (by decide)) e_125_2 b1 b2 (0 : Int32) z27_0_s0 z81_1_s0 N_125_2 H125_2_Z H125_2_E_b1 H125_2_F_b1_objects H125_2_F_b1_size H125_2_F_b1_values H125_2_A_b2 ne125_2_b1_b2 ge125_2_b1 ge125_2_b2 hv44
  have B84_0 : ∀ (T_84_0 : State) (h_84_0 : Heap) (locs : List Loc) (X_84_0 : Stand p l e room_1 s m #[(.int p0), (.int p1), (.int p2), (.int p3)] below meth c T_84_0 locs 2 4100) (e_84_0 : T_84_0.heap = h_84_0) (b1 : Addr) (b2 : Addr) (z27_0_s0 : Int32) (N_84_0 : Fr n0 locs) (H84_0_Z : n0 ≤ h_84_0.size) (H84_0_E_b1 : Exa Z h_84_0 b1 "com/example/mapcodex/mapcodex/pbf/ObjectBatch") (H84_0_F_b1_objects : Fld Z h_84_0 b1 "com/example/mapcodex/mapcodex/pbf/ObjectBatch" "objects" "[Ljava/lang/Object;" (.ref b2)) (H84_0_F_b1_size : Fld Z h_84_0 b1 "com/example/mapcodex/mapcodex/pbf/ObjectBatch" "size" "I" (.int (0 : Int32))) (H84_0_F_b1_values : Fld Z h_84_0 b1 "com/example/mapcodex/mapcodex/pbf/ObjectBatch" "values" "J" (.long (0 : Int64))) (H84_0_A_b2 : AryR Z h_84_0 b2 "java/lang/Object" (4096 : Int32) (fun _ => .null)) (ne84_0_b1_b2 : b1 ≠ b2) (ge84_0_b1 : n0 ≤ b1) (ge84_0_b2 : n0 ≤ b2), f0 p0 p1 p2 p3 = f0_84_0 p0 p1 p2 p3 z27_0_s0 → Fini p e below s (fun v h' L => v = some (.int (f0 p0 p1 p2 p3)) ∧ Fr n0 L) (Room.cells room_1) (Room.slots room_1) T_84_0 (mkF m 84 #[.val (.int p0), .val (.int p1), .val (.int p2), .val (.int p3), .val (.int (p0 &&& (3 : Int32))), .val (.ref b1), .val (.int z27_0_s0), .val (.long (0 : Int64)), .second] []) := by
    intro T_84_0 h_84_0 locs X_84_0 e_84_0 b1 b2 z27_0_s0 N_84_0 H84_0_Z H84_0_E_b1 H84_0_F_b1_objects H84_0_F_b1_size H84_0_F_b1_values H84_0_A_b2 ne84_0_b1_b2 ge84_0_b1 ge84_0_b2 hv_84_0
    refine Fini.st (fun _ k => XS.iload X_84_0.here hx rfl (hb hby at_84) rfl k) ?_
    show Fini p e below s _ _ _ T_84_0 (mkF m 86 #[.val (.int p0), .val (.int p1), .val (.int p2), .val (.int p3), .val (.int (p0 &&& (3 : Int32))), .val (.ref b1), .val (.int z27_0_s0), .val (.long (0 : Int64)), .second] [(.int (p0 &&& (3 : Int32)))])
    refine Fini.st (fun _ k => XS.iconst X_84_0.here hx rfl (hb hby at_86) k) ?_
    show Fini p e below s _ _ _ T_84_0 (mkF m 87 #[.val (.int p0), .val (.int p1), .val (.int p2), .val (.int p3), .val (.int (p0 &&& (3 : Int32))), .val (.ref b1), .val (.int z27_0_s0), .val (.long (0 : Int64)), .second] [(.int (2 : Int32)), (.int (p0 &&& (3 : Int32)))])
    by_cases c21 : (p0 &&& (3 : Int32)) < (2 : Int32)
    · have hv22 := hv_84_0.trans (if_pos c21)
      refine Fini.st (fun _ k => XS.icmpYes X_84_0.here hx rfl (pc0 := 87) (pc' := 136) rfl (hb hby at_87) rfl (XT.ii_lt_t c21) (by decide) (by decide) k) ?_
      show Fini p e below s _ _ _ T_84_0 (mkF m 136 #[.val (.int p0), .val (.int p1), .val (.int p2), .val (.int p3), .val (.int (p0 &&& (3 : Int32))), .val (.ref b1), .val (.int z27_0_s0), .val (.long (0 : Int64)), .second] [])
      exact B136_0 T_84_0 _ _ (X_84_0.more (cells' := 2) (slots' := 4100) (by decide) (by decide)) e_84_0 b1 b2 z27_0_s0 N_84_0 H84_0_Z H84_0_E_b1 H84_0_F_b1_objects H84_0_F_b1_size H84_0_F_b1_values H84_0_A_b2 ne84_0_b1_b2 ge84_0_b1 ge84_0_b2 hv22
    · have hv23 := hv_84_0.trans (if_neg c21)
      refine Fini.st (fun _ k => XS.icmpNo X_84_0.here hx rfl (hb hby at_87) rfl (XT.ii_lt_f c21) k) ?_
      show Fini p e below s _ _ _ T_84_0 (mkF m 90 #[.val (.int p0), .val (.int p1), .val (.int p2), .val (.int p3), .val (.int (p0 &&& (3 : Int32))), .val (.ref b1), .val (.int z27_0_s0), .val (.long (0 : Int64)), .second] [])
      refine Fini.st (fun _ k => XS.aload X_84_0.here hx rfl (hb hby at_90) rfl rfl k) ?_
      show Fini p e below s _ _ _ T_84_0 (mkF m 92 #[.val (.int p0), .val (.int p1), .val (.int p2), .val (.int p3), .val (.int (p0 &&& (3 : Int32))), .val (.ref b1), .val (.int z27_0_s0), .val (.long (0 : Int64)), .second] [(.ref b1)])
      refine Fini.st (fun _ k => XS.aconstNull X_84_0.here hx rfl (hb hby at_92) k) ?_
      show Fini p e below s _ _ _ T_84_0 (mkF m 93 #[.val (.int p0), .val (.int p1), .val (.int p2), .val (.int p3), .val (.int (p0 &&& (3 : Int32))), .val (.ref b1), .val (.int z27_0_s0), .val (.long (0 : Int64)), .second] [.null, (.ref b1)])
      refine Fini.st (fun _ k => XS.iloadN X_84_0.here hx rfl (hb hby at_93) rfl k) ?_
      show Fini p e below s _ _ _ T_84_0 (mkF m 94 #[.val (.int p0), .val (.int p1), .val (.int p2), .val (.int p3), .val (.int (p0 &&& (3 : Int32))), .val (.ref b1), .val (.int z27_0_s0), .val (.long (0 : Int64)), .second] [(.int p2), .null, (.ref b1)])
      obtain ⟨v24, T24, L24, X24, hQ24, st24⟩ := callV X_84_0 hx hZ hown (hw _ (List.mem_of_getElem? (i := 23) rfl)) (hw _ (List.mem_of_getElem? (i := 24) rfl)) (hw _ (List.mem_of_getElem? (i := 26) rfl)) (hw _ (List.mem_of_getElem? (i := 25) rfl)) (hw _ (List.mem_of_getElem? (i := 2) rfl)) (hw _ (List.mem_of_getElem? (i := 27) rfl)) (notFace_of_selects (args := #[]) (mvT hZ (hw _ (List.mem_of_getElem? (i := 26) rfl)))) H84_0_E_b1 (by decide) (rm4 l Z a0 hw [] b1 p2 b2 (0 : Int32) (0 : Int64) (fun _ => .null) h_84_0 n0 H84_0_Z H84_0_E_b1 H84_0_F_b1_objects H84_0_F_b1_size H84_0_F_b1_values H84_0_A_b2 ge84_0_b1 ge84_0_b2 ne84_0_b1_b2 (⟨by decide, by decide⟩)) e_84_0 (W := 0) (by decide) (by decide) (by decide) (by decide) (g := (mkF m 94 #[.val (.int p0), .val (.int p1), .val (.int p2), .val (.int p3), .val (.int (p0 &&& (3 : Int32))), .val (.ref b1), .val (.int z27_0_s0), .val (.long (0 : Int64)), .second] [(.int p2), .null, (.ref b1)])) rfl (by rw [hml]; rfl) (argsL := [.null, (.int p2)]) (rest := []) rfl (lenOf pd_2 rfl) rfl (by show 2 * 0 + _ ≤ _; exact Nat.le_of_eq rfl) (hb hby at_94)
      obtain ⟨rfl, Nq24, K24, Fo24, Ar24, Fs24, Fv24⟩ := hQ24
      have N24 := Fr.app N_84_0 Nq24
      refine Fini.st st24 ?_
      show Fini p e below s _ _ _ T24 (mkF m 97 #[.val (.int p0), .val (.int p1), .val (.int p2), .val (.int p3), .val (.int (p0 &&& (3 : Int32))), .val (.ref b1), .val (.int z27_0_s0), .val (.long (0 : Int64)), .second] [])
      refine Fini.st (fun _ k => XS.lload X24.here hx rfl (hb hby at_97) rfl k) ?_
      show Fini p e below s _ _ _ T24 (mkF m 99 #[.val (.int p0), .val (.int p1), .val (.int p2), .val (.int p3), .val (.int (p0 &&& (3 : Int32))), .val (.ref b1), .val (.int z27_0_s0), .val (.long (0 : Int64)), .second] [(.long (0 : Int64))])
      refine Fini.st (fun _ k => XS.iloadN X24.here hx rfl (hb hby at_99) rfl k) ?_
      show Fini p e below s _ _ _ T24 (mkF m 100 #[.val (.int p0), .val (.int p1), .val (.int p2), .val (.int p3), .val (.int (p0 &&& (3 : Int32))), .val (.ref b1), .val (.int z27_0_s0), .val (.long (0 : Int64)), .second] [(.int p2), (.long (0 : Int64))])
      refine Fini.st (fun _ k => XS.i2l X24.here hx rfl (hb hby at_100) rfl k) ?_
      show Fini p e below s _ _ _ T24 (mkF m 101 #[.val (.int p0), .val (.int p1), .val (.int p2), .val (.int p3), .val (.int (p0 &&& (3 : Int32))), .val (.ref b1), .val (.int z27_0_s0), .val (.long (0 : Int64)), .second] [(.long p2.toInt64), (.long (0 : Int64))])
      refine Fini.st (fun _ k => XS.ladd X24.here hx rfl (hb hby at_101) rfl k) ?_
      show Fini p e below s _ _ _ T24 (mkF m 102 #[.val (.int p0), .val (.int p1), .val (.int p2), .val (.int p3), .val (.int (p0 &&& (3 : Int32))), .val (.ref b1), .val (.int z27_0_s0), .val (.long (0 : Int64)), .second] [(.long ((0 : Int64) + p2.toInt64))])
      refine Fini.st (fun _ k => XS.lstore X24.here hx rfl (hb hby at_102) rfl (l' := #[.val (.int p0), .val (.int p1), .val (.int p2), .val (.int p3), .val (.int (p0 &&& (3 : Int32))), .val (.ref b1), .val (.int z27_0_s0), .val (.long ((0 : Int64) + p2.toInt64)), .second]) rfl k) ?_
      show Fini p e below s _ _ _ T24 (mkF m 104 #[.val (.int p0), .val (.int p1), .val (.int p2), .val (.int p3), .val (.int (p0 &&& (3 : Int32))), .val (.ref b1), .val (.int z27_0_s0), .val (.long ((0 : Int64) + p2.toInt64)), .second] [])
      refine Fini.st (fun _ k => XS.iload X24.here hx rfl (hb hby at_104) rfl k) ?_
      show Fini p e below s _ _ _ T24 (mkF m 106 #[.val (.int p0), .val (.int p1), .val (.int p2), .val (.int p3), .val (.int (p0 &&& (3 : Int32))), .val (.ref b1), .val (.int z27_0_s0), .val (.long ((0 : Int64) + p2.toInt64)), .second] [(.int z27_0_s0)])
      refine Fini.st (fun _ k => XS.aload X24.here hx rfl (hb hby at_106) rfl rfl k) ?_
      show Fini p e below s _ _ _ T24 (mkF m 108 #[.val (.int p0), .val (.int p1), .val (.int p2), .val (.int p3), .val (.int (p0 &&& (3 : Int32))), .val (.ref b1), .val (.int z27_0_s0), .val (.long ((0 : Int64) + p2.toInt64)), .second] [(.ref b1), (.int z27_0_s0)])
      have Ex_26 : Exa Z T24.heap b1 "com/example/mapcodex/mapcodex/pbf/ObjectBatch" := (H84_0_E_b1.keep K24)
      obtain ⟨T25, X25, e25, st25⟩ := pureV X24 hx hZ hown (hw _ (List.mem_of_getElem? (i := 13) rfl)) (hw _ (List.mem_of_getElem? (i := 14) rfl)) (hw _ (List.mem_of_getElem? (i := 16) rfl)) (hw _ (List.mem_of_getElem? (i := 15) rfl)) (hw _ (List.mem_of_getElem? (i := 2) rfl)) (hw _ (List.mem_of_getElem? (i := 17) rfl)) (notFace_of_selects (args := #[]) (mvT hZ (hw _ (List.mem_of_getElem? (i := 16) rfl)))) Ex_26 (by decide) (rm3 l Z a0 hw [] b1 (1 : Int32) ((0 : Int64) + p2.toInt64) T24.heap Fs24 Fv24) rfl (W := 1) (by decide) (by decide) (by decide) (by decide) (g := (mkF m 108 #[.val (.int p0), .val (.int p1), .val (.int p2), .val (.int p3), .val (.int (p0 &&& (3 : Int32))), .val (.ref b1), .val (.int z27_0_s0), .val (.long ((0 : Int64) + p2.toInt64)), .second] [(.ref b1), (.int z27_0_s0)])) rfl (by rw [hml]; rfl) (argsL := []) (rest := [(.int z27_0_s0)]) rfl (lenOf pd_1 rfl) rfl (by show 2 * 0 + _ ≤ _; exact Nat.le_of_eq rfl) (hb hby at_108)
      refine Fini.st st25 ?_
      show Fini p e below s _ _ _ T25 (mkF m 111 #[.val (.int p0), .val (.int p1), .val (.int p2), .val (.int p3), .val (.int (p0 &&& (3 : Int32))), .val (.ref b1), .val (.int z27_0_s0), .val (.long ((0 : Int64) + p2.toInt64)), .second] [(.int (f3 (1 : Int32) ((0 : Int64) + p2.toInt64))), (.int z27_0_s0)])
      refine Fini.st (fun _ k => XS.lload X25.here hx rfl (hb hby at_111) rfl k) ?_
      show Fini p e below s _ _ _ T25 (mkF m 113 #[.val (.int p0), .val (.int p1), .val (.int p2), .val (.int p3), .val (.int (p0 &&& (3 : Int32))), .val (.ref b1), .val (.int z27_0_s0), .val (.long ((0 : Int64) + p2.toInt64)), .second] [(.long ((0 : Int64) + p2.toInt64)), (.int (f3 (1 : Int32) ((0 : Int64) + p2.toInt64))), (.int z27_0_s0)])
      refine Fini.st (fun _ k => X25.ldc2J hx hown (mvT hZ (hw _ (List.mem_of_getElem? (i := 28) rfl))) rfl (hb hby at_113) k) ?_
      show Fini p e below s _ _ _ T25 (mkF m 116 #[.val (.int p0), .val (.int p1), .val (.int p2), .val (.int p3), .val (.int (p0 &&& (3 : Int32))), .val (.ref b1), .val (.int z27_0_s0), .val (.long ((0 : Int64) + p2.toInt64)), .second] [(.long (16384 : Int64)), (.long ((0 : Int64) + p2.toInt64)), (.int (f3 (1 : Int32) ((0 : Int64) + p2.toInt64))), (.int z27_0_s0)])
      refine Fini.st (fun _ k => XT.lcmp X25.here hx rfl (hb hby at_116) rfl k) ?_
      show Fini p e below s _ _ _ T25 (mkF m 117 #[.val (.int p0), .val (.int p1), .val (.int p2), .val (.int p3), .val (.int (p0 &&& (3 : Int32))), .val (.ref b1), .val (.int z27_0_s0), .val (.long ((0 : Int64) + p2.toInt64)), .second] [(.int (XT.cmpL ((0 : Int64) + p2.toInt64) (16384 : Int64))), (.int (f3 (1 : Int32) ((0 : Int64) + p2.toInt64))), (.int z27_0_s0)])
      by_cases c27 : ((0 : Int64) + p2.toInt64) < (16384 : Int64)
      · have hv28 := hv23.trans (if_pos c27)
        refine Fini.st (fun _ k => XS.ifYes X25.here hx rfl (pc0 := 117) (pc' := 124) rfl (hb hby at_117) rfl (XT.ll_lt_t c27) (by decide) (by decide) k) ?_
        show Fini p e below s _ _ _ T25 (mkF m 124 #[.val (.int p0), .val (.int p1), .val (.int p2), .val (.int p3), .val (.int (p0 &&& (3 : Int32))), .val (.ref b1), .val (.int z27_0_s0), .val (.long ((0 : Int64) + p2.toInt64)), .second] [(.int (f3 (1 : Int32) ((0 : Int64) + p2.toInt64))), (.int z27_0_s0)])
        refine Fini.st (fun _ k => XS.iconst X25.here hx rfl (hb hby at_124) k) ?_
        show Fini p e below s _ _ _ T25 (mkF m 125 #[.val (.int p0), .val (.int p1), .val (.int p2), .val (.int p3), .val (.int (p0 &&& (3 : Int32))), .val (.ref b1), .val (.int z27_0_s0), .val (.long ((0 : Int64) + p2.toInt64)), .second] [(.int (0 : Int32)), (.int (f3 (1 : Int32) ((0 : Int64) + p2.toInt64))), (.int z27_0_s0)])
        have Zs_87 : n0 ≤ T24.heap.size := (Nat.le_trans H84_0_Z K24.1)
        exact B125_1 T25 _ _ (X25.more (cells' := 2) (slots' := 4100) (by decide) (by decide)) e25 b1 b2 (0 : Int32) z27_0_s0 N24 Zs_87 Ex_26 Fo24 Fs24 Fv24 Ar24 ne84_0_b1_b2 ge84_0_b1 ge84_0_b2 hv28
      · have hv29 := hv23.trans (if_neg c27)
        refine Fini.st (fun _ k => XS.ifNo X25.here hx rfl (hb hby at_117) rfl (XT.ll_lt_f c27) k) ?_
        show Fini p e below s _ _ _ T25 (mkF m 120 #[.val (.int p0), .val (.int p1), .val (.int p2), .val (.int p3), .val (.int (p0 &&& (3 : Int32))), .val (.ref b1), .val (.int z27_0_s0), .val (.long ((0 : Int64) + p2.toInt64)), .second] [(.int (f3 (1 : Int32) ((0 : Int64) + p2.toInt64))), (.int z27_0_s0)])
        refine Fini.st (fun _ k => XS.iconst X25.here hx rfl (hb hby at_120) k) ?_
        show Fini p e below s _ _ _ T25 (mkF m 121 #[.val (.int p0), .val (.int p1), .val (.int p2), .val (.int p3), .val (.int (p0 &&& (3 : Int32))), .val (.ref b1), .val (.int z27_0_s0), .val (.long ((0 : Int64) + p2.toInt64)), .second] [(.int (1 : Int32)), (.int (f3 (1 : Int32) ((0 : Int64) + p2.toInt64))), (.int z27_0_s0)])
        refine Fini.st (fun _ k => XS.goto X25.here hx rfl (pc0 := 121) (pc' := 125) rfl (hb hby at_121) (by decide) (by decide) k) ?_
        show Fini p e below s _ _ _ T25 (mkF m 125 #[.val (.int p0), .val (.int p1), .val (.int p2), .val (.int p3), .val (.int (p0 &&& (3 : Int32))), .val (.ref b1), .val (.int z27_0_s0), .val (.long ((0 : Int64) + p2.toInt64)), .second] [(.int (1 : Int32)), (.int (f3 (1 : Int32) ((0 : Int64) + p2.toInt64))), (.int z27_0_s0)])
        have Zs_88 : n0 ≤ T24.heap.size := (Nat.le_trans H84_0_Z K24.1)
        exact B125_1 T25 _ _ (X25.more (cells' := 2) (slots' := 4100) (by decide) (by decide)) e25 b1 b2 (1 : Int32) z27_0_s0 N24 Zs_88 Ex_26 Fo24 Fs24 Fv24 Ar24 ne84_0_b1_b2 ge84_0_b1 ge84_0_b2 hv29
  have B84_1 : ∀ (T_84_1 : State) (h_84_1 : Heap) (locs : List Loc) (X_84_1 : Stand p l e room_1 s m #[(.int p0), (.int p1), (.int p2), (.int p3)] below meth c T_84_1 locs 2 4100) (e_84_1 : T_84_1.heap = h_84_1) (b1 : Addr) (b2 : Addr) (z27_0_s0 : Int32) (z81_1_s0 : Int32) (N_84_1 : Fr n0 locs) (H84_1_Z : n0 ≤ h_84_1.size) (H84_1_E_b1 : Exa Z h_84_1 b1 "com/example/mapcodex/mapcodex/pbf/ObjectBatch") (H84_1_F_b1_objects : Fld Z h_84_1 b1 "com/example/mapcodex/mapcodex/pbf/ObjectBatch" "objects" "[Ljava/lang/Object;" (.ref b2)) (H84_1_F_b1_size : Fld Z h_84_1 b1 "com/example/mapcodex/mapcodex/pbf/ObjectBatch" "size" "I" (.int (1 : Int32))) (H84_1_F_b1_values : Fld Z h_84_1 b1 "com/example/mapcodex/mapcodex/pbf/ObjectBatch" "values" "J" (.long ((0 : Int64) + p1.toInt64))) (H84_1_A_b2 : AryR Z h_84_1 b2 "java/lang/Object" (4096 : Int32) (upd (fun _ => .null) 0 .null)) (ne84_1_b1_b2 : b1 ≠ b2) (ge84_1_b1 : n0 ≤ b1) (ge84_1_b2 : n0 ≤ b2), f0 p0 p1 p2 p3 = f0_84_1 p0 p1 p2 p3 z27_0_s0 z81_1_s0 → Fini p e below s (fun v h' L => v = some (.int (f0 p0 p1 p2 p3)) ∧ Fr n0 L) (Room.cells room_1) (Room.slots room_1) T_84_1 (mkF m 84 #[.val (.int p0), .val (.int p1), .val (.int p2), .val (.int p3), .val (.int (p0 &&& (3 : Int32))), .val (.ref b1), .val (.int (z27_0_s0 &&& z81_1_s0)), .val (.long ((0 : Int64) + p1.toInt64)), .second] []) := by
    intro T_84_1 h_84_1 locs X_84_1 e_84_1 b1 b2 z27_0_s0 z81_1_s0 N_84_1 H84_1_Z H84_1_E_b1 H84_1_F_b1_objects H84_1_F_b1_size H84_1_F_b1_values H84_1_A_b2 ne84_1_b1_b2 ge84_1_b1 ge84_1_b2 hv_84_1
    refine Fini.st (fun _ k => XS.iload X_84_1.here hx rfl (hb hby at_84) rfl k) ?_
    show Fini p e below s _ _ _ T_84_1 (mkF m 86 #[.val (.int p0), .val (.int p1), .val (.int p2), .val (.int p3), .val (.int (p0 &&& (3 : Int32))), .val (.ref b1), .val (.int (z27_0_s0 &&& z81_1_s0)), .val (.long ((0 : Int64) + p1.toInt64)), .second] [(.int (p0 &&& (3 : Int32)))])
    refine Fini.st (fun _ k => XS.iconst X_84_1.here hx rfl (hb hby at_86) k) ?_
    show Fini p e below s _ _ _ T_84_1 (mkF m 87 #[.val (.int p0), .val (.int p1), .val (.int p2), .val (.int p3), .val (.int (p0 &&& (3 : Int32))), .val (.ref b1), .val (.int (z27_0_s0 &&& z81_1_s0)), .val (.long ((0 : Int64) + p1.toInt64)), .second] [(.int (2 : Int32)), (.int (p0 &&& (3 : Int32)))])
    by_cases c30 : (p0 &&& (3 : Int32)) < (2 : Int32)
    · have hv31 := hv_84_1.trans (if_pos c30)
      refine Fini.st (fun _ k => XS.icmpYes X_84_1.here hx rfl (pc0 := 87) (pc' := 136) rfl (hb hby at_87) rfl (XT.ii_lt_t c30) (by decide) (by decide) k) ?_
      show Fini p e below s _ _ _ T_84_1 (mkF m 136 #[.val (.int p0), .val (.int p1), .val (.int p2), .val (.int p3), .val (.int (p0 &&& (3 : Int32))), .val (.ref b1), .val (.int (z27_0_s0 &&& z81_1_s0)), .val (.long ((0 : Int64) + p1.toInt64)), .second] [])
      exact B136_1 T_84_1 _ _ (X_84_1.more (cells' := 2) (slots' := 4100) (by decide) (by decide)) e_84_1 b1 b2 (z27_0_s0 &&& z81_1_s0) ((0 : Int64) + p1.toInt64) ((0 : Int64) + p1.toInt64) N_84_1 H84_1_Z H84_1_E_b1 H84_1_F_b1_objects H84_1_F_b1_size H84_1_F_b1_values H84_1_A_b2 ne84_1_b1_b2 ge84_1_b1 ge84_1_b2 hv31
    · have hv32 := hv_84_1.trans (if_neg c30)
      refine Fini.st (fun _ k => XS.icmpNo X_84_1.here hx rfl (hb hby at_87) rfl (XT.ii_lt_f c30) k) ?_
      show Fini p e below s _ _ _ T_84_1 (mkF m 90 #[.val (.int p0), .val (.int p1), .val (.int p2), .val (.int p3), .val (.int (p0 &&& (3 : Int32))), .val (.ref b1), .val (.int (z27_0_s0 &&& z81_1_s0)), .val (.long ((0 : Int64) + p1.toInt64)), .second] [])
      refine Fini.st (fun _ k => XS.aload X_84_1.here hx rfl (hb hby at_90) rfl rfl k) ?_
      show Fini p e below s _ _ _ T_84_1 (mkF m 92 #[.val (.int p0), .val (.int p1), .val (.int p2), .val (.int p3), .val (.int (p0 &&& (3 : Int32))), .val (.ref b1), .val (.int (z27_0_s0 &&& z81_1_s0)), .val (.long ((0 : Int64) + p1.toInt64)), .second] [(.ref b1)])
      refine Fini.st (fun _ k => XS.aconstNull X_84_1.here hx rfl (hb hby at_92) k) ?_
      show Fini p e below s _ _ _ T_84_1 (mkF m 93 #[.val (.int p0), .val (.int p1), .val (.int p2), .val (.int p3), .val (.int (p0 &&& (3 : Int32))), .val (.ref b1), .val (.int (z27_0_s0 &&& z81_1_s0)), .val (.long ((0 : Int64) + p1.toInt64)), .second] [.null, (.ref b1)])
      refine Fini.st (fun _ k => XS.iloadN X_84_1.here hx rfl (hb hby at_93) rfl k) ?_
      show Fini p e below s _ _ _ T_84_1 (mkF m 94 #[.val (.int p0), .val (.int p1), .val (.int p2), .val (.int p3), .val (.int (p0 &&& (3 : Int32))), .val (.ref b1), .val (.int (z27_0_s0 &&& z81_1_s0)), .val (.long ((0 : Int64) + p1.toInt64)), .second] [(.int p2), .null, (.ref b1)])
      obtain ⟨v33, T33, L33, X33, hQ33, st33⟩ := callV X_84_1 hx hZ hown (hw _ (List.mem_of_getElem? (i := 23) rfl)) (hw _ (List.mem_of_getElem? (i := 24) rfl)) (hw _ (List.mem_of_getElem? (i := 26) rfl)) (hw _ (List.mem_of_getElem? (i := 25) rfl)) (hw _ (List.mem_of_getElem? (i := 2) rfl)) (hw _ (List.mem_of_getElem? (i := 27) rfl)) (notFace_of_selects (args := #[]) (mvT hZ (hw _ (List.mem_of_getElem? (i := 26) rfl)))) H84_1_E_b1 (by decide) (rm4 l Z a0 hw [] b1 p2 b2 (1 : Int32) ((0 : Int64) + p1.toInt64) (upd (fun _ => .null) 0 .null) h_84_1 n0 H84_1_Z H84_1_E_b1 H84_1_F_b1_objects H84_1_F_b1_size H84_1_F_b1_values H84_1_A_b2 ge84_1_b1 ge84_1_b2 ne84_1_b1_b2 (⟨by decide, by decide⟩)) e_84_1 (W := 0) (by decide) (by decide) (by decide) (by decide) (g := (mkF m 94 #[.val (.int p0), .val (.int p1), .val (.int p2), .val (.int p3), .val (.int (p0 &&& (3 : Int32))), .val (.ref b1), .val (.int (z27_0_s0 &&& z81_1_s0)), .val (.long ((0 : Int64) + p1.toInt64)), .second] [(.int p2), .null, (.ref b1)])) rfl (by rw [hml]; rfl) (argsL := [.null, (.int p2)]) (rest := []) rfl (lenOf pd_2 rfl) rfl (by show 2 * 0 + _ ≤ _; exact Nat.le_of_eq rfl) (hb hby at_94)
      obtain ⟨rfl, Nq33, K33, Fo33, Ar33, Fs33, Fv33⟩ := hQ33
      have N33 := Fr.app N_84_1 Nq33
      refine Fini.st st33 ?_
      show Fini p e below s _ _ _ T33 (mkF m 97 #[.val (.int p0), .val (.int p1), .val (.int p2), .val (.int p3), .val (.int (p0 &&& (3 : Int32))), .val (.ref b1), .val (.int (z27_0_s0 &&& z81_1_s0)), .val (.long ((0 : Int64) + p1.toInt64)), .second] [])
      refine Fini.st (fun _ k => XS.lload X33.here hx rfl (hb hby at_97) rfl k) ?_
      show Fini p e below s _ _ _ T33 (mkF m 99 #[.val (.int p0), .val (.int p1), .val (.int p2), .val (.int p3), .val (.int (p0 &&& (3 : Int32))), .val (.ref b1), .val (.int (z27_0_s0 &&& z81_1_s0)), .val (.long ((0 : Int64) + p1.toInt64)), .second] [(.long ((0 : Int64) + p1.toInt64))])
      refine Fini.st (fun _ k => XS.iloadN X33.here hx rfl (hb hby at_99) rfl k) ?_
      show Fini p e below s _ _ _ T33 (mkF m 100 #[.val (.int p0), .val (.int p1), .val (.int p2), .val (.int p3), .val (.int (p0 &&& (3 : Int32))), .val (.ref b1), .val (.int (z27_0_s0 &&& z81_1_s0)), .val (.long ((0 : Int64) + p1.toInt64)), .second] [(.int p2), (.long ((0 : Int64) + p1.toInt64))])
      refine Fini.st (fun _ k => XS.i2l X33.here hx rfl (hb hby at_100) rfl k) ?_
      show Fini p e below s _ _ _ T33 (mkF m 101 #[.val (.int p0), .val (.int p1), .val (.int p2), .val (.int p3), .val (.int (p0 &&& (3 : Int32))), .val (.ref b1), .val (.int (z27_0_s0 &&& z81_1_s0)), .val (.long ((0 : Int64) + p1.toInt64)), .second] [(.long p2.toInt64), (.long ((0 : Int64) + p1.toInt64))])
      refine Fini.st (fun _ k => XS.ladd X33.here hx rfl (hb hby at_101) rfl k) ?_
      show Fini p e below s _ _ _ T33 (mkF m 102 #[.val (.int p0), .val (.int p1), .val (.int p2), .val (.int p3), .val (.int (p0 &&& (3 : Int32))), .val (.ref b1), .val (.int (z27_0_s0 &&& z81_1_s0)), .val (.long ((0 : Int64) + p1.toInt64)), .second] [(.long (((0 : Int64) + p1.toInt64) + p2.toInt64))])
      refine Fini.st (fun _ k => XS.lstore X33.here hx rfl (hb hby at_102) rfl (l' := #[.val (.int p0), .val (.int p1), .val (.int p2), .val (.int p3), .val (.int (p0 &&& (3 : Int32))), .val (.ref b1), .val (.int (z27_0_s0 &&& z81_1_s0)), .val (.long (((0 : Int64) + p1.toInt64) + p2.toInt64)), .second]) rfl k) ?_
      show Fini p e below s _ _ _ T33 (mkF m 104 #[.val (.int p0), .val (.int p1), .val (.int p2), .val (.int p3), .val (.int (p0 &&& (3 : Int32))), .val (.ref b1), .val (.int (z27_0_s0 &&& z81_1_s0)), .val (.long (((0 : Int64) + p1.toInt64) + p2.toInt64)), .second] [])
      refine Fini.st (fun _ k => XS.iload X33.here hx rfl (hb hby at_104) rfl k) ?_
      show Fini p e below s _ _ _ T33 (mkF m 106 #[.val (.int p0), .val (.int p1), .val (.int p2), .val (.int p3), .val (.int (p0 &&& (3 : Int32))), .val (.ref b1), .val (.int (z27_0_s0 &&& z81_1_s0)), .val (.long (((0 : Int64) + p1.toInt64) + p2.toInt64)), .second] [(.int (z27_0_s0 &&& z81_1_s0))])
      refine Fini.st (fun _ k => XS.aload X33.here hx rfl (hb hby at_106) rfl rfl k) ?_
      show Fini p e below s _ _ _ T33 (mkF m 108 #[.val (.int p0), .val (.int p1), .val (.int p2), .val (.int p3), .val (.int (p0 &&& (3 : Int32))), .val (.ref b1), .val (.int (z27_0_s0 &&& z81_1_s0)), .val (.long (((0 : Int64) + p1.toInt64) + p2.toInt64)), .second] [(.ref b1), (.int (z27_0_s0 &&& z81_1_s0))])
      have Ex_35 : Exa Z T33.heap b1 "com/example/mapcodex/mapcodex/pbf/ObjectBatch" := (H84_1_E_b1.keep K33)
      obtain ⟨T34, X34, e34, st34⟩ := pureV X33 hx hZ hown (hw _ (List.mem_of_getElem? (i := 13) rfl)) (hw _ (List.mem_of_getElem? (i := 14) rfl)) (hw _ (List.mem_of_getElem? (i := 16) rfl)) (hw _ (List.mem_of_getElem? (i := 15) rfl)) (hw _ (List.mem_of_getElem? (i := 2) rfl)) (hw _ (List.mem_of_getElem? (i := 17) rfl)) (notFace_of_selects (args := #[]) (mvT hZ (hw _ (List.mem_of_getElem? (i := 16) rfl)))) Ex_35 (by decide) (rm3 l Z a0 hw [] b1 (2 : Int32) (((0 : Int64) + p1.toInt64) + p2.toInt64) T33.heap Fs33 Fv33) rfl (W := 1) (by decide) (by decide) (by decide) (by decide) (g := (mkF m 108 #[.val (.int p0), .val (.int p1), .val (.int p2), .val (.int p3), .val (.int (p0 &&& (3 : Int32))), .val (.ref b1), .val (.int (z27_0_s0 &&& z81_1_s0)), .val (.long (((0 : Int64) + p1.toInt64) + p2.toInt64)), .second] [(.ref b1), (.int (z27_0_s0 &&& z81_1_s0))])) rfl (by rw [hml]; rfl) (argsL := []) (rest := [(.int (z27_0_s0 &&& z81_1_s0))]) rfl (lenOf pd_1 rfl) rfl (by show 2 * 0 + _ ≤ _; exact Nat.le_of_eq rfl) (hb hby at_108)
      refine Fini.st st34 ?_
      show Fini p e below s _ _ _ T34 (mkF m 111 #[.val (.int p0), .val (.int p1), .val (.int p2), .val (.int p3), .val (.int (p0 &&& (3 : Int32))), .val (.ref b1), .val (.int (z27_0_s0 &&& z81_1_s0)), .val (.long (((0 : Int64) + p1.toInt64) + p2.toInt64)), .second] [(.int (f3 (2 : Int32) (((0 : Int64) + p1.toInt64) + p2.toInt64))), (.int (z27_0_s0 &&& z81_1_s0))])
      refine Fini.st (fun _ k => XS.lload X34.here hx rfl (hb hby at_111) rfl k) ?_
      show Fini p e below s _ _ _ T34 (mkF m 113 #[.val (.int p0), .val (.int p1), .val (.int p2), .val (.int p3), .val (.int (p0 &&& (3 : Int32))), .val (.ref b1), .val (.int (z27_0_s0 &&& z81_1_s0)), .val (.long (((0 : Int64) + p1.toInt64) + p2.toInt64)), .second] [(.long (((0 : Int64) + p1.toInt64) + p2.toInt64)), (.int (f3 (2 : Int32) (((0 : Int64) + p1.toInt64) + p2.toInt64))), (.int (z27_0_s0 &&& z81_1_s0))])
      refine Fini.st (fun _ k => X34.ldc2J hx hown (mvT hZ (hw _ (List.mem_of_getElem? (i := 28) rfl))) rfl (hb hby at_113) k) ?_
      show Fini p e below s _ _ _ T34 (mkF m 116 #[.val (.int p0), .val (.int p1), .val (.int p2), .val (.int p3), .val (.int (p0 &&& (3 : Int32))), .val (.ref b1), .val (.int (z27_0_s0 &&& z81_1_s0)), .val (.long (((0 : Int64) + p1.toInt64) + p2.toInt64)), .second] [(.long (16384 : Int64)), (.long (((0 : Int64) + p1.toInt64) + p2.toInt64)), (.int (f3 (2 : Int32) (((0 : Int64) + p1.toInt64) + p2.toInt64))), (.int (z27_0_s0 &&& z81_1_s0))])
      refine Fini.st (fun _ k => XT.lcmp X34.here hx rfl (hb hby at_116) rfl k) ?_
      show Fini p e below s _ _ _ T34 (mkF m 117 #[.val (.int p0), .val (.int p1), .val (.int p2), .val (.int p3), .val (.int (p0 &&& (3 : Int32))), .val (.ref b1), .val (.int (z27_0_s0 &&& z81_1_s0)), .val (.long (((0 : Int64) + p1.toInt64) + p2.toInt64)), .second] [(.int (XT.cmpL (((0 : Int64) + p1.toInt64) + p2.toInt64) (16384 : Int64))), (.int (f3 (2 : Int32) (((0 : Int64) + p1.toInt64) + p2.toInt64))), (.int (z27_0_s0 &&& z81_1_s0))])
      by_cases c36 : (((0 : Int64) + p1.toInt64) + p2.toInt64) < (16384 : Int64)
      · have hv37 := hv32.trans (if_pos c36)
        refine Fini.st (fun _ k => XS.ifYes X34.here hx rfl (pc0 := 117) (pc' := 124) rfl (hb hby at_117) rfl (XT.ll_lt_t c36) (by decide) (by decide) k) ?_
        show Fini p e below s _ _ _ T34 (mkF m 124 #[.val (.int p0), .val (.int p1), .val (.int p2), .val (.int p3), .val (.int (p0 &&& (3 : Int32))), .val (.ref b1), .val (.int (z27_0_s0 &&& z81_1_s0)), .val (.long (((0 : Int64) + p1.toInt64) + p2.toInt64)), .second] [(.int (f3 (2 : Int32) (((0 : Int64) + p1.toInt64) + p2.toInt64))), (.int (z27_0_s0 &&& z81_1_s0))])
        refine Fini.st (fun _ k => XS.iconst X34.here hx rfl (hb hby at_124) k) ?_
        show Fini p e below s _ _ _ T34 (mkF m 125 #[.val (.int p0), .val (.int p1), .val (.int p2), .val (.int p3), .val (.int (p0 &&& (3 : Int32))), .val (.ref b1), .val (.int (z27_0_s0 &&& z81_1_s0)), .val (.long (((0 : Int64) + p1.toInt64) + p2.toInt64)), .second] [(.int (0 : Int32)), (.int (f3 (2 : Int32) (((0 : Int64) + p1.toInt64) + p2.toInt64))), (.int (z27_0_s0 &&& z81_1_s0))])
        have Zs_89 : n0 ≤ T33.heap.size := (Nat.le_trans H84_1_Z K33.1)
        exact B125_2 T34 _ _ (X34.more (cells' := 2) (slots' := 4100) (by decide) (by decide)) e34 b1 b2 (0 : Int32) z27_0_s0 z81_1_s0 N33 Zs_89 Ex_35 Fo33 Fs33 Fv33 Ar33 ne84_1_b1_b2 ge84_1_b1 ge84_1_b2 hv37
      · have hv38 := hv32.trans (if_neg c36)
        refine Fini.st (fun _ k => XS.ifNo X34.here hx rfl (hb hby at_117) rfl (XT.ll_lt_f c36) k) ?_
        show Fini p e below s _ _ _ T34 (mkF m 120 #[.val (.int p0), .val (.int p1), .val (.int p2), .val (.int p3), .val (.int (p0 &&& (3 : Int32))), .val (.ref b1), .val (.int (z27_0_s0 &&& z81_1_s0)), .val (.long (((0 : Int64) + p1.toInt64) + p2.toInt64)), .second] [(.int (f3 (2 : Int32) (((0 : Int64) + p1.toInt64) + p2.toInt64))), (.int (z27_0_s0 &&& z81_1_s0))])
        refine Fini.st (fun _ k => XS.iconst X34.here hx rfl (hb hby at_120) k) ?_
        show Fini p e below s _ _ _ T34 (mkF m 121 #[.val (.int p0), .val (.int p1), .val (.int p2), .val (.int p3), .val (.int (p0 &&& (3 : Int32))), .val (.ref b1), .val (.int (z27_0_s0 &&& z81_1_s0)), .val (.long (((0 : Int64) + p1.toInt64) + p2.toInt64)), .second] [(.int (1 : Int32)), (.int (f3 (2 : Int32) (((0 : Int64) + p1.toInt64) + p2.toInt64))), (.int (z27_0_s0 &&& z81_1_s0))])
        refine Fini.st (fun _ k => XS.goto X34.here hx rfl (pc0 := 121) (pc' := 125) rfl (hb hby at_121) (by decide) (by decide) k) ?_
        show Fini p e below s _ _ _ T34 (mkF m 125 #[.val (.int p0), .val (.int p1), .val (.int p2), .val (.int p3), .val (.int (p0 &&& (3 : Int32))), .val (.ref b1), .val (.int (z27_0_s0 &&& z81_1_s0)), .val (.long (((0 : Int64) + p1.toInt64) + p2.toInt64)), .second] [(.int (1 : Int32)), (.int (f3 (2 : Int32) (((0 : Int64) + p1.toInt64) + p2.toInt64))), (.int (z27_0_s0 &&& z81_1_s0))])
        have Zs_90 : n0 ≤ T33.heap.size := (Nat.le_trans H84_1_Z K33.1)
        exact B125_2 T34 _ _ (X34.more (cells' := 2) (slots' := 4100) (by decide) (by decide)) e34 b1 b2 (1 : Int32) z27_0_s0 z81_1_s0 N33 Zs_90 Ex_35 Fo33 Fs33 Fv33 Ar33 ne84_1_b1_b2 ge84_1_b1 ge84_1_b2 hv38
  have B81_1 : ∀ (T_81_1 : State) (h_81_1 : Heap) (locs : List Loc) (X_81_1 : Stand p l e room_1 s m #[(.int p0), (.int p1), (.int p2), (.int p3)] below meth c T_81_1 locs 2 4100) (e_81_1 : T_81_1.heap = h_81_1) (b1 : Addr) (b2 : Addr) (z81_1_s0 : Int32) (z27_0_s0 : Int32) (N_81_1 : Fr n0 locs) (H81_1_Z : n0 ≤ h_81_1.size) (H81_1_E_b1 : Exa Z h_81_1 b1 "com/example/mapcodex/mapcodex/pbf/ObjectBatch") (H81_1_F_b1_objects : Fld Z h_81_1 b1 "com/example/mapcodex/mapcodex/pbf/ObjectBatch" "objects" "[Ljava/lang/Object;" (.ref b2)) (H81_1_F_b1_size : Fld Z h_81_1 b1 "com/example/mapcodex/mapcodex/pbf/ObjectBatch" "size" "I" (.int (1 : Int32))) (H81_1_F_b1_values : Fld Z h_81_1 b1 "com/example/mapcodex/mapcodex/pbf/ObjectBatch" "values" "J" (.long ((0 : Int64) + p1.toInt64))) (H81_1_A_b2 : AryR Z h_81_1 b2 "java/lang/Object" (4096 : Int32) (upd (fun _ => .null) 0 .null)) (ne81_1_b1_b2 : b1 ≠ b2) (ge81_1_b1 : n0 ≤ b1) (ge81_1_b2 : n0 ≤ b2), f0 p0 p1 p2 p3 = f0_81_1 p0 p1 p2 p3 z81_1_s0 z27_0_s0 → Fini p e below s (fun v h' L => v = some (.int (f0 p0 p1 p2 p3)) ∧ Fr n0 L) (Room.cells room_1) (Room.slots room_1) T_81_1 (mkF m 81 #[.val (.int p0), .val (.int p1), .val (.int p2), .val (.int p3), .val (.int (p0 &&& (3 : Int32))), .val (.ref b1), .val (.int z27_0_s0), .val (.long ((0 : Int64) + p1.toInt64)), .second] [(.int z81_1_s0), (.int z27_0_s0)]) := by
    intro T_81_1 h_81_1 locs X_81_1 e_81_1 b1 b2 z81_1_s0 z27_0_s0 N_81_1 H81_1_Z H81_1_E_b1 H81_1_F_b1_objects H81_1_F_b1_size H81_1_F_b1_values H81_1_A_b2 ne81_1_b1_b2 ge81_1_b1 ge81_1_b2 hv_81_1
    refine Fini.st (fun _ k => XS.iand X_81_1.here hx rfl (hb hby at_81) rfl k) ?_
    show Fini p e below s _ _ _ T_81_1 (mkF m 82 #[.val (.int p0), .val (.int p1), .val (.int p2), .val (.int p3), .val (.int (p0 &&& (3 : Int32))), .val (.ref b1), .val (.int z27_0_s0), .val (.long ((0 : Int64) + p1.toInt64)), .second] [(.int (z27_0_s0 &&& z81_1_s0))])
    refine Fini.st (fun _ k => XS.istore X_81_1.here hx rfl (hb hby at_82) rfl (l' := #[.val (.int p0), .val (.int p1), .val (.int p2), .val (.int p3), .val (.int (p0 &&& (3 : Int32))), .val (.ref b1), .val (.int (z27_0_s0 &&& z81_1_s0)), .val (.long ((0 : Int64) + p1.toInt64)), .second]) rfl k) ?_
    show Fini p e below s _ _ _ T_81_1 (mkF m 84 #[.val (.int p0), .val (.int p1), .val (.int p2), .val (.int p3), .val (.int (p0 &&& (3 : Int32))), .val (.ref b1), .val (.int (z27_0_s0 &&& z81_1_s0)), .val (.long ((0 : Int64) + p1.toInt64)), .second] [])
    exact B84_1 T_81_1 _ _ (X_81_1.more (cells' := 2) (slots' := 4100) (by decide) (by decide)) e_81_1 b1 b2 z27_0_s0 z81_1_s0 N_81_1 H81_1_Z H81_1_E_b1 H81_1_F_b1_objects H81_1_F_b1_size H81_1_F_b1_values H81_1_A_b2 ne81_1_b1_b2 ge81_1_b1 ge81_1_b2 hv_81_1
  have B73_1 : ∀ (T_73_1 : State) (h_73_1 : Heap) (locs : List Loc) (X_73_1 : Stand p l e room_1 s m #[(.int p0), (.int p1), (.int p2), (.int p3)] below meth c T_73_1 locs 2 4100) (e_73_1 : T_73_1.heap = h_73_1) (b1 : Addr) (b2 : Addr) (z73_1_s0 : Int32) (z27_0_s0 : Int32) (N_73_1 : Fr n0 locs) (H73_1_Z : n0 ≤ h_73_1.size) (H73_1_E_b1 : Exa Z h_73_1 b1 "com/example/mapcodex/mapcodex/pbf/ObjectBatch") (H73_1_F_b1_objects : Fld Z h_73_1 b1 "com/example/mapcodex/mapcodex/pbf/ObjectBatch" "objects" "[Ljava/lang/Object;" (.ref b2)) (H73_1_F_b1_size : Fld Z h_73_1 b1 "com/example/mapcodex/mapcodex/pbf/ObjectBatch" "size" "I" (.int (1 : Int32))) (H73_1_F_b1_values : Fld Z h_73_1 b1 "com/example/mapcodex/mapcodex/pbf/ObjectBatch" "values" "J" (.long ((0 : Int64) + p1.toInt64))) (H73_1_A_b2 : AryR Z h_73_1 b2 "java/lang/Object" (4096 : Int32) (upd (fun _ => .null) 0 .null)) (ne73_1_b1_b2 : b1 ≠ b2) (ge73_1_b1 : n0 ≤ b1) (ge73_1_b2 : n0 ≤ b2), f0 p0 p1 p2 p3 = f0_73_1 p0 p1 p2 p3 z73_1_s0 z27_0_s0 → Fini p e below s (fun v h' L => v = some (.int (f0 p0 p1 p2 p3)) ∧ Fr n0 L) (Room.cells room_1) (Room.slots room_1) T_73_1 (mkF m 73 #[.val (.int p0), .val (.int p1), .val (.int p2), .val (.int p3), .val (.int (p0 &&& (3 : Int32))), .val (.ref b1), .val (.int z27_0_s0), .val (.long ((0 : Int64) + p1.toInt64)), .second] [(.int z73_1_s0), (.int (f3 (1 : Int32) ((0 : Int64) + p1.toInt64))), (.int z27_0_s0)]) := by
    intro T_73_1 h_73_1 locs X_73_1 e_73_1 b1 b2 z73_1_s0 z27_0_s0 N_73_1 H73_1_Z H73_1_E_b1 H73_1_F_b1_objects H73_1_F_b1_size H73_1_F_b1_values H73_1_A_b2 ne73_1_b1_b2 ge73_1_b1 ge73_1_b2 hv_73_1
    by_cases c18 : (f3 (1 : Int32) ((0 : Int64) + p1.toInt64)) = z73_1_s0
    · have hv19 := hv_73_1.trans (if_pos c18)
      refine Fini.st (fun _ k => XS.icmpNo X_73_1.here hx rfl (hb hby at_73) rfl (XT.ii_ne_f c18) k) ?_
      show Fini p e below s _ _ _ T_73_1 (mkF m 76 #[.val (.int p0), .val (.int p1), .val (.int p2), .val (.int p3), .val (.int (p0 &&& (3 : Int32))), .val (.ref b1), .val (.int z27_0_s0), .val (.long ((0 : Int64) + p1.toInt64)), .second] [(.int z27_0_s0)])
      refine Fini.st (fun _ k => XS.iconst X_73_1.here hx rfl (hb hby at_76) k) ?_
      show Fini p e below s _ _ _ T_73_1 (mkF m 77 #[.val (.int p0), .val (.int p1), .val (.int p2), .val (.int p3), .val (.int (p0 &&& (3 : Int32))), .val (.ref b1), .val (.int z27_0_s0), .val (.long ((0 : Int64) + p1.toInt64)), .second] [(.int (1 : Int32)), (.int z27_0_s0)])
      refine Fini.st (fun _ k => XS.goto X_73_1.here hx rfl (pc0 := 77) (pc' := 81) rfl (hb hby at_77) (by decide) (by decide) k) ?_
      show Fini p e below s _ _ _ T_73_1 (mkF m 81 #[.val (.int p0), .val (.int p1), .val (.int p2), .val (.int p3), .val (.int (p0 &&& (3 : Int32))), .val (.ref b1), .val (.int z27_0_s0), .val (.long ((0 : Int64) + p1.toInt64)), .second] [(.int (1 : Int32)), (.int z27_0_s0)])
      exact B81_1 T_73_1 _ _ (X_73_1.more (cells' := 2) (slots' := 4100) (by decide) (by decide)) e_73_1 b1 b2 (1 : Int32) z27_0_s0 N_73_1 H73_1_Z H73_1_E_b1 H73_1_F_b1_objects H73_1_F_b1_size H73_1_F_b1_values H73_1_A_b2 ne73_1_b1_b2 ge73_1_b1 ge73_1_b2 hv19
    · have hv20 := hv_73_1.trans (if_neg c18)
      refine Fini.st (fun _ k => XS.icmpYes X_73_1.here hx rfl (pc0 := 73) (pc' := 80) rfl (hb hby at_73) rfl (XT.ii_ne_t c18) (by decide) (by decide) k) ?_
      show Fini p e below s _ _ _ T_73_1 (mkF m 80 #[.val (.int p0), .val (.int p1), .val (.int p2), .val (.int p3), .val (.int (p0 &&& (3 : Int32))), .val (.ref b1), .val (.int z27_0_s0), .val (.long ((0 : Int64) + p1.toInt64)), .second] [(.int z27_0_s0)])
      refine Fini.st (fun _ k => XS.iconst X_73_1.here hx rfl (hb hby at_80) k) ?_
      show Fini p e below s _ _ _ T_73_1 (mkF m 81 #[.val (.int p0), .val (.int p1), .val (.int p2), .val (.int p3), .val (.int (p0 &&& (3 : Int32))), .val (.ref b1), .val (.int z27_0_s0), .val (.long ((0 : Int64) + p1.toInt64)), .second] [(.int (0 : Int32)), (.int z27_0_s0)])
      exact B81_1 T_73_1 _ _ (X_73_1.more (cells' := 2) (slots' := 4100) (by decide) (by decide)) e_73_1 b1 b2 (0 : Int32) z27_0_s0 N_73_1 H73_1_Z H73_1_E_b1 H73_1_F_b1_objects H73_1_F_b1_size H73_1_F_b1_values H73_1_A_b2 ne73_1_b1_b2 ge73_1_b1 ge73_1_b2 hv20
  have B27_0 : ∀ (T_27_0 : State) (h_27_0 : Heap) (locs : List Loc) (X_27_0 : Stand p l e room_1 s m #[(.int p0), (.int p1), (.int p2), (.int p3)] below meth c T_27_0 locs 2 4100) (e_27_0 : T_27_0.heap = h_27_0) (b1 : Addr) (b2 : Addr) (z27_0_s0 : Int32) (N_27_0 : Fr n0 locs) (H27_0_Z : n0 ≤ h_27_0.size) (H27_0_E_b1 : Exa Z h_27_0 b1 "com/example/mapcodex/mapcodex/pbf/ObjectBatch") (H27_0_F_b1_objects : Fld Z h_27_0 b1 "com/example/mapcodex/mapcodex/pbf/ObjectBatch" "objects" "[Ljava/lang/Object;" (.ref b2)) (H27_0_F_b1_size : Fld Z h_27_0 b1 "com/example/mapcodex/mapcodex/pbf/ObjectBatch" "size" "I" (.int (0 : Int32))) (H27_0_F_b1_values : Fld Z h_27_0 b1 "com/example/mapcodex/mapcodex/pbf/ObjectBatch" "values" "J" (.long (0 : Int64))) (H27_0_A_b2 : AryR Z h_27_0 b2 "java/lang/Object" (4096 : Int32) (fun _ => .null)) (ne27_0_b1_b2 : b1 ≠ b2) (ge27_0_b1 : n0 ≤ b1) (ge27_0_b2 : n0 ≤ b2), f0 p0 p1 p2 p3 = f0_27_0 p0 p1 p2 p3 z27_0_s0 → Fini p e below s (fun v h' L => v = some (.int (f0 p0 p1 p2 p3)) ∧ Fr n0 L) (Room.cells room_1) (Room.slots room_1) T_27_0 (mkF m 27 #[.val (.int p0), .val (.int p1), .val (.int p2), .val (.int p3), .val (.int (p0 &&& (3 : Int32))), .val (.ref b1), .unset, .unset, .unset] [(.int z27_0_s0)]) := by
    intro T_27_0 h_27_0 locs X_27_0 e_27_0 b1 b2 z27_0_s0 N_27_0 H27_0_Z H27_0_E_b1 H27_0_F_b1_objects H27_0_F_b1_size H27_0_F_b1_values H27_0_A_b2 ne27_0_b1_b2 ge27_0_b1 ge27_0_b2 hv_27_0
    refine Fini.st (fun _ k => XS.istore X_27_0.here hx rfl (hb hby at_27) rfl (l' := #[.val (.int p0), .val (.int p1), .val (.int p2), .val (.int p3), .val (.int (p0 &&& (3 : Int32))), .val (.ref b1), .val (.int z27_0_s0), .unset, .unset]) rfl k) ?_
    show Fini p e below s _ _ _ T_27_0 (mkF m 29 #[.val (.int p0), .val (.int p1), .val (.int p2), .val (.int p3), .val (.int (p0 &&& (3 : Int32))), .val (.ref b1), .val (.int z27_0_s0), .unset, .unset] [])
    refine Fini.st (fun _ k => XS.lconst X_27_0.here hx rfl (hb hby at_29) k) ?_
    show Fini p e below s _ _ _ T_27_0 (mkF m 30 #[.val (.int p0), .val (.int p1), .val (.int p2), .val (.int p3), .val (.int (p0 &&& (3 : Int32))), .val (.ref b1), .val (.int z27_0_s0), .unset, .unset] [(.long (0 : Int64))])
    refine Fini.st (fun _ k => XS.lstore X_27_0.here hx rfl (hb hby at_30) rfl (l' := #[.val (.int p0), .val (.int p1), .val (.int p2), .val (.int p3), .val (.int (p0 &&& (3 : Int32))), .val (.ref b1), .val (.int z27_0_s0), .val (.long (0 : Int64)), .second]) rfl k) ?_
    show Fini p e below s _ _ _ T_27_0 (mkF m 32 #[.val (.int p0), .val (.int p1), .val (.int p2), .val (.int p3), .val (.int (p0 &&& (3 : Int32))), .val (.ref b1), .val (.int z27_0_s0), .val (.long (0 : Int64)), .second] [])
    refine Fini.st (fun _ k => XS.iload X_27_0.here hx rfl (hb hby at_32) rfl k) ?_
    show Fini p e below s _ _ _ T_27_0 (mkF m 34 #[.val (.int p0), .val (.int p1), .val (.int p2), .val (.int p3), .val (.int (p0 &&& (3 : Int32))), .val (.ref b1), .val (.int z27_0_s0), .val (.long (0 : Int64)), .second] [(.int (p0 &&& (3 : Int32)))])
    refine Fini.st (fun _ k => XS.iconst X_27_0.here hx rfl (hb hby at_34) k) ?_
    show Fini p e below s _ _ _ T_27_0 (mkF m 35 #[.val (.int p0), .val (.int p1), .val (.int p2), .val (.int p3), .val (.int (p0 &&& (3 : Int32))), .val (.ref b1), .val (.int z27_0_s0), .val (.long (0 : Int64)), .second] [(.int (1 : Int32)), (.int (p0 &&& (3 : Int32)))])
    by_cases c9 : (p0 &&& (3 : Int32)) < (1 : Int32)
    · have hv10 := hv_27_0.trans (if_pos c9)
      refine Fini.st (fun _ k => XS.icmpYes X_27_0.here hx rfl (pc0 := 35) (pc' := 84) rfl (hb hby at_35) rfl (XT.ii_lt_t c9) (by decide) (by decide) k) ?_
      show Fini p e below s _ _ _ T_27_0 (mkF m 84 #[.val (.int p0), .val (.int p1), .val (.int p2), .val (.int p3), .val (.int (p0 &&& (3 : Int32))), .val (.ref b1), .val (.int z27_0_s0), .val (.long (0 : Int64)), .second] [])
      exact B84_0 T_27_0 _ _ (X_27_0.more (cells' := 2) (slots' := 4100) (by decide) (by decide)) e_27_0 b1 b2 z27_0_s0 N_27_0 H27_0_Z H27_0_E_b1 H27_0_F_b1_objects H27_0_F_b1_size H27_0_F_b1_values H27_0_A_b2 ne27_0_b1_b2 ge27_0_b1 ge27_0_b2 hv10
    · have hv11 := hv_27_0.trans (if_neg c9)
      refine Fini.st (fun _ k => XS.icmpNo X_27_0.here hx rfl (hb hby at_35) rfl (XT.ii_lt_f c9) k) ?_
      show Fini p e below s _ _ _ T_27_0 (mkF m 38 #[.val (.int p0), .val (.int p1), .val (.int p2), .val (.int p3), .val (.int (p0 &&& (3 : Int32))), .val (.ref b1), .val (.int z27_0_s0), .val (.long (0 : Int64)), .second] [])
      refine Fini.st (fun _ k => XS.aload X_27_0.here hx rfl (hb hby at_38) rfl rfl k) ?_
      show Fini p e below s _ _ _ T_27_0 (mkF m 40 #[.val (.int p0), .val (.int p1), .val (.int p2), .val (.int p3), .val (.int (p0 &&& (3 : Int32))), .val (.ref b1), .val (.int z27_0_s0), .val (.long (0 : Int64)), .second] [(.ref b1)])
      refine Fini.st (fun _ k => XS.aconstNull X_27_0.here hx rfl (hb hby at_40) k) ?_
      show Fini p e below s _ _ _ T_27_0 (mkF m 41 #[.val (.int p0), .val (.int p1), .val (.int p2), .val (.int p3), .val (.int (p0 &&& (3 : Int32))), .val (.ref b1), .val (.int z27_0_s0), .val (.long (0 : Int64)), .second] [.null, (.ref b1)])
      refine Fini.st (fun _ k => XS.iloadN X_27_0.here hx rfl (hb hby at_41) rfl k) ?_
      show Fini p e below s _ _ _ T_27_0 (mkF m 42 #[.val (.int p0), .val (.int p1), .val (.int p2), .val (.int p3), .val (.int (p0 &&& (3 : Int32))), .val (.ref b1), .val (.int z27_0_s0), .val (.long (0 : Int64)), .second] [(.int p1), .null, (.ref b1)])
      obtain ⟨v12, T12, L12, X12, hQ12, st12⟩ := callV X_27_0 hx hZ hown (hw _ (List.mem_of_getElem? (i := 23) rfl)) (hw _ (List.mem_of_getElem? (i := 24) rfl)) (hw _ (List.mem_of_getElem? (i := 26) rfl)) (hw _ (List.mem_of_getElem? (i := 25) rfl)) (hw _ (List.mem_of_getElem? (i := 2) rfl)) (hw _ (List.mem_of_getElem? (i := 27) rfl)) (notFace_of_selects (args := #[]) (mvT hZ (hw _ (List.mem_of_getElem? (i := 26) rfl)))) H27_0_E_b1 (by decide) (rm4 l Z a0 hw [] b1 p1 b2 (0 : Int32) (0 : Int64) (fun _ => .null) h_27_0 n0 H27_0_Z H27_0_E_b1 H27_0_F_b1_objects H27_0_F_b1_size H27_0_F_b1_values H27_0_A_b2 ge27_0_b1 ge27_0_b2 ne27_0_b1_b2 (⟨by decide, by decide⟩)) e_27_0 (W := 0) (by decide) (by decide) (by decide) (by decide) (g := (mkF m 42 #[.val (.int p0), .val (.int p1), .val (.int p2), .val (.int p3), .val (.int (p0 &&& (3 : Int32))), .val (.ref b1), .val (.int z27_0_s0), .val (.long (0 : Int64)), .second] [(.int p1), .null, (.ref b1)])) rfl (by rw [hml]; rfl) (argsL := [.null, (.int p1)]) (rest := []) rfl (lenOf pd_2 rfl) rfl (by show 2 * 0 + _ ≤ _; exact Nat.le_of_eq rfl) (hb hby at_42)
      obtain ⟨rfl, Nq12, K12, Fo12, Ar12, Fs12, Fv12⟩ := hQ12
      have N12 := Fr.app N_27_0 Nq12
      refine Fini.st st12 ?_
      show Fini p e below s _ _ _ T12 (mkF m 45 #[.val (.int p0), .val (.int p1), .val (.int p2), .val (.int p3), .val (.int (p0 &&& (3 : Int32))), .val (.ref b1), .val (.int z27_0_s0), .val (.long (0 : Int64)), .second] [])
      refine Fini.st (fun _ k => XS.lload X12.here hx rfl (hb hby at_45) rfl k) ?_
      show Fini p e below s _ _ _ T12 (mkF m 47 #[.val (.int p0), .val (.int p1), .val (.int p2), .val (.int p3), .val (.int (p0 &&& (3 : Int32))), .val (.ref b1), .val (.int z27_0_s0), .val (.long (0 : Int64)), .second] [(.long (0 : Int64))])
      refine Fini.st (fun _ k => XS.iloadN X12.here hx rfl (hb hby at_47) rfl k) ?_
      show Fini p e below s _ _ _ T12 (mkF m 48 #[.val (.int p0), .val (.int p1), .val (.int p2), .val (.int p3), .val (.int (p0 &&& (3 : Int32))), .val (.ref b1), .val (.int z27_0_s0), .val (.long (0 : Int64)), .second] [(.int p1), (.long (0 : Int64))])
      refine Fini.st (fun _ k => XS.i2l X12.here hx rfl (hb hby at_48) rfl k) ?_
      show Fini p e below s _ _ _ T12 (mkF m 49 #[.val (.int p0), .val (.int p1), .val (.int p2), .val (.int p3), .val (.int (p0 &&& (3 : Int32))), .val (.ref b1), .val (.int z27_0_s0), .val (.long (0 : Int64)), .second] [(.long p1.toInt64), (.long (0 : Int64))])
      refine Fini.st (fun _ k => XS.ladd X12.here hx rfl (hb hby at_49) rfl k) ?_
      show Fini p e below s _ _ _ T12 (mkF m 50 #[.val (.int p0), .val (.int p1), .val (.int p2), .val (.int p3), .val (.int (p0 &&& (3 : Int32))), .val (.ref b1), .val (.int z27_0_s0), .val (.long (0 : Int64)), .second] [(.long ((0 : Int64) + p1.toInt64))])
      refine Fini.st (fun _ k => XS.lstore X12.here hx rfl (hb hby at_50) rfl (l' := #[.val (.int p0), .val (.int p1), .val (.int p2), .val (.int p3), .val (.int (p0 &&& (3 : Int32))), .val (.ref b1), .val (.int z27_0_s0), .val (.long ((0 : Int64) + p1.toInt64)), .second]) rfl k) ?_
      show Fini p e below s _ _ _ T12 (mkF m 52 #[.val (.int p0), .val (.int p1), .val (.int p2), .val (.int p3), .val (.int (p0 &&& (3 : Int32))), .val (.ref b1), .val (.int z27_0_s0), .val (.long ((0 : Int64) + p1.toInt64)), .second] [])
      refine Fini.st (fun _ k => XS.iload X12.here hx rfl (hb hby at_52) rfl k) ?_
      show Fini p e below s _ _ _ T12 (mkF m 54 #[.val (.int p0), .val (.int p1), .val (.int p2), .val (.int p3), .val (.int (p0 &&& (3 : Int32))), .val (.ref b1), .val (.int z27_0_s0), .val (.long ((0 : Int64) + p1.toInt64)), .second] [(.int z27_0_s0)])
      refine Fini.st (fun _ k => XS.aload X12.here hx rfl (hb hby at_54) rfl rfl k) ?_
      show Fini p e below s _ _ _ T12 (mkF m 56 #[.val (.int p0), .val (.int p1), .val (.int p2), .val (.int p3), .val (.int (p0 &&& (3 : Int32))), .val (.ref b1), .val (.int z27_0_s0), .val (.long ((0 : Int64) + p1.toInt64)), .second] [(.ref b1), (.int z27_0_s0)])
      have Ex_14 : Exa Z T12.heap b1 "com/example/mapcodex/mapcodex/pbf/ObjectBatch" := (H27_0_E_b1.keep K12)
      obtain ⟨T13, X13, e13, st13⟩ := pureV X12 hx hZ hown (hw _ (List.mem_of_getElem? (i := 13) rfl)) (hw _ (List.mem_of_getElem? (i := 14) rfl)) (hw _ (List.mem_of_getElem? (i := 16) rfl)) (hw _ (List.mem_of_getElem? (i := 15) rfl)) (hw _ (List.mem_of_getElem? (i := 2) rfl)) (hw _ (List.mem_of_getElem? (i := 17) rfl)) (notFace_of_selects (args := #[]) (mvT hZ (hw _ (List.mem_of_getElem? (i := 16) rfl)))) Ex_14 (by decide) (rm3 l Z a0 hw [] b1 (1 : Int32) ((0 : Int64) + p1.toInt64) T12.heap Fs12 Fv12) rfl (W := 1) (by decide) (by decide) (by decide) (by decide) (g := (mkF m 56 #[.val (.int p0), .val (.int p1), .val (.int p2), .val (.int p3), .val (.int (p0 &&& (3 : Int32))), .val (.ref b1), .val (.int z27_0_s0), .val (.long ((0 : Int64) + p1.toInt64)), .second] [(.ref b1), (.int z27_0_s0)])) rfl (by rw [hml]; rfl) (argsL := []) (rest := [(.int z27_0_s0)]) rfl (lenOf pd_1 rfl) rfl (by show 2 * 0 + _ ≤ _; exact Nat.le_of_eq rfl) (hb hby at_56)
      refine Fini.st st13 ?_
      show Fini p e below s _ _ _ T13 (mkF m 59 #[.val (.int p0), .val (.int p1), .val (.int p2), .val (.int p3), .val (.int (p0 &&& (3 : Int32))), .val (.ref b1), .val (.int z27_0_s0), .val (.long ((0 : Int64) + p1.toInt64)), .second] [(.int (f3 (1 : Int32) ((0 : Int64) + p1.toInt64))), (.int z27_0_s0)])
      refine Fini.st (fun _ k => XS.lload X13.here hx rfl (hb hby at_59) rfl k) ?_
      show Fini p e below s _ _ _ T13 (mkF m 61 #[.val (.int p0), .val (.int p1), .val (.int p2), .val (.int p3), .val (.int (p0 &&& (3 : Int32))), .val (.ref b1), .val (.int z27_0_s0), .val (.long ((0 : Int64) + p1.toInt64)), .second] [(.long ((0 : Int64) + p1.toInt64)), (.int (f3 (1 : Int32) ((0 : Int64) + p1.toInt64))), (.int z27_0_s0)])
      refine Fini.st (fun _ k => X13.ldc2J hx hown (mvT hZ (hw _ (List.mem_of_getElem? (i := 28) rfl))) rfl (hb hby at_61) k) ?_
      show Fini p e below s _ _ _ T13 (mkF m 64 #[.val (.int p0), .val (.int p1), .val (.int p2), .val (.int p3), .val (.int (p0 &&& (3 : Int32))), .val (.ref b1), .val (.int z27_0_s0), .val (.long ((0 : Int64) + p1.toInt64)), .second] [(.long (16384 : Int64)), (.long ((0 : Int64) + p1.toInt64)), (.int (f3 (1 : Int32) ((0 : Int64) + p1.toInt64))), (.int z27_0_s0)])
      refine Fini.st (fun _ k => XT.lcmp X13.here hx rfl (hb hby at_64) rfl k) ?_
      show Fini p e below s _ _ _ T13 (mkF m 65 #[.val (.int p0), .val (.int p1), .val (.int p2), .val (.int p3), .val (.int (p0 &&& (3 : Int32))), .val (.ref b1), .val (.int z27_0_s0), .val (.long ((0 : Int64) + p1.toInt64)), .second] [(.int (XT.cmpL ((0 : Int64) + p1.toInt64) (16384 : Int64))), (.int (f3 (1 : Int32) ((0 : Int64) + p1.toInt64))), (.int z27_0_s0)])
      by_cases c15 : ((0 : Int64) + p1.toInt64) < (16384 : Int64)
      · have hv16 := hv11.trans (if_pos c15)
        refine Fini.st (fun _ k => XS.ifYes X13.here hx rfl (pc0 := 65) (pc' := 72) rfl (hb hby at_65) rfl (XT.ll_lt_t c15) (by decide) (by decide) k) ?_
        show Fini p e below s _ _ _ T13 (mkF m 72 #[.val (.int p0), .val (.int p1), .val (.int p2), .val (.int p3), .val (.int (p0 &&& (3 : Int32))), .val (.ref b1), .val (.int z27_0_s0), .val (.long ((0 : Int64) + p1.toInt64)), .second] [(.int (f3 (1 : Int32) ((0 : Int64) + p1.toInt64))), (.int z27_0_s0)])
        refine Fini.st (fun _ k => XS.iconst X13.here hx rfl (hb hby at_72) k) ?_
        show Fini p e below s _ _ _ T13 (mkF m 73 #[.val (.int p0), .val (.int p1), .val (.int p2), .val (.int p3), .val (.int (p0 &&& (3 : Int32))), .val (.ref b1), .val (.int z27_0_s0), .val (.long ((0 : Int64) + p1.toInt64)), .second] [(.int (0 : Int32)), (.int (f3 (1 : Int32) ((0 : Int64) + p1.toInt64))), (.int z27_0_s0)])
        have Zs_91 : n0 ≤ T12.heap.size := (Nat.le_trans H27_0_Z K12.1)
        exact B73_1 T13 _ _ (X13.more (cells' := 2) (slots' := 4100) (by decide) (by decide)) e13 b1 b2 (0 : Int32) z27_0_s0 N12 Zs_91 Ex_14 Fo12 Fs12 Fv12 Ar12 ne27_0_b1_b2 ge27_0_b1 ge27_0_b2 hv16
      · have hv17 := hv11.trans (if_neg c15)
        refine Fini.st (fun _ k => XS.ifNo X13.here hx rfl (hb hby at_65) rfl (XT.ll_lt_f c15) k) ?_
        show Fini p e below s _ _ _ T13 (mkF m 68 #[.val (.int p0), .val (.int p1), .val (.int p2), .val (.int p3), .val (.int (p0 &&& (3 : Int32))), .val (.ref b1), .val (.int z27_0_s0), .val (.long ((0 : Int64) + p1.toInt64)), .second] [(.int (f3 (1 : Int32) ((0 : Int64) + p1.toInt64))), (.int z27_0_s0)])
        refine Fini.st (fun _ k => XS.iconst X13.here hx rfl (hb hby at_68) k) ?_
        show Fini p e below s _ _ _ T13 (mkF m 69 #[.val (.int p0), .val (.int p1), .val (.int p2), .val (.int p3), .val (.int (p0 &&& (3 : Int32))), .val (.ref b1), .val (.int z27_0_s0), .val (.long ((0 : Int64) + p1.toInt64)), .second] [(.int (1 : Int32)), (.int (f3 (1 : Int32) ((0 : Int64) + p1.toInt64))), (.int z27_0_s0)])
        refine Fini.st (fun _ k => XS.goto X13.here hx rfl (pc0 := 69) (pc' := 73) rfl (hb hby at_69) (by decide) (by decide) k) ?_
        show Fini p e below s _ _ _ T13 (mkF m 73 #[.val (.int p0), .val (.int p1), .val (.int p2), .val (.int p3), .val (.int (p0 &&& (3 : Int32))), .val (.ref b1), .val (.int z27_0_s0), .val (.long ((0 : Int64) + p1.toInt64)), .second] [(.int (1 : Int32)), (.int (f3 (1 : Int32) ((0 : Int64) + p1.toInt64))), (.int z27_0_s0)])
        have Zs_92 : n0 ≤ T12.heap.size := (Nat.le_trans H27_0_Z K12.1)
        exact B73_1 T13 _ _ (X13.more (cells' := 2) (slots' := 4100) (by decide) (by decide)) e13 b1 b2 (1 : Int32) z27_0_s0 N12 Zs_92 Ex_14 Fo12 Fs12 Fv12 Ar12 ne27_0_b1_b2 ge27_0_b1 ge27_0_b2 hv17
  show Fini p e below s (fun v h' L => v = some (.int (f0 p0 p1 p2 p3)) ∧ Fr n0 L) _ _ s₁ (entryFrame m #[(.int p0), (.int p1), (.int p2), (.int p3)] maxLocals)
  refine Fini.cast (ef0 m p0 p1 p2 p3) ?_
  show Fini p e below s _ _ _ s₁ (mkF m 0 #[.val (.int p0), .val (.int p1), .val (.int p2), .val (.int p3), .unset, .unset, .unset, .unset, .unset] [])
  refine Fini.st (fun _ k => XS.iloadN X0.here hx rfl (hb hby at_0) rfl k) ?_
  show Fini p e below s _ _ _ s₁ (mkF m 1 #[.val (.int p0), .val (.int p1), .val (.int p2), .val (.int p3), .unset, .unset, .unset, .unset, .unset] [(.int p0)])
  refine Fini.st (fun _ k => XS.iconst X0.here hx rfl (hb hby at_1) k) ?_
  show Fini p e below s _ _ _ s₁ (mkF m 2 #[.val (.int p0), .val (.int p1), .val (.int p2), .val (.int p3), .unset, .unset, .unset, .unset, .unset] [(.int (3 : Int32)), (.int p0)])
  refine Fini.st (fun _ k => XS.iand X0.here hx rfl (hb hby at_2) rfl k) ?_
  show Fini p e below s _ _ _ s₁ (mkF m 3 #[.val (.int p0), .val (.int p1), .val (.int p2), .val (.int p3), .unset, .unset, .unset, .unset, .unset] [(.int (p0 &&& (3 : Int32)))])
  refine Fini.st (fun _ k => XS.istore X0.here hx rfl (hb hby at_3) rfl (l' := #[.val (.int p0), .val (.int p1), .val (.int p2), .val (.int p3), .val (.int (p0 &&& (3 : Int32))), .unset, .unset, .unset, .unset]) rfl k) ?_
  show Fini p e below s _ _ _ s₁ (mkF m 5 #[.val (.int p0), .val (.int p1), .val (.int p2), .val (.int p3), .val (.int (p0 &&& (3 : Int32))), .unset, .unset, .unset, .unset] [])
  obtain ⟨T1, h1, X1, e1, E1, A1, D1, -, st1⟩ := newO X0 hx hZ hown (hw _ (List.mem_of_getElem? (i := 0) rfl)) (hw _ (List.mem_of_getElem? (i := 1) rfl)) (hw _ (List.mem_of_getElem? (i := 2) rfl)) e0 (g := (mkF m 5 #[.val (.int p0), .val (.int p1), .val (.int p2), .val (.int p3), .val (.int (p0 &&& (3 : Int32))), .unset, .unset, .unset, .unset] [])) rfl (hb hby at_5) (by decide) (by decide)
  obtain ⟨b1, g1⟩ : ∃ z, z = h0.size := ⟨_, rfl⟩
  rw [← g1] at A1 D1 st1
  have ge_b1 : n0 ≤ b1 := Nat.le_trans Z0 (Nat.le_of_eq g1.symm)
  have Fn1_objects : Fld Z h1 b1 "com/example/mapcodex/mapcodex/pbf/ObjectBatch" "objects" "[Ljava/lang/Object;" .null := D1 (Or.inr (hw _ (List.mem_of_getElem? (i := 12) rfl))) (ty := (.array (.object "java/lang/Object"))) (by decide)
  have Fn1_size : Fld Z h1 b1 "com/example/mapcodex/mapcodex/pbf/ObjectBatch" "size" "I" (.int (0 : Int32)) := D1 (Or.inl (hw _ (List.mem_of_getElem? (i := 19) rfl))) (ty := .int) (by decide)
  have Fn1_values : Fld Z h1 b1 "com/example/mapcodex/mapcodex/pbf/ObjectBatch" "values" "J" (.long (0 : Int64)) := D1 (Or.inl (hw _ (List.mem_of_getElem? (i := 21) rfl))) (ty := .long) (by decide)
  refine Fini.st st1 ?_
  show Fini p e below s _ _ _ T1 (mkF m 8 #[.val (.int p0), .val (.int p1), .val (.int p2), .val (.int p3), .val (.int (p0 &&& (3 : Int32))), .unset, .unset, .unset, .unset] [(.ref b1)])
  refine Fini.st (fun _ k => XS.dup X1.here hx rfl (hb hby at_8) rfl rfl k) ?_
  show Fini p e below s _ _ _ T1 (mkF m 9 #[.val (.int p0), .val (.int p1), .val (.int p2), .val (.int p3), .val (.int (p0 &&& (3 : Int32))), .unset, .unset, .unset, .unset] [(.ref b1), (.ref b1)])
  have Zs_3 : n0 ≤ h1.size := (Nat.le_trans Z0 E1.1)
  obtain ⟨v2, T2, L2, X2, hQ2, st2⟩ := callNew X1 hx hZ hown rfl (hw _ (List.mem_of_getElem? (i := 3) rfl)) (hw _ (List.mem_of_getElem? (i := 4) rfl)) (hw _ (List.mem_of_getElem? (i := 2) rfl)) (hw _ (List.mem_of_getElem? (i := 5) rfl)) (by decide) (rm1 l Z a0 hw [] b1 (0 : Int32) (0 : Int64) h1 n0 Zs_3 A1 Fn1_objects Fn1_size Fn1_values ge_b1) e1 (W := 1) (by decide) (by decide) (by decide) (by decide) (g := (mkF m 9 #[.val (.int p0), .val (.int p1), .val (.int p2), .val (.int p3), .val (.int (p0 &&& (3 : Int32))), .unset, .unset, .unset, .unset] [(.ref b1), (.ref b1)])) rfl (by rw [hml]; rfl) (argsL := []) (rest := [(.ref b1)]) rfl (lenOf pd_0 rfl) rfl (by show 2 * 0 + _ ≤ _; exact Nat.le_of_eq rfl) (hb hby at_9)
  obtain ⟨rfl, Nq2, K2, b2, sz2, ge_b2, Fo2, Ar2, Fs2, Fv2⟩ := hQ2
  have ne_b1_b2 : b1 ≠ b2 := Nat.ne_of_lt (Nat.lt_of_lt_of_le A1.lt sz2)
  have N2 := Fr.app N0 Nq2
  refine Fini.st st2 ?_
  show Fini p e below s _ _ _ T2 (mkF m 12 #[.val (.int p0), .val (.int p1), .val (.int p2), .val (.int p3), .val (.int (p0 &&& (3 : Int32))), .unset, .unset, .unset, .unset] [(.ref b1)])
  refine Fini.st (fun _ k => XS.astore X2.here hx rfl (hb hby at_12) rfl rfl (l' := #[.val (.int p0), .val (.int p1), .val (.int p2), .val (.int p3), .val (.int (p0 &&& (3 : Int32))), .val (.ref b1), .unset, .unset, .unset]) rfl k) ?_
  show Fini p e below s _ _ _ T2 (mkF m 14 #[.val (.int p0), .val (.int p1), .val (.int p2), .val (.int p3), .val (.int (p0 &&& (3 : Int32))), .val (.ref b1), .unset, .unset, .unset] [])
  refine Fini.st (fun _ k => XS.aload X2.here hx rfl (hb hby at_14) rfl rfl k) ?_
  show Fini p e below s _ _ _ T2 (mkF m 16 #[.val (.int p0), .val (.int p1), .val (.int p2), .val (.int p3), .val (.int (p0 &&& (3 : Int32))), .val (.ref b1), .unset, .unset, .unset] [(.ref b1)])
  have Ex_5 : Exa Z T2.heap b1 "com/example/mapcodex/mapcodex/pbf/ObjectBatch" := (A1.keep K2)
  obtain ⟨T4, X4, e4, st4⟩ := pureV X2 hx hZ hown (hw _ (List.mem_of_getElem? (i := 13) rfl)) (hw _ (List.mem_of_getElem? (i := 14) rfl)) (hw _ (List.mem_of_getElem? (i := 16) rfl)) (hw _ (List.mem_of_getElem? (i := 15) rfl)) (hw _ (List.mem_of_getElem? (i := 2) rfl)) (hw _ (List.mem_of_getElem? (i := 17) rfl)) (notFace_of_selects (args := #[]) (mvT hZ (hw _ (List.mem_of_getElem? (i := 16) rfl)))) Ex_5 (by decide) (rm3 l Z a0 hw [] b1 (0 : Int32) (0 : Int64) T2.heap Fs2 Fv2) rfl (W := 0) (by decide) (by decide) (by decide) (by decide) (g := (mkF m 16 #[.val (.int p0), .val (.int p1), .val (.int p2), .val (.int p3), .val (.int (p0 &&& (3 : Int32))), .val (.ref b1), .unset, .unset, .unset] [(.ref b1)])) rfl (by rw [hml]; rfl) (argsL := []) (rest := []) rfl (lenOf pd_1 rfl) rfl (by show 2 * 0 + _ ≤ _; exact Nat.le_of_eq rfl) (hb hby at_16)
  refine Fini.st st4 ?_
  show Fini p e below s _ _ _ T4 (mkF m 19 #[.val (.int p0), .val (.int p1), .val (.int p2), .val (.int p3), .val (.int (p0 &&& (3 : Int32))), .val (.ref b1), .unset, .unset, .unset] [(.int (f3 (0 : Int32) (0 : Int64)))])
  by_cases c6 : (f3 (0 : Int32) (0 : Int64)) = (0 : Int32)
  · have hv7 := hv0.trans (if_pos c6)
    refine Fini.st (fun _ k => XS.ifNo X4.here hx rfl (hb hby at_19) rfl (XT.i0_ne_f c6) k) ?_
    show Fini p e below s _ _ _ T4 (mkF m 22 #[.val (.int p0), .val (.int p1), .val (.int p2), .val (.int p3), .val (.int (p0 &&& (3 : Int32))), .val (.ref b1), .unset, .unset, .unset] [])
    refine Fini.st (fun _ k => XS.iconst X4.here hx rfl (hb hby at_22) k) ?_
    show Fini p e below s _ _ _ T4 (mkF m 23 #[.val (.int p0), .val (.int p1), .val (.int p2), .val (.int p3), .val (.int (p0 &&& (3 : Int32))), .val (.ref b1), .unset, .unset, .unset] [(.int (1 : Int32))])
    refine Fini.st (fun _ k => XS.goto X4.here hx rfl (pc0 := 23) (pc' := 27) rfl (hb hby at_23) (by decide) (by decide) k) ?_
    show Fini p e below s _ _ _ T4 (mkF m 27 #[.val (.int p0), .val (.int p1), .val (.int p2), .val (.int p3), .val (.int (p0 &&& (3 : Int32))), .val (.ref b1), .unset, .unset, .unset] [(.int (1 : Int32))])
    have Zs_93 : n0 ≤ T2.heap.size := (Nat.le_trans Zs_3 K2.1)
    exact B27_0 T4 _ _ (X4.more (cells' := 2) (slots' := 4100) (by decide) (by decide)) e4 b1 b2 (1 : Int32) N2 Zs_93 Ex_5 Fo2 Fs2 Fv2 Ar2 ne_b1_b2 ge_b1 ge_b2 hv7
  · have hv8 := hv0.trans (if_neg c6)
    refine Fini.st (fun _ k => XS.ifYes X4.here hx rfl (pc0 := 19) (pc' := 26) rfl (hb hby at_19) rfl (XT.i0_ne_t c6) (by decide) (by decide) k) ?_
    show Fini p e below s _ _ _ T4 (mkF m 26 #[.val (.int p0), .val (.int p1), .val (.int p2), .val (.int p3), .val (.int (p0 &&& (3 : Int32))), .val (.ref b1), .unset, .unset, .unset] [])
    refine Fini.st (fun _ k => XS.iconst X4.here hx rfl (hb hby at_26) k) ?_
    show Fini p e below s _ _ _ T4 (mkF m 27 #[.val (.int p0), .val (.int p1), .val (.int p2), .val (.int p3), .val (.int (p0 &&& (3 : Int32))), .val (.ref b1), .unset, .unset, .unset] [(.int (0 : Int32))])
    have Zs_94 : n0 ≤ T2.heap.size := (Nat.le_trans Zs_3 K2.1)
    exact B27_0 T4 _ _ (X4.more (cells' := 2) (slots' := 4100) (by decide) (by decide)) e4 b1 b2 (0 : Int32) N2 Zs_94 Ex_5 Fo2 Fs2 Fv2 Ar2 ne_b1_b2 ge_b1 ge_b2 hv8
theorem own_s1 (q : Int64) (A B : Int32) : (if q < (16384 : Int64) then (if f3 (1 : Int32) q = (0 : Int32) then A else B) else (if f3 (1 : Int32) q = (1 : Int32) then A else B)) = A := by
  have e : f3 (1 : Int32) q = if q < (16384 : Int64) then (0 : Int32) else (1 : Int32) := if_neg (by decide)
  by_cases c : q < (16384 : Int64)
  · rw [if_pos c] at e; exact (if_pos c).trans (if_pos e)
  · rw [if_neg c] at e; exact (if_neg c).trans (if_pos e)
theorem own_s2 (q : Int64) (A B : Int32) : (if q < (16384 : Int64) then (if f3 (2 : Int32) q = (0 : Int32) then A else B) else (if f3 (2 : Int32) q = (1 : Int32) then A else B)) = A := by
  have e : f3 (2 : Int32) q = if q < (16384 : Int64) then (0 : Int32) else (1 : Int32) := if_neg (by decide)
  by_cases c : q < (16384 : Int64)
  · rw [if_pos c] at e; exact (if_pos c).trans (if_pos e)
  · rw [if_neg c] at e; exact (if_neg c).trans (if_pos e)
theorem own_s3 (q : Int64) (A B : Int32) : (if q < (16384 : Int64) then (if f3 (3 : Int32) q = (0 : Int32) then A else B) else (if f3 (3 : Int32) q = (1 : Int32) then A else B)) = A := by
  have e : f3 (3 : Int32) q = if q < (16384 : Int64) then (0 : Int32) else (1 : Int32) := if_neg (by decide)
  by_cases c : q < (16384 : Int64)
  · rw [if_pos c] at e; exact (if_pos c).trans (if_pos e)
  · rw [if_neg c] at e; exact (if_neg c).trans (if_pos e)
theorem own_law (i0 i1 i2 i3 : Int32) : f0 i0 i1 i2 i3 = 1 := by
  have h0 : f3 (0 : Int32) (0 : Int64) = 0 := by decide
  unfold f0
  rw [if_pos h0]
  simp only [f0_27_0, f0_73_1, f0_81_1, f0_84_0, f0_84_1, f0_125_1, f0_125_2, f0_133_1, f0_133_2, f0_136_0, f0_136_1, f0_136_2, f0_177_1, f0_177_2, f0_177_3, f0_185_1, f0_185_2, f0_185_3, own_s1, own_s2, own_s3]
  repeat' split
  all_goals decide

set_option maxRecDepth 65536 in
set_option maxHeartbeats 40000000 in
theorem comes_1 {Post : Tables → Env → Array Value → State → Outcome → State → Prop} (hpost : ∀ tb e args s v u, (limb_1_1.after args s (.returned v) u = true ∧ limb_1_2.after args s (.returned v) u = true ∧ True) → FrameEnd s (.returned v) u (Jvm.fieldLocs frame_1_writes args s ++ Jvm.arrayLocs frame_1_arrays args s ++ Jvm.staticLocs frame_1_statics s) 16 8320 → Post tb e args s (.returned v) u) :
    ArmFor flags0 classFile x code maxLocals ret World_1 tables_1 room_1 Calls_1 rest_1 Pre_1 Post := by
  intro l hfl _ _ p e ha hc hk s m args below hf hA hF happ hP
  obtain ⟨hcalls, hrest, hpre⟩ := hP
  obtain ⟨-, -, -, hnamed, -, -, -, hat⟩ := (Spec.applies_iff hf).mp happ
  obtain ⟨hg, hn⟩ := and_e (Cond.before_iff.mp (show (Jvm.Cond.and given_1 narrow_1).before args s = true from hpre))
  obtain ⟨g1, g2⟩ := and_e hg
  obtain ⟨g3, g4⟩ := and_e g2
  obtain ⟨g5, g6⟩ := and_e g4
  obtain ⟨g7, g8⟩ := and_e g6
  obtain ⟨w0, w1, w2, w3, rfl⟩ : ∃ w0 w1 w2 w3 : Value, args = #[w0, w1, w2, w3] := by
    have hs : args.size = 4 := by simpa [Cond.value, given_1] using g1
    obtain ⟨L⟩ := args
    match L, hs with
    | [w0, w1, w2, w3], _ => exact ⟨w0, w1, w2, w3, rfl⟩
  have hw := fun d (hd : d ∈ tables_1) => atoms_spec (ws := Jvm.Cond.code x code maxLocals ret :: tables_1) hat d (List.mem_cons_of_mem _ hd)
  have hfit : Fit s := fun {y c} hc i hi => by
    obtain ⟨ha, rfl⟩ := Array.getElem?_eq_some_iff.mp hc
    have q := List.all_eq_true.mp ((Array.all_eq_true_iff_forall_mem.mp hF) _ (Array.getElem_mem ha)) i (List.mem_range.mpr hi)
    simpa [Array.getElem?_eq_getElem hi] using q
  obtain ⟨i0, ei0⟩ := is_v g3
  obtain rfl : w0 = (.int i0) := Option.some.inj ei0
  obtain ⟨i1, ei1⟩ := is_v g5
  obtain rfl : w1 = (.int i1) := Option.some.inj ei1
  obtain ⟨i2, ei2⟩ := is_v g7
  obtain rfl : w2 = (.int i2) := Option.some.inj ei2
  obtain ⟨i3, ei3⟩ := is_v g8
  obtain rfl : w3 = (.int i3) := Option.some.inj ei3
  obtain ⟨n, o, h1, h2, h3, v, L, rfl, ⟨rfl, N⟩, hq⟩ := rm0 l s _ hw tables_1 i0 i1 i2 i3 s.heap s.heap.size (Nat.le_refl _) p e ha hc hk s m _ below hf ((Spec.applies_iff_loose hf).mp happ).1 ⟨rfl, State.Warmed39.refl s, rfl⟩ trivial
  refine ⟨n, _, h1, h2, h3, hpost _ _ _ _ _ _ ⟨Cond.after_iff.mpr rfl, Cond.after_iff.mpr (eq_i res_at (Term.int_eval (1)) (congrArg Value.int (own_law i0 i1 i2 i3))), trivial⟩ ⟨hq.1, hq.2.1, (hq.2.2.sift fun y hy => Or.inr (N y hy)).mono (by decide) (by decide)⟩⟩
theorem main_1_1 : Claimed_1_1 := comes_1 fun _ _ _ _ _ _ h hF => ⟨h.1, hF⟩
theorem main_1_2 : Claimed_1_2 := comes_1 fun _ _ _ _ _ _ h hF => ⟨h.2.1, hF⟩
end Jvm.Pilot.@@N@@
namespace Jvm.Pilot.@@N@@
open Jvm Jvm.ClassFile Sem Op Lib Jvm.Free Jvm.Stand Jvm.Pilot.@@N@@.Jvm.D
/-! MADE BY PROGRAM (witnessworld.py) out of the Statement's table words and the real class files: 10 classes; the members and pool entries that the words name. The judged class is class 1, her method 1. -/
namespace start1
open Jvm.ClassFile
def u (s : String) : CpInfo := .utf8 (stringToUtf16 s)
/-- a pool by its gaps: so many unusable entries, then the entry; so many at the end -/
def gap : Nat → List CpInfo → List CpInfo
  | 0, r => r
  | n + 1, r => .unusable :: gap n r
def poolList (es : List (Nat × CpInfo)) (last : Nat) : List CpInfo := es.foldr (fun e r => gap e.1 (e.2 :: r)) (gap last [])
def pool (es : List (Nat × CpInfo)) (last : Nat) : Array CpInfo := ⟨poolList es last⟩
def fileOf (pool : Array CpInfo) (this : Nat) (attrs : Array Attribute := #[]) (ms : Array MethodInfo := #[]) (fl : Nat := 33) (sup : Nat := 0) (ifs : Array Nat := #[]) (fds : Array FieldInfo := #[]) : ClassFile where
  minorVersion := 0
  majorVersion := 65
  constantPool := pool
  accessFlags := fl
  thisClass := this
  superClass := sup
  interfaces := ifs
  fields := fds
  methods := ms
  attributes := attrs
def plain (name : String) (sup : Option ClassId) : Class where
  name := name
  kind := .ordinary
  loader := none
  accessFlags := 33
  super := sup
  interfaces := #[]
  cf := none
  fields := #[]
  methods := #[]
  instanceTypes := #[]
  staticTypes := #[]
  resolved := #[]
  callSites := []
  init := .initialized
  statics := none
  mirror := none

def pool0 : Array CpInfo := pool [(5, u "<init>"), (0, u "()V"), (1, .class_ 10), (1, u "java/lang/Object")] 113

def k0c0 : Code := { maxStack := 0, maxLocals := 1, code := object_method_1_code, exceptionTable := #[], attributes := #[] }
def k0m0 : Method := { name := "<init>", desc := "()V", sig := { parameters := [], returnType := none }, accessFlags := 1, code := some k0c0 }
/-- java/lang/Object -/
def k0 : Class := { plain "java/lang/Object" none with
  accessFlags := 33
  interfaces := #[]
  cf := some (fileOf pool0 8 #[] #[{ accessFlags := 1, nameIndex := 5, descriptorIndex := 6, attributes := #[] }] 33 0 #[] #[])
  fields := #[]
  methods := #[k0m0]
  instanceTypes := #[]
  staticTypes := #[]
  resolved := Array.replicate 124 none
  statics := none }

def pool1 : Array CpInfo := pool [(2, .class_ 4), (0, .nameAndType 5 6), (0, u "java/lang/Object"), (0, u "<init>"), (0, u "()V"), (0, .class_ 8), (0, u "com/example/mapcodex/mapcodex/pbf/ObjectBatch"), (0, .methodref 7 3), (0, .methodref 7 11), (0, .nameAndType 12 13), (0, u "isFull"), (0, u "()Z"), (0, .methodref 7 15), (0, .nameAndType 16 17), (0, u "add"), (0, u "(Lcom/example/mapcodex/mapcodex/osm/OsmObject;I)V"), (0, .long 16384), (1, .class_ 21), (0, u "com/example/mapcodex/mapcodex/pbf/ObjectBatchIsFullPinLaw"), (2, u "law"), (0, u "(IIII)Z")] 3

def k1m0 : Method := { name := "<init>", desc := "()V", sig := { parameters := [], returnType := none }, accessFlags := 1, code := none }
def k1c1 : Code := { maxStack := 6, maxLocals := 9, code := code, exceptionTable := #[], attributes := #[] }
def k1m1 : Method := { name := "law", desc := "(IIII)Z", sig := { parameters := [.int, .int, .int, .int], returnType := some .boolean }, accessFlags := 9, code := some k1c1 }
/-- com/example/mapcodex/mapcodex/pbf/ObjectBatchIsFullPinLaw -/
def k1 : Class := { plain "com/example/mapcodex/mapcodex/pbf/ObjectBatchIsFullPinLaw" (some 0) with
  accessFlags := 49
  interfaces := #[]
  cf := some (fileOf pool1 20 #[] #[{ accessFlags := 1, nameIndex := 5, descriptorIndex := 6, attributes := #[] }, { accessFlags := 9, nameIndex := 24, descriptorIndex := 25, attributes := #[] }] 49 2 #[] #[])
  fields := #[]
  methods := #[k1m0, k1m1]
  instanceTypes := #[]
  staticTypes := #[]
  resolved := Array.replicate 29 none
  statics := none }

def pool2 : Array CpInfo := pool [(1, .methodref 2 3), (0, .class_ 4), (0, .nameAndType 5 6), (0, u "java/lang/Object"), (0, u "<init>"), (0, u "()V"), (0, .class_ 8), (0, u "com/example/mapcodex/mapcodex/pbf/ObjectBatch"), (0, .fieldref 7 10), (0, .nameAndType 11 12), (0, u "objects"), (0, u "[Ljava/lang/Object;"), (0, .fieldref 7 14), (0, .nameAndType 15 16), (0, u "size"), (0, u "I"), (0, .fieldref 7 18), (0, .nameAndType 19 20), (0, u "values"), (0, u "J"), (0, .long 16384), (3, u "handed"), (2, u "MAX_OBJECTS"), (2, u "MAX_VALUES"), (3, u "isFull"), (0, u "()Z"), (1, u "add"), (0, u "(Lcom/example/mapcodex/mapcodex/osm/OsmObject;I)V")] 6

def k2c0 : Code := { maxStack := 2, maxLocals := 1, code := prog_49_method_1_code, exceptionTable := #[], attributes := #[] }
def k2m0 : Method := { name := "<init>", desc := "()V", sig := { parameters := [], returnType := none }, accessFlags := 0, code := some k2c0 }
def k2c1 : Code := { maxStack := 4, maxLocals := 1, code := prog_49_method_2_code, exceptionTable := #[], attributes := #[] }
def k2m1 : Method := { name := "isFull", desc := "()Z", sig := { parameters := [], returnType := some .boolean }, accessFlags := 0, code := some k2c1 }
def k2c2 : Code := { maxStack := 5, maxLocals := 3, code := prog_49_method_3_code, exceptionTable := #[], attributes := #[] }
def k2m2 : Method := { name := "add", desc := "(Lcom/example/mapcodex/mapcodex/osm/OsmObject;I)V", sig := { parameters := [(.object "com/example/mapcodex/mapcodex/osm/OsmObject"), .int], returnType := none }, accessFlags := 0, code := some k2c2 }
/-- com/example/mapcodex/mapcodex/pbf/ObjectBatch -/
def k2 : Class := { plain "com/example/mapcodex/mapcodex/pbf/ObjectBatch" (some 0) with
  accessFlags := 48
  interfaces := #[]
  cf := some (fileOf pool2 7 #[] #[{ accessFlags := 0, nameIndex := 5, descriptorIndex := 6, attributes := #[] }, { accessFlags := 0, nameIndex := 35, descriptorIndex := 36, attributes := #[] }, { accessFlags := 0, nameIndex := 38, descriptorIndex := 39, attributes := #[] }] 48 2 #[] #[{ accessFlags := 24, nameIndex := 28, descriptorIndex := 16, attributes := #[] }, { accessFlags := 24, nameIndex := 31, descriptorIndex := 16, attributes := #[] }, { accessFlags := 18, nameIndex := 11, descriptorIndex := 12, attributes := #[] }, { accessFlags := 2, nameIndex := 15, descriptorIndex := 16, attributes := #[] }, { accessFlags := 2, nameIndex := 25, descriptorIndex := 16, attributes := #[] }, { accessFlags := 2, nameIndex := 19, descriptorIndex := 20, attributes := #[] }])
  fields := #[{ name := "MAX_OBJECTS", type := .int, accessFlags := 24, slot := 0, constantValue := 0 }, { name := "MAX_VALUES", type := .int, accessFlags := 24, slot := 1, constantValue := 0 }, { name := "objects", type := (.array (.object "java/lang/Object")), accessFlags := 18, slot := 0, constantValue := 0 }, { name := "size", type := .int, accessFlags := 2, slot := 1, constantValue := 0 }, { name := "handed", type := .int, accessFlags := 2, slot := 2, constantValue := 0 }, { name := "values", type := .long, accessFlags := 2, slot := 3, constantValue := 0 }]
  methods := #[k2m0, k2m1, k2m2]
  instanceTypes := #[(.array (.object "java/lang/Object")), .int, .int, .long]
  staticTypes := #[.int, .int]
  resolved := Array.replicate 46 none
  statics := none }

def pool3 : Array CpInfo := pool [(1, u "java/lang/Cloneable"), (0, .class_ 1), (0, u "java/lang/Object"), (0, .class_ 3)] 3

/-- java/lang/Cloneable -/
def k3 : Class := { plain "java/lang/Cloneable" (some 0) with
  accessFlags := 1537
  interfaces := #[]
  cf := some (fileOf pool3 2 #[] #[] 1537 4 #[] #[])
  fields := #[]
  methods := #[]
  instanceTypes := #[]
  staticTypes := #[]
  resolved := Array.replicate 8 none
  statics := none }

def pool4 : Array CpInfo := pool [(1, u "java/io/Serializable"), (0, .class_ 1), (0, u "java/lang/Object"), (0, .class_ 3)] 3

/-- java/io/Serializable -/
def k4 : Class := { plain "java/io/Serializable" (some 0) with
  accessFlags := 1537
  interfaces := #[]
  cf := some (fileOf pool4 2 #[] #[] 1537 4 #[] #[])
  fields := #[]
  methods := #[]
  instanceTypes := #[]
  staticTypes := #[]
  resolved := Array.replicate 8 none
  statics := none }

/-- the primitive byte -/
def k5 : Class := { plain "byte" none with kind := .primitive 'B', accessFlags := 0x411 }
/-- [B -/
def k6 : Class := { plain "[B" (some 0) with kind := .array 5 .byte, interfaces := #[3, 4], accessFlags := 1041 }

/-- the primitive int -/
def k7 : Class := { plain "int" none with kind := .primitive 'I', accessFlags := 0x411 }
/-- [I -/
def k8 : Class := { plain "[I" (some 0) with kind := .array 7 .int, interfaces := #[3, 4], accessFlags := 1041 }

/-- [Ljava/lang/Object; -/
def k9 : Class := { plain "[Ljava/lang/Object;" (some 0) with kind := .array 0 (.object "java/lang/Object"), interfaces := #[3, 4], accessFlags := 1041 }

def heap : Heap := #[]
def classes : Array Class := #[k0, k1, k2, k3, k4, k5, k6, k7, k8, k9]
def interned : List (Array UInt16 × Addr) := []
def slotsUsed : Nat := 0
def theMethod : MethodId := ⟨1, 1⟩
def args0 : Array Value := #[.int 5, .int 7, .int 3, .int 2]
def aboutOver (below : List Frame) : State where
  vm := { classes := classes, interned := interned.toArray }
  heap := heap
  slotsUsed := slotsUsed
  threads := #[{ frames := .invoking theMethod args0 :: below }]
def below0 : List Frame := [.native { method := ⟨0, 0⟩, args := #[] }]
def about1 : State := aboutOver below0
def p0 : Program := .bare "" "" ""
def e0 : Env := launch0.env 0 0 0
theorem w_frames : about1.frames = Frame.invoking theMethod args0 :: below0 := rfl
set_option maxRecDepth 65536 in
theorem w_args : argsFit about1.vm theMethod args0 = true := by decide +kernel
set_option maxRecDepth 65536 in
theorem w_heap : heapFits about1 = true := by decide +kernel
set_option maxRecDepth 65536 in
theorem w_runnable : about1.curStatus? = some .runnable := by decide +kernel
set_option maxRecDepth 65536 in
theorem w_alone : about1.alone = true := by decide +kernel
set_option maxRecDepth 65536 in
theorem w_named : about1.methodNamed? x = some theMethod := by decide +kernel
set_option maxRecDepth 65536 in
theorem w_hears : about1.hears theMethod below0 = true := by decide +kernel
set_option maxRecDepth 65536 in
theorem w_ripe : about1.ripe theMethod args0 below0 = true := by decide +kernel
theorem w_running : about1.status = .running := rfl
set_option maxRecDepth 65536 in
theorem w_room : about1.hasRoom e0.platform room_1 = true :=
  launch0.hasRoom_least _ room_1 (by decide +kernel) (by decide +kernel) (by decide +kernel) (by decide +kernel) (by decide +kernel) (by decide +kernel)
theorem allAtoms_all (ts : List Jvm.Cond) (a : Array Jvm.Value) (st : Jvm.State) : (allAtoms ts).before a st = ts.all (fun c => c.before a st) := by
  induction ts with
  | nil => rfl
  | cons c t ih =>
    show (Jvm.Cond.and c (allAtoms t)).before a st = _
    rw [Jvm.Cond.before_and, ih, List.all_cons]
def words1 : List Jvm.Cond := Jvm.Cond.code x code maxLocals ret :: tables_1
/-- a 'code' word, met by the world's own term for the bytes: nothing is compared byte by byte -/
theorem code_word {y : MethodName} {bytes : ByteArray} {mx : Nat} {rt : Option FieldType} {a : Array Value} {s : State} {m : MethodId} {meth : Method} {c : Code} (h1 : s.methodNamed? y = some m) (h2 : s.vm.method? m = some meth) (h3 : meth.code = some c) (h4 : c.code = bytes)
    (h5 : (c.maxLocals == mx && c.exceptionTable.isEmpty && decide (c.maxStack ≤ mostOperands) && decide (meth.sig.returnType = rt) && !meth.locks && decide (parseMethodDescriptor y.desc = some meth.sig)) = true) : (Jvm.Cond.code y bytes mx rt).before a s = true := by
  simp only [Bool.and_eq_true, beq_iff_eq, Bool.not_eq_true', decide_eq_true_eq] at h5
  obtain ⟨⟨⟨⟨⟨g1, g2⟩, g3⟩, g4⟩, g5⟩, g6⟩ := h5
  simp [Cond.before, Cond.holds, Cond.value, h1, h2, h3, h4, g1, g2, g3, g4, g5, g6]
def isCode : Jvm.Cond → Bool
  | .code _ _ _ _ => true
  | _ => false
theorem all_split {L : List Jvm.Cond} {P : Jvm.Cond → Bool} (h1 : L.all (fun c => isCode c || P c) = true) (h2 : ∀ c ∈ L.filter isCode, P c = true) : L.all P = true := by
  refine List.all_eq_true.mpr fun c hc => ?_
  have h := List.all_eq_true.mp h1 c hc
  rcases Bool.eq_false_or_eq_true (isCode c) with hi | hi
  · exact h2 c (List.mem_filter.mpr ⟨hc, hi⟩)
  · simpa [hi] using h
set_option maxRecDepth 65536 in
theorem w_c0 : (Jvm.Cond.code x code maxLocals ret).before args0 about1 = true := code_word (m := ⟨1, 1⟩) (meth := k1m1) (c := k1c1) (by decide +kernel) rfl rfl rfl (by decide +kernel)
set_option maxRecDepth 65536 in
theorem w_c1 : (Jvm.Cond.code ({ cls := "com/example/mapcodex/mapcodex/pbf/ObjectBatch", name := "<init>", desc := "()V" } : Jvm.MethodName) prog_49_method_1_code (1 : Nat) (Option.none : Option Jvm.ClassFile.FieldType)).before args0 about1 = true := code_word (m := ⟨2, 0⟩) (meth := k2m0) (c := k2c0) (by decide +kernel) rfl rfl rfl (by decide +kernel)
set_option maxRecDepth 65536 in
theorem w_c2 : (Jvm.Cond.code ({ cls := "java/lang/Object", name := "<init>", desc := "()V" } : Jvm.MethodName) object_method_1_code (1 : Nat) (Option.none : Option Jvm.ClassFile.FieldType)).before args0 about1 = true := code_word (m := ⟨0, 0⟩) (meth := k0m0) (c := k0c0) (by decide +kernel) rfl rfl rfl (by decide +kernel)
set_option maxRecDepth 65536 in
theorem w_c3 : (Jvm.Cond.code ({ cls := "com/example/mapcodex/mapcodex/pbf/ObjectBatch", name := "isFull", desc := "()Z" } : Jvm.MethodName) prog_49_method_2_code (1 : Nat) (Option.some Jvm.ClassFile.FieldType.boolean)).before args0 about1 = true := code_word (m := ⟨2, 1⟩) (meth := k2m1) (c := k2c1) (by decide +kernel) rfl rfl rfl (by decide +kernel)
set_option maxRecDepth 65536 in
theorem w_c4 : (Jvm.Cond.code ({ cls := "com/example/mapcodex/mapcodex/pbf/ObjectBatch", name := "add", desc := "(Lcom/example/mapcodex/mapcodex/osm/OsmObject;I)V" } : Jvm.MethodName) prog_49_method_3_code (3 : Nat) (Option.none : Option Jvm.ClassFile.FieldType)).before args0 about1 = true := code_word (m := ⟨2, 2⟩) (meth := k2m2) (c := k2c2) (by decide +kernel) rfl rfl rfl (by decide +kernel)
def codes1 : List Jvm.Cond := [Jvm.Cond.code x code maxLocals ret, Jvm.Cond.code ({ cls := "com/example/mapcodex/mapcodex/pbf/ObjectBatch", name := "<init>", desc := "()V" } : Jvm.MethodName) prog_49_method_1_code (1 : Nat) (Option.none : Option Jvm.ClassFile.FieldType), Jvm.Cond.code ({ cls := "java/lang/Object", name := "<init>", desc := "()V" } : Jvm.MethodName) object_method_1_code (1 : Nat) (Option.none : Option Jvm.ClassFile.FieldType), Jvm.Cond.code ({ cls := "com/example/mapcodex/mapcodex/pbf/ObjectBatch", name := "isFull", desc := "()Z" } : Jvm.MethodName) prog_49_method_2_code (1 : Nat) (Option.some Jvm.ClassFile.FieldType.boolean), Jvm.Cond.code ({ cls := "com/example/mapcodex/mapcodex/pbf/ObjectBatch", name := "add", desc := "(Lcom/example/mapcodex/mapcodex/osm/OsmObject;I)V" } : Jvm.MethodName) prog_49_method_3_code (3 : Nat) (Option.none : Option Jvm.ClassFile.FieldType)]
set_option maxRecDepth 65536 in
theorem codes_eq : words1.filter isCode = codes1 := rfl
theorem w_codes : ∀ c ∈ words1.filter isCode, c.before args0 about1 = true := by
  rw [codes_eq]
  intro c hc
  simp only [codes1, List.mem_cons, List.not_mem_nil, or_false] at hc
  rcases hc with rfl | rfl | rfl | rfl | rfl
  · exact w_c0
  · exact w_c1
  · exact w_c2
  · exact w_c3
  · exact w_c4
set_option maxRecDepth 65536 in
theorem w_t1 : (words1.take 24).all (fun c => isCode c || c.before args0 about1) = true := by decide +kernel
set_option maxRecDepth 65536 in
theorem w_t2 : (words1.drop 24).all (fun c => isCode c || c.before args0 about1) = true := by decide +kernel
theorem w_tables : (allAtoms (Jvm.Cond.code x code maxLocals ret :: tables_1)).before args0 about1 = true := by
  rw [allAtoms_all]
  show words1.all (fun c => c.before args0 about1) = true
  refine all_split ?_ w_codes
  rw [← List.take_append_drop 24 words1, List.all_append, w_t1, w_t2]
  rfl
set_option maxRecDepth 65536 in
theorem w_case : (Jvm.Cond.and given_1 narrow_1).before args0 about1 = true := by decide +kernel
theorem w_applies : (headSpec (Jvm.Cond.code x code maxLocals ret :: tables_1) room_1).applies x e0.platform about1 = true :=
  (Spec.applies_iff w_frames).mpr ⟨w_running, w_runnable, w_alone, w_named, w_hears, w_ripe, w_room, w_tables⟩
theorem atStart : AtStart classFile x code maxLocals ret World_1 tables_1 room_1 Calls_1 rest_1 Pre_1 launch0 p0 e0 about1 theMethod args0 below0 :=
  ⟨lists_1, trivial, launch0.admits_env _ _ _, launch0.least_env, fairChoices_fair.cas, fairChoices_fair.clock, w_frames, w_args, w_heap, w_applies, trivial, trivial, w_case⟩
end start1
theorem witness_1 : WitnessClaimed_1 := ⟨start1.p0, start1.e0, start1.about1, start1.theMethod, start1.args0, start1.below0, start1.atStart⟩
end Jvm.Pilot.@@N@@
