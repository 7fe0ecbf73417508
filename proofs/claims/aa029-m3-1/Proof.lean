import JvmDerived
import JvmDerived.Pilot.@@N@@Statement
import JvmDerived.Pilot.@@N@@Code
set_option linter.unusedVariables false
set_option linter.unusedSimpArgs false
namespace Jvm.RoadKit
open Sem ClassFile Op Lib Jvm.Stand Jvm.Free Jvm.LawKit
section New
variable {p : Program} {l : Launch} {e : Env} {R : Room} {s : State} {m : MethodId} {args : Array Value} {below : List Frame} {meth : Method} {c : Code} {T : State} {locs : List Loc} {cells slots : Nat}
theorem retI (X : Stand p l e R s m args below meth c T locs cells slots) (hx : p.tables.exec = Jvm.exec) {pc : Nat} {Ls : Array Slot} {z : Int32} {rest : List Value} (hret : meth.sig.returnType = some .int) (hd : decode c.code pc = .ok (.ireturn, 1)) {fs : List Frame}
    (hl : ∀ (f : JFrame) (acts : List Action), f.method = m → f.locked = none → f.entered = [] → (doReturn e (T.setTop f) acts (some (.int z))).1 = T.setFrames fs) : Steps p.tables e below (T.setTop (mkF m pc Ls (.int z :: rest))) (T.setFrames fs) := by
  have hm' : T.vm.method? m = some meth := X.method'
  have hn : narrow .int (.int z) = .int z := rfl
  show Steps p.tables e below (T.setTop { method := m, pc := pc, locals := Ls, stack := _ :: rest, locked := none }) _
  jvm_step X.here [X.here.top, hx, hd, hm', hret, hn]
  first | (intro acts; rw [hl _ acts rfl rfl rfl]) | rw [hl _ _ rfl rfl rfl]
  exact Steps.refl _
end New
end Jvm.RoadKit
namespace Jvm.Pilot.@@N@@
open Jvm Jvm.ClassFile Sem Op Lib Jvm.Free Jvm.Stand Jvm.LawKit Jvm.RoadKit Bundle Jvm.Pilot.@@N@@.Jvm.D

/-! the walk's goal: from this frame the run comes to its end, and Q holds of what it returns, of the heap and of the places written -/
def Fini (p : Program) (e : Env) (below : List Frame) (s : State) (Q : Option Value → Heap → List Loc → Prop) (C S : Nat) (T : State) (g : JFrame) : Prop :=
  ∃ s₂ o, Steps p.tables e below (T.setTop g) s₂ ∧ s₂.status = .running ∧ Ended s₂ below o ∧ ∃ v L, o = .returned v ∧ Q v s₂.heap L ∧ FrameEnd s o s₂ L C S
abbrev Cmet (l : Launch) (Z : State) (y : MethodName) (bytes : ByteArray) (ml : Nat) (ret : Option FieldType) (ws : List Jvm.Cond) (rm : Room) (as : Array Value) (h0 : Heap) (Q : Option Value → Heap → List Loc → Prop) : Prop :=
  MetFree l y (head1 (Jvm.Cond.code y bytes ml ret :: ws) rm) (fun a U => a = as ∧ Z.Warmed39 U.vm ∧ U.heap = h0) (fun _ _ _ _ _ => True) (fun _ U o U' => ∃ v L, o = .returned v ∧ Q v U'.heap L ∧ FrameEnd U o U' L rm.cells rm.slots)
section Own
variable {p : Program} {l : Launch} {e : Env} {R : Room} {s : State} {m : MethodId} {args : Array Value} {below : List Frame} {meth : Method} {c : Code} {T T' : State} {locs : List Loc} {cells slots : Nat} {Q : Option Value → Heap → List Loc → Prop} {C S : Nat} {g g' : JFrame} {Z : State} {a0 : Array Value} {h : Heap}
theorem Fini.st (k : ∀ t, Steps p.tables e below (T'.setTop g') t → Steps p.tables e below (T.setTop g) t) (f : Fini p e below s Q C S T' g') : Fini p e below s Q C S T g := by
  obtain ⟨s2, o, h1, r⟩ := f
  exact ⟨s2, o, k _ h1, r⟩
theorem Fini.cast (q : g = g') (f : Fini p e below s Q C S T g') : Fini p e below s Q C S T g := q ▸ f
theorem Fini.retI (X : Stand p l e R s m args below meth c T locs cells slots) (hx : p.tables.exec = Jvm.exec) (hl : meth.locks = false) (hret : meth.sig.returnType = some .int) {pc : Nat} {Ls : Array Slot} {z : Int32} {rest : List Value} (hd : decode c.code pc = .ok (.ireturn, 1))
    (hC : cells ≤ C) (hS : slots ≤ S) (hQ : Q (some (.int z)) T.heap locs) : Fini p e below s Q C S T (mkF m pc Ls (.int z :: rest)) := by
  obtain ⟨fs, hr, hrun, hended, hW, hsame⟩ := X.leave (v := some (.int z)) (fun h => by rw [hret] at h; cases h) hl
  exact ⟨_, _, Jvm.RoadKit.retI X hx hret hd hr, hrun, hended, _, _, rfl, hQ, ⟨_, rfl⟩, hW, hsame.mono hC hS⟩
theorem Fini.retN (X : Stand p l e R s m args below meth c T locs cells slots) (hx : p.tables.exec = Jvm.exec) (hl : meth.locks = false) {t : FieldType} (hret : meth.sig.returnType = some t) (ht : t = .boolean ∨ t = .byte ∨ t = .char ∨ t = .short) {pc : Nat} {Ls : Array Slot} {z z' : Int32} {rest : List Value} (hd : decode c.code pc = .ok (.ireturn, 1))
    (hz : nar t z = z') (hC : cells ≤ C) (hS : slots ≤ S) (hQ : Q (some (.int z')) T.heap locs) : Fini p e below s Q C S T (mkF m pc Ls (.int z :: rest)) := by
  subst hz
  obtain ⟨fs, hr, hrun, hended, hW, hsame⟩ := X.leave (v := some (.int (nar t z))) (fun h => by rw [hret] at h; cases h) hl
  exact ⟨_, _, Jvm.RoadKit.retN X hx hret ht hd hr, hrun, hended, _, _, rfl, hQ, ⟨_, rfl⟩, hW, hsame.mono hC hS⟩
theorem Fini.retJ (X : Stand p l e R s m args below meth c T locs cells slots) (hx : p.tables.exec = Jvm.exec) (hl : meth.locks = false) (hret : meth.sig.returnType = some .long) {pc : Nat} {Ls : Array Slot} {z : Int64} {rest : List Value} (hd : decode c.code pc = .ok (.lreturn, 1))
    (hC : cells ≤ C) (hS : slots ≤ S) (hQ : Q (some (.long z)) T.heap locs) : Fini p e below s Q C S T (mkF m pc Ls (.long z :: rest)) := by
  obtain ⟨fs, hr, hrun, hended, hW, hsame⟩ := X.leave (v := some (.long z)) (fun h => by rw [hret] at h; cases h) hl
  exact ⟨_, _, retOut X hx hret rfl (Or.inr (Or.inl ⟨rfl, rfl, z, rfl⟩)) hd hr, hrun, hended, _, _, rfl, hQ, ⟨_, rfl⟩, hW, hsame.mono hC hS⟩
theorem Fini.retA (X : Stand p l e R s m args below meth c T locs cells slots) (hx : p.tables.exec = Jvm.exec) (hl : meth.locks = false) {t : FieldType} (hret : meth.sig.returnType = some t) (ht : t.isReference = true) {pc : Nat} {Ls : Array Slot} {w : Value} {rest : List Value} (hd : decode c.code pc = .ok (.areturn, 1)) (hw : w.isRef = true) (hn : narrow t w = w)
    (hC : cells ≤ C) (hS : slots ≤ S) (hQ : Q (some w) T.heap locs) : Fini p e below s Q C S T (mkF m pc Ls (w :: rest)) := by
  obtain ⟨fs, hr, hrun, hended, hW, hsame⟩ := X.leave (v := some w) (fun h => by rw [hret] at h; cases h) hl
  exact ⟨_, _, retOut X hx hret hn (Or.inr (Or.inr (Or.inr (Or.inr ⟨rfl, ht, hw⟩)))) hd hr, hrun, hended, _, _, rfl, hQ, ⟨_, rfl⟩, hW, hsame.mono hC hS⟩
theorem Fini.ret0 (X : Stand p l e R s m args below meth c T locs cells slots) (hx : p.tables.exec = Jvm.exec) (hl : meth.locks = false) (hret : meth.sig.returnType = none) {pc : Nat} {Ls : Array Slot} (hd : decode c.code pc = .ok (.return_, 1))
    (hC : cells ≤ C) (hS : slots ≤ S) (hQ : Q none T.heap locs) : Fini p e below s Q C S T (mkF m pc Ls []) := by
  obtain ⟨fs, hr, hrun, hended, hW, hsame⟩ := X.leave (v := none) (fun _ => rfl) hl
  exact ⟨_, _, X.returnOut hx hret hd hr, hrun, hended, _, _, rfl, hQ, ⟨_, rfl⟩, hW, hsame.mono hC hS⟩
/-- a static call by its contract -/
theorem callQ (X : Stand p l e R s m args below meth c T locs cells slots) (hx : p.tables.exec = Jvm.exec) (hZ : Z.Warmed39 s.vm) {own : String} {index : Nat} {y : MethodName} {bytes : ByteArray} {maxL : Nat} {ret : Option FieldType} {rm : Room} {as : Array Value}
    (hown : s.vm.findClass own = some m.cls) (w1 : (Cond.methodLink own index y).before a0 Z = true) (w2 : (Cond.static y).before a0 Z = true) (w3 : (Cond.initialized y.cls).before a0 Z = true) (w4 : (Cond.code y bytes maxL ret).before a0 Z = true)
    (hy : y.cls ≠ "java/lang/invoke/MethodHandle" ∧ y.cls ≠ "java/lang/invoke/VarHandle") (M : Cmet l Z y bytes maxL ret [] rm as h Q) (eT : T.heap = h) {W : Nat} (hf : rm.frames + 1 ≤ R.frames) (hl : W + (maxL + 11) + rm.locals ≤ R.locals) (hc : cells + rm.cells ≤ R.cells) (hs : slots + rm.slots ≤ R.slots)
    (hg : g.method = m) (hsize : g.locals.size = c.maxLocals) {argsL rest : List Value} (has : argsL.toArray = as) (hlen : ∀ sig, parseMethodDescriptor y.desc = some sig → argsL.length = sig.parameters.length)
    (hstack : g.stack = argsL.reverse ++ rest) (hW : 2 * g.monitorRoom + (rest.map fun v => v.category).sum ≤ W) (hdg : decode c.code g.pc = .ok (.invokestatic index, 3)) :
    ∃ (v : Option Value) (T' : State) (L : List Loc), Stand p l e R s m args below meth c T' (locs ++ L) (cells + rm.cells) (slots + rm.slots) ∧ Q v T'.heap L ∧
      ∀ target, Steps p.tables e below (T'.setTop { g with pc := g.pc + 3, stack := v.toList ++ rest }) target → Steps p.tables e below (T.setTop g) target := by
  obtain ⟨v, vm1, ⟨T', L', c', n'⟩, -, X', ⟨L, hQ, q1, q2, q3⟩, st⟩ := Jvm.LawKit.callS X hx hown (mvT hZ w1) (mvT hZ w2) (mvT hZ w3) (mvT hZ w4) hy (backOf (W := W) M hZ w4 w3 hf hl) hg hsize hlen hstack hW hdg (fun _ _ => ⟨has, eT, hc, hs⟩)
  dsimp only [Pt.U, Pt.locs, Pt.cells, Pt.slots] at X' q1 q2 q3 st hQ
  subst q1 q2 q3
  exact ⟨v, T', L, X', hQ, st⟩
/-- a static call that leaves the heap as it was -/
theorem pureS (X : Stand p l e R s m args below meth c T locs cells slots) (hx : p.tables.exec = Jvm.exec) (hZ : Z.Warmed39 s.vm) {own : String} {index : Nat} {y : MethodName} {bytes : ByteArray} {maxL : Nat} {ret : Option FieldType} {fr lo : Nat} {as : Array Value} {w : Option Value}
    (hown : s.vm.findClass own = some m.cls) (w1 : (Cond.methodLink own index y).before a0 Z = true) (w2 : (Cond.static y).before a0 Z = true) (w3 : (Cond.initialized y.cls).before a0 Z = true) (w4 : (Cond.code y bytes maxL ret).before a0 Z = true)
    (hy : y.cls ≠ "java/lang/invoke/MethodHandle" ∧ y.cls ≠ "java/lang/invoke/VarHandle") (M : Cmet l Z y bytes maxL ret [] ({ frames := fr, cells := 0, slots := 0, locals := lo } : Room) as h (fun v h' L => v = w ∧ h' = h ∧ L = [])) (eT : T.heap = h) {W : Nat} (hf : fr + 1 ≤ R.frames) (hl : W + (maxL + 11) + lo ≤ R.locals) (hc : cells ≤ R.cells) (hs : slots ≤ R.slots)
    (hg : g.method = m) (hsize : g.locals.size = c.maxLocals) {argsL rest : List Value} (has : argsL.toArray = as) (hlen : ∀ sig, parseMethodDescriptor y.desc = some sig → argsL.length = sig.parameters.length)
    (hstack : g.stack = argsL.reverse ++ rest) (hW : 2 * g.monitorRoom + (rest.map fun v => v.category).sum ≤ W) (hdg : decode c.code g.pc = .ok (.invokestatic index, 3)) :
    ∃ (T' : State), Stand p l e R s m args below meth c T' locs cells slots ∧ T'.heap = h ∧
      ∀ target, Steps p.tables e below (T'.setTop { g with pc := g.pc + 3, stack := w.toList ++ rest }) target → Steps p.tables e below (T.setTop g) target := by
  obtain ⟨v, T', L, X', ⟨rfl, q, rfl⟩, st⟩ := callQ X hx hZ hown w1 w2 w3 w4 hy M eT (W := W) hf hl hc hs hg hsize has hlen hstack hW hdg
  rw [List.append_nil] at X'
  exact ⟨T', X', q, st⟩
/-- an instance method by the contract of the body that the receiver's class selects -/
theorem callV (X : Stand p l e R s m args below meth c T locs cells slots) (hx : p.tables.exec = Jvm.exec) (hZ : Z.Warmed39 s.vm) {own C' : String} {index : Nat} {y z : MethodName} {bytes : ByteArray} {maxL : Nat} {ret : Option FieldType} {rm : Room} {as : Array Value} {b : Addr}
    (hown : s.vm.findClass own = some m.cls) (w1 : (Cond.methodLink own index y).before a0 Z = true) (w2 : (Cond.declares y).before a0 Z = true) (w3 : (Cond.selects C' y z).before a0 Z = true) (w4 : (Cond.instanceMethod z).before a0 Z = true) (w5 : (Cond.initialized z.cls).before a0 Z = true) (w6 : (Cond.code z bytes maxL ret).before a0 Z = true)
    (nf : NotFace s y) (E : Exa Z h b C') (hy : y.cls ≠ "java/lang/invoke/MethodHandle" ∧ y.cls ≠ "java/lang/invoke/VarHandle") (M : Cmet l Z z bytes maxL ret [] rm as h Q) (eT : T.heap = h) {W : Nat} (hf : rm.frames + 1 ≤ R.frames) (hl : W + (maxL + 11) + rm.locals ≤ R.locals) (hc : cells + rm.cells ≤ R.cells) (hs : slots + rm.slots ≤ R.slots)
    (hg : g.method = m) (hsize : g.locals.size = c.maxLocals) {argsL rest : List Value} (has : (Value.ref b :: argsL).toArray = as) (hlen : ∀ sig, parseMethodDescriptor y.desc = some sig → argsL.length = sig.parameters.length)
    (hstack : g.stack = argsL.reverse ++ .ref b :: rest) (hW : 2 * g.monitorRoom + (rest.map fun v => v.category).sum ≤ W) (hdg : decode c.code g.pc = .ok (.invokevirtual index, 3)) :
    ∃ (v : Option Value) (T' : State) (L : List Loc), Stand p l e R s m args below meth c T' (locs ++ L) (cells + rm.cells) (slots + rm.slots) ∧ Q v T'.heap L ∧
      ∀ target, Steps p.tables e below (T'.setTop { g with pc := g.pc + 3, stack := v.toList ++ rest }) target → Steps p.tables e below (T.setTop g) target := by
  obtain ⟨cB, kB, q1, q2, q3⟩ := isOf hZ eT E
  obtain ⟨v, vm1, ⟨T', L', c', n'⟩, -, X', ⟨L, hQ, r1, r2, r3⟩, st⟩ := X.virtualBack hx hown (mvT hZ w1) (mvT hZ w2) nf (mvT hZ w3) (mvT hZ w4) hy (backOf (W := W) M hZ w6 w5 hf hl) q1 q3 hg hsize (Steps.refl _) hlen hstack hW hdg (fun _ _ => ⟨has, eT, hc, hs⟩)
  dsimp only [Pt.U, Pt.locs, Pt.cells, Pt.slots] at X' r1 r2 r3 st hQ
  subst r1 r2 r3
  exact ⟨v, T', L, X', hQ, fun _ k => st.trans k⟩
theorem pureV (X : Stand p l e R s m args below meth c T locs cells slots) (hx : p.tables.exec = Jvm.exec) (hZ : Z.Warmed39 s.vm) {own C' : String} {index : Nat} {y z : MethodName} {bytes : ByteArray} {maxL : Nat} {ret : Option FieldType} {fr lo : Nat} {as : Array Value} {b : Addr} {w : Option Value}
    (hown : s.vm.findClass own = some m.cls) (w1 : (Cond.methodLink own index y).before a0 Z = true) (w2 : (Cond.declares y).before a0 Z = true) (w3 : (Cond.selects C' y z).before a0 Z = true) (w4 : (Cond.instanceMethod z).before a0 Z = true) (w5 : (Cond.initialized z.cls).before a0 Z = true) (w6 : (Cond.code z bytes maxL ret).before a0 Z = true)
    (nf : NotFace s y) (E : Exa Z h b C') (hy : y.cls ≠ "java/lang/invoke/MethodHandle" ∧ y.cls ≠ "java/lang/invoke/VarHandle") (M : Cmet l Z z bytes maxL ret [] ({ frames := fr, cells := 0, slots := 0, locals := lo } : Room) as h (fun v h' L => v = w ∧ h' = h ∧ L = [])) (eT : T.heap = h) {W : Nat} (hf : fr + 1 ≤ R.frames) (hl : W + (maxL + 11) + lo ≤ R.locals) (hc : cells ≤ R.cells) (hs : slots ≤ R.slots)
    (hg : g.method = m) (hsize : g.locals.size = c.maxLocals) {argsL rest : List Value} (has : (Value.ref b :: argsL).toArray = as) (hlen : ∀ sig, parseMethodDescriptor y.desc = some sig → argsL.length = sig.parameters.length)
    (hstack : g.stack = argsL.reverse ++ .ref b :: rest) (hW : 2 * g.monitorRoom + (rest.map fun v => v.category).sum ≤ W) (hdg : decode c.code g.pc = .ok (.invokevirtual index, 3)) :
    ∃ (T' : State), Stand p l e R s m args below meth c T' locs cells slots ∧ T'.heap = h ∧
      ∀ target, Steps p.tables e below (T'.setTop { g with pc := g.pc + 3, stack := w.toList ++ rest }) target → Steps p.tables e below (T.setTop g) target := by
  obtain ⟨v, T', L, X', ⟨rfl, q, rfl⟩, st⟩ := callV X hx hZ hown w1 w2 w3 w4 w5 w6 nf E hy M eT (W := W) hf hl hc hs hg hsize has hlen hstack hW hdg
  rw [List.append_nil] at X'
  exact ⟨T', X', q, st⟩
/-- a constructor by its contract -/
theorem callNew (X : Stand p l e R s m args below meth c T locs cells slots) (hx : p.tables.exec = Jvm.exec) (hZ : Z.Warmed39 s.vm) {own : String} {index : Nat} {y : MethodName} {bytes : ByteArray} {maxL : Nat} {rm : Room} {as : Array Value} {b : Addr}
    (hown : s.vm.findClass own = some m.cls) (hy1 : y.name = "<init>") (w1 : (Cond.methodLink own index y).before a0 Z = true) (w2 : (Cond.instanceMethod y).before a0 Z = true) (w3 : (Cond.initialized y.cls).before a0 Z = true) (w4 : (Cond.code y bytes maxL none).before a0 Z = true)
    (hy : y.cls ≠ "java/lang/invoke/MethodHandle" ∧ y.cls ≠ "java/lang/invoke/VarHandle") (M : Cmet l Z y bytes maxL none [] rm as h Q) (eT : T.heap = h) {W : Nat} (hf : rm.frames + 1 ≤ R.frames) (hl : W + (maxL + 11) + rm.locals ≤ R.locals) (hc : cells + rm.cells ≤ R.cells) (hs : slots + rm.slots ≤ R.slots)
    (hg : g.method = m) (hsize : g.locals.size = c.maxLocals) {argsL rest : List Value} (has : (Value.ref b :: argsL).toArray = as) (hlen : ∀ sig, parseMethodDescriptor y.desc = some sig → argsL.length = sig.parameters.length)
    (hstack : g.stack = argsL.reverse ++ .ref b :: rest) (hW : 2 * g.monitorRoom + (rest.map fun v => v.category).sum ≤ W) (hdg : decode c.code g.pc = .ok (.invokespecial index, 3)) :
    ∃ (v : Option Value) (T' : State) (L : List Loc), Stand p l e R s m args below meth c T' (locs ++ L) (cells + rm.cells) (slots + rm.slots) ∧ Q v T'.heap L ∧
      ∀ target, Steps p.tables e below (T'.setTop { g with pc := g.pc + 3, stack := v.toList ++ rest }) target → Steps p.tables e below (T.setTop g) target := by
  obtain ⟨v, vm1, ⟨T', L', c', n'⟩, -, X', ⟨L, hQ, r1, r2, r3⟩, st⟩ := X.specialBack hx hy1 hown (mvT hZ w1) (mvT hZ w2) (mvT hZ w4) hy (backOf (W := W) M hZ w4 w3 hf hl) hg hsize (Steps.refl _) hlen hstack hW hdg (fun _ _ => ⟨has, eT, hc, hs⟩)
  dsimp only [Pt.U, Pt.locs, Pt.cells, Pt.slots] at X' r1 r2 r3 st hQ
  subst r1 r2 r3
  exact ⟨v, T', L, X', hQ, fun _ k => st.trans k⟩
theorem nb0 : nar .boolean (0 : Int32) = 0 := by decide
theorem nb1 : nar .boolean (1 : Int32) = 1 := by decide
end Own
section Arrays
variable {p : Program} {l : Launch} {e : Env} {R : Room} {s : State} {m : MethodId} {args : Array Value} {below : List Frame} {meth : Method} {c : Code} {T T' : State} {locs : List Loc} {cells slots : Nat} {g : JFrame} {Z : State} {a0 : Array Value} {h h' : Heap} {a b : Addr} {ty : FieldType} {n j x : Int32} {rest : List Value} {ws : List Addr} {sl : Nat} {v : Value} {target : State}
/-- an array of ints (bytes, chars, ..), of longs, of references: its length and what lies at each place -/
def AryI (Z : State) (h : Heap) (a : Addr) (ty : FieldType) (n : Int32) (u : Nat → Int32) : Prop := ∃ cl : Cell, Arr Z h a cl ty ∧ cl.slots.size = n.toNatClampNeg ∧ ¬ n < 0 ∧ ∀ i, i < n.toNatClampNeg → cl.slots[i]? = some (.int (u i))
def AryJ (Z : State) (h : Heap) (a : Addr) (n : Int32) (u : Nat → Int64) : Prop := ∃ cl : Cell, Arr Z h a cl .long ∧ cl.slots.size = n.toNatClampNeg ∧ ¬ n < 0 ∧ ∀ i, i < n.toNatClampNeg → cl.slots[i]? = some (.long (u i))
def AryR (Z : State) (h : Heap) (a : Addr) (C : String) (n : Int32) (u : Nat → Value) : Prop := ∃ cl : Cell, Arr Z h a cl (.object C) ∧ cl.slots.size = n.toNatClampNeg ∧ ¬ n < 0 ∧ Ovr Z cl.cls C ∧ ∀ i, i < n.toNatClampNeg → cl.slots[i]? = some (u i)
def upd {A : Type} (u : Nat → A) (k : Nat) (x : A) : Nat → A := fun i => if i = k then x else u i
theorem upd_eq {A : Type} {u : Nat → A} {k i : Nat} {x : A} (q : i = k) : upd u k x i = x := if_pos q
theorem upd_ne {A : Type} {u : Nat → A} {k i : Nat} {x : A} (q : i ≠ k) : upd u k x i = u i := if_neg q
theorem nat_lt {j n : Int32} (q : ¬ j < 0 ∧ j < n) : j.toNatClampNeg < n.toNatClampNeg := by
  have h1 := nat_of q.1
  have h2 : j.toInt < n.toInt := Int32.lt_iff_toInt_lt.mp q.2
  have h3 : ¬ n < 0 := fun r => by
    have r' : n.toInt < 0 := Int32.lt_iff_toInt_lt.mp r
    omega
  have h4 := nat_of h3
  omega
theorem AryI.lt {u : Nat → Int32} (F : AryI Z h a ty n u) : a < h.size := by obtain ⟨_, A, -⟩ := F; exact A.lt
theorem AryJ.lt {u : Nat → Int64} (F : AryJ Z h a n u) : a < h.size := by obtain ⟨_, A, -⟩ := F; exact A.lt
theorem AryR.lt {C : String} {u : Nat → Value} (F : AryR Z h a C n u) : a < h.size := by obtain ⟨_, A, -⟩ := F; exact A.lt
theorem AryI.ext {u : Nat → Int32} (E : Ext h h') (F : AryI Z h a ty n u) : AryI Z h' a ty n u := by obtain ⟨cl, A, r⟩ := F; exact ⟨cl, A.ext E, r⟩
theorem AryJ.ext {u : Nat → Int64} (E : Ext h h') (F : AryJ Z h a n u) : AryJ Z h' a n u := by obtain ⟨cl, A, r⟩ := F; exact ⟨cl, A.ext E, r⟩
theorem AryR.ext {C : String} {u : Nat → Value} (E : Ext h h') (F : AryR Z h a C n u) : AryR Z h' a C n u := by obtain ⟨cl, A, r⟩ := F; exact ⟨cl, A.ext E, r⟩
theorem AryI.other {u : Nat → Int32} (W : Wr h h' b sl v) (F : AryI Z h a ty n u) (q : a ≠ b) : AryI Z h' a ty n u := by obtain ⟨cl, A, r⟩ := F; exact ⟨cl, A.other W q, r⟩
theorem AryJ.other {u : Nat → Int64} (W : Wr h h' b sl v) (F : AryJ Z h a n u) (q : a ≠ b) : AryJ Z h' a n u := by obtain ⟨cl, A, r⟩ := F; exact ⟨cl, A.other W q, r⟩
theorem AryR.other {C : String} {u : Nat → Value} (W : Wr h h' b sl v) (F : AryR Z h a C n u) (q : a ≠ b) : AryR Z h' a C n u := by obtain ⟨cl, A, r⟩ := F; exact ⟨cl, A.other W q, r⟩
theorem AryI.keep {u : Nat → Int32} (F : AryI Z h a ty n u) (K : Keep h h' ws) (q : a ∉ ws) : AryI Z h' a ty n u := by obtain ⟨cl, A, r⟩ := F; exact ⟨cl, ⟨K.2.1 a cl A.1 q, A.2⟩, r⟩
theorem AryJ.keep {u : Nat → Int64} (F : AryJ Z h a n u) (K : Keep h h' ws) (q : a ∉ ws) : AryJ Z h' a n u := by obtain ⟨cl, A, r⟩ := F; exact ⟨cl, ⟨K.2.1 a cl A.1 q, A.2⟩, r⟩
theorem AryR.keep {C : String} {u : Nat → Value} (F : AryR Z h a C n u) (K : Keep h h' ws) (q : a ∉ ws) : AryR Z h' a C n u := by obtain ⟨cl, A, r⟩ := F; exact ⟨cl, ⟨K.2.1 a cl A.1 q, A.2⟩, r⟩
theorem AryI.cast {u u' : Nat → Int32} (F : AryI Z h a ty n u) (q : ∀ i, i < n.toNatClampNeg → u i = u' i) : AryI Z h a ty n u' := by obtain ⟨cl, A, r1, r2, r3⟩ := F; exact ⟨cl, A, r1, r2, fun i hi => by rw [r3 i hi, q i hi]⟩
theorem AryJ.cast {u u' : Nat → Int64} (F : AryJ Z h a n u) (q : ∀ i, i < n.toNatClampNeg → u i = u' i) : AryJ Z h a n u' := by obtain ⟨cl, A, r1, r2, r3⟩ := F; exact ⟨cl, A, r1, r2, fun i hi => by rw [r3 i hi, q i hi]⟩
theorem AryI.new {cA : ClassId} (A : Arr Z h a (newA cA ty n) ty) (q : ¬ n < 0) (d : defaultValue ty = .int 0) : AryI Z h a ty n (fun _ => 0) := ⟨_, A, sz_new _ _ _, q, fun i hi => by simp [newA, d, hi]⟩
theorem AryJ.new {cA : ClassId} (A : Arr Z h a (newA cA .long n) .long) (q : ¬ n < 0) : AryJ Z h a n (fun _ => 0) := ⟨_, A, sz_new _ _ _, q, fun i hi => by
  have d : defaultValue .long = .long 0 := rfl
  simp [newA, d, hi]⟩
theorem AryR.new {C : String} {cA : ClassId} (A : Arr Z h a (newA cA (.object C) n) (.object C)) (O : Ovr Z cA C) (q : ¬ n < 0) : AryR Z h a C n (fun _ => .null) := ⟨_, A, sz_new _ _ _, q, O, fun i hi => by
  have d : defaultValue (.object C) = .null := rfl
  simp [newA, d, hi]⟩
theorem set_at {cl : Cell} {k i : Nat} {w : Value} (hk : k < cl.slots.size) : (cl.setSlot k w).slots[i]? = if i = k then some w else cl.slots[i]? := by
  by_cases q : i = k
  · subst q; simp [Cell.setSlot, hk]
  · rw [if_neg q]; simp [Cell.setSlot, Array.getElem?_setIfInBounds_ne (Ne.symm q)]
theorem AryI.len {u : Nat → Int32} (F : AryI Z h a ty n u) (X : Stand p l e R s m args below meth c T locs cells slots) (hx : p.tables.exec = Jvm.exec) (hZ : Z.Warmed39 s.vm) (eT : T.heap = h) (hg : g.method = m) (hs : g.stack = .ref a :: rest) (hd : decode c.code g.pc = .ok (.arraylength, 1)) (hr : Steps p.tables e below (T.setTop { g with pc := g.pc + 1, stack := .int n :: rest }) target) : Steps p.tables e below (T.setTop g) target := by
  obtain ⟨cl, A, S, N, H⟩ := F
  refine X.arraylength hx (by rw [eT]; exact A.1) (State.isArrayOf_alike hZ.alike A.2.1) hg hs hd _ ?_
  rw [len_of S N]; exact hr
theorem AryJ.len {u : Nat → Int64} (F : AryJ Z h a n u) (X : Stand p l e R s m args below meth c T locs cells slots) (hx : p.tables.exec = Jvm.exec) (hZ : Z.Warmed39 s.vm) (eT : T.heap = h) (hg : g.method = m) (hs : g.stack = .ref a :: rest) (hd : decode c.code g.pc = .ok (.arraylength, 1)) (hr : Steps p.tables e below (T.setTop { g with pc := g.pc + 1, stack := .int n :: rest }) target) : Steps p.tables e below (T.setTop g) target := by
  obtain ⟨cl, A, S, N, H⟩ := F
  refine X.arraylength hx (by rw [eT]; exact A.1) (State.isArrayOf_alike hZ.alike A.2.1) hg hs hd _ ?_
  rw [len_of S N]; exact hr
theorem AryI.loadI {u : Nat → Int32} (F : AryI Z h a .int n u) (X : Stand p l e R s m args below meth c T locs cells slots) (hx : p.tables.exec = Jvm.exec) (hZ : Z.Warmed39 s.vm) (eT : T.heap = h) (q : ¬ j < 0 ∧ j < n) (hg : g.method = m) (hs : g.stack = .int j :: .ref a :: rest) (hd : decode c.code g.pc = .ok (.iaload, 1)) (hr : Steps p.tables e below (T.setTop { g with pc := g.pc + 1, stack := .int (u j.toNatClampNeg) :: rest }) target) : Steps p.tables e below (T.setTop g) target := by
  obtain ⟨cl, A, S, N, H⟩ := F
  exact X.iaload hx (by rw [eT]; exact A.1) (State.isArrayOf_alike hZ.alike A.2.1) A.2.2 (inb_of S q) (H _ (nat_lt q)) hg hs hd _ hr
theorem AryI.loadB {u : Nat → Int32} (F : AryI Z h a .byte n u) (X : Stand p l e R s m args below meth c T locs cells slots) (hx : p.tables.exec = Jvm.exec) (hZ : Z.Warmed39 s.vm) (eT : T.heap = h) (q : ¬ j < 0 ∧ j < n) (hg : g.method = m) (hs : g.stack = .int j :: .ref a :: rest) (hd : decode c.code g.pc = .ok (.baload, 1)) (hr : Steps p.tables e below (T.setTop { g with pc := g.pc + 1, stack := .int (u j.toNatClampNeg) :: rest }) target) : Steps p.tables e below (T.setTop g) target := by
  obtain ⟨cl, A, S, N, H⟩ := F
  exact X.baloadBytes hx (by rw [eT]; exact A.1) (State.isArrayOf_alike hZ.alike A.2.1) A.2.2 (inb_of S q) (H _ (nat_lt q)) hg hs hd _ hr
theorem AryI.loadZ {u : Nat → Int32} (F : AryI Z h a .boolean n u) (X : Stand p l e R s m args below meth c T locs cells slots) (hx : p.tables.exec = Jvm.exec) (hZ : Z.Warmed39 s.vm) (eT : T.heap = h) (q : ¬ j < 0 ∧ j < n) (hg : g.method = m) (hs : g.stack = .int j :: .ref a :: rest) (hd : decode c.code g.pc = .ok (.baload, 1)) (hr : Steps p.tables e below (T.setTop { g with pc := g.pc + 1, stack := .int (u j.toNatClampNeg) :: rest }) target) : Steps p.tables e below (T.setTop g) target := by
  obtain ⟨cl, A, S, N, H⟩ := F
  exact X.baloadBooleans hx (by rw [eT]; exact A.1) (State.isArrayOf_alike hZ.alike A.2.1) A.2.2 (inb_of S q) (H _ (nat_lt q)) hg hs hd _ hr
theorem AryJ.load {u : Nat → Int64} (F : AryJ Z h a n u) (X : Stand p l e R s m args below meth c T locs cells slots) (hx : p.tables.exec = Jvm.exec) (hZ : Z.Warmed39 s.vm) (eT : T.heap = h) (q : ¬ j < 0 ∧ j < n) (hg : g.method = m) (hs : g.stack = .int j :: .ref a :: rest) (hd : decode c.code g.pc = .ok (.laload, 1)) (hr : Steps p.tables e below (T.setTop { g with pc := g.pc + 1, stack := .long (u j.toNatClampNeg) :: rest }) target) : Steps p.tables e below (T.setTop g) target := by
  obtain ⟨cl, A, S, N, H⟩ := F
  exact X.laload hx (by rw [eT]; exact A.1) (State.isArrayOf_alike hZ.alike A.2.1) A.2.2 (inb_of S q) (H _ (nat_lt q)) hg hs hd _ hr
theorem AryR.load {C : String} {u : Nat → Value} (F : AryR Z h a C n u) (X : Stand p l e R s m args below meth c T locs cells slots) (hx : p.tables.exec = Jvm.exec) (hZ : Z.Warmed39 s.vm) (eT : T.heap = h) (q : ¬ j < 0 ∧ j < n) (hg : g.method = m) (hs : g.stack = .int j :: .ref a :: rest) (hd : decode c.code g.pc = .ok (.aaload, 1)) (hr : Steps p.tables e below (T.setTop { g with pc := g.pc + 1, stack := u j.toNatClampNeg :: rest }) target) : Steps p.tables e below (T.setTop g) target := by
  obtain ⟨cl, A, S, N, O, H⟩ := F
  exact X.aaload hx (by rw [eT]; exact A.1) (State.isArrayOf_alike hZ.alike A.2.1) rfl A.2.2 (inb_of S q) (H _ (nat_lt q)) hg hs hd _ hr
theorem AryI.put {u : Nat → Int32} {cl : Cell} (A : Arr Z h a cl ty) (S : cl.slots.size = n.toNatClampNeg) (N : ¬ n < 0) (H : ∀ i, i < n.toNatClampNeg → cl.slots[i]? = some (.int (u i))) (q : ¬ j < 0 ∧ j < n) (W : Wr h h' a j.toNatClampNeg (.int x)) : AryI Z h' a ty n (upd u j.toNatClampNeg x) := by
  refine ⟨_, A.same W, by rw [sz_set]; exact S, N, fun i hi => ?_⟩
  rw [set_at (by rw [S]; exact nat_lt q)]
  by_cases r : i = j.toNatClampNeg
  · rw [if_pos r, upd_eq r]
  · rw [if_neg r, upd_ne r]; exact H i hi
theorem AryI.stI {u : Nat → Int32} (F : AryI Z h a .int n u) (X : Stand p l e R s m args below meth c T locs cells slots) (hx : p.tables.exec = Jvm.exec) (hZ : Z.Warmed39 s.vm) (eT : T.heap = h) (q : ¬ j < 0 ∧ j < n) (hg : g.method = m) (hs : g.stack = .int x :: .int j :: .ref a :: rest) (hd : decode c.code g.pc = .ok (.iastore, 1)) :
    ∃ T' h', Stand p l e R s m args below meth c T' (locs ++ [⟨a, j.toNatClampNeg⟩]) cells slots ∧ T'.heap = h' ∧ Wr h h' a j.toNatClampNeg (.int x) ∧ AryI Z h' a .int n (upd u j.toNatClampNeg x) ∧ ∀ target, Steps p.tables e below (T'.setTop { g with pc := g.pc + 1, stack := rest }) target → Steps p.tables e below (T.setTop g) target := by
  obtain ⟨cl, A, S, N, H⟩ := F
  obtain ⟨T', h', X', e', W, st⟩ := Jvm.RoadKit.stI X hx hZ eT A (inb_of S q) hg hs hd
  exact ⟨T', h', X', e', W, AryI.put A S N H q W, st⟩
theorem AryI.stB {u : Nat → Int32} (F : AryI Z h a .byte n u) (X : Stand p l e R s m args below meth c T locs cells slots) (hx : p.tables.exec = Jvm.exec) (hZ : Z.Warmed39 s.vm) (eT : T.heap = h) (q : ¬ j < 0 ∧ j < n) (hg : g.method = m) (hs : g.stack = .int x :: .int j :: .ref a :: rest) (hd : decode c.code g.pc = .ok (.bastore, 1)) :
    ∃ T' h', Stand p l e R s m args below meth c T' (locs ++ [⟨a, j.toNatClampNeg⟩]) cells slots ∧ T'.heap = h' ∧ Wr h h' a j.toNatClampNeg (.int (nar .byte x)) ∧ AryI Z h' a .byte n (upd u j.toNatClampNeg (nar .byte x)) ∧ ∀ target, Steps p.tables e below (T'.setTop { g with pc := g.pc + 1, stack := rest }) target → Steps p.tables e below (T.setTop g) target := by
  obtain ⟨cl, A, S, N, H⟩ := F
  obtain ⟨T', h', X', e', W, st⟩ := Jvm.RoadKit.stB X hx hZ eT A (inb_of S q) hg hs hd
  exact ⟨T', h', X', e', W, AryI.put A S N H q W, st⟩
theorem AryJ.st {u : Nat → Int64} {y : Int64} (F : AryJ Z h a n u) (X : Stand p l e R s m args below meth c T locs cells slots) (hx : p.tables.exec = Jvm.exec) (hZ : Z.Warmed39 s.vm) (eT : T.heap = h) (q : ¬ j < 0 ∧ j < n) (hg : g.method = m) (hs : g.stack = .long y :: .int j :: .ref a :: rest) (hd : decode c.code g.pc = .ok (.lastore, 1)) :
    ∃ T' h', Stand p l e R s m args below meth c T' (locs ++ [⟨a, j.toNatClampNeg⟩]) cells slots ∧ T'.heap = h' ∧ Wr h h' a j.toNatClampNeg (.long y) ∧ AryJ Z h' a n (upd u j.toNatClampNeg y) ∧ ∀ target, Steps p.tables e below (T'.setTop { g with pc := g.pc + 1, stack := rest }) target → Steps p.tables e below (T.setTop g) target := by
  obtain ⟨cl, A, S, N, H⟩ := F
  obtain ⟨T', h', X', e', W, st⟩ := Jvm.RoadKit.stJ X hx hZ eT A (inb_of S q) hg hs hd
  refine ⟨T', h', X', e', W, ⟨_, A.same W, by rw [sz_set]; exact S, N, fun i hi => ?_⟩, st⟩
  rw [set_at (by rw [S]; exact nat_lt q)]
  by_cases r : i = j.toNatClampNeg
  · rw [if_pos r, upd_eq r]
  · rw [if_neg r, upd_ne r]; exact H i hi
theorem AryR.st {C : String} {u : Nat → Value} (F : AryR Z h a C n u) (X : Stand p l e R s m args below meth c T locs cells slots) (hx : p.tables.exec = Jvm.exec) (hZ : Z.Warmed39 s.vm) (eT : T.heap = h) (q : ¬ j < 0 ∧ j < n) (hI : v = .null ∨ ∃ y, v = .ref y ∧ Ins Z h y C true) (hg : g.method = m) (hs : g.stack = v :: .int j :: .ref a :: rest) (hd : decode c.code g.pc = .ok (.aastore, 1)) :
    ∃ T' h', Stand p l e R s m args below meth c T' (locs ++ [⟨a, j.toNatClampNeg⟩]) cells slots ∧ T'.heap = h' ∧ Wr h h' a j.toNatClampNeg v ∧ AryR Z h' a C n (upd u j.toNatClampNeg v) ∧ ∀ target, Steps p.tables e below (T'.setTop { g with pc := g.pc + 1, stack := rest }) target → Steps p.tables e below (T.setTop g) target := by
  obtain ⟨cl, A, S, N, O, H⟩ := F
  have hS : Sto Z h a v := by
    rcases hI with r | ⟨y, rfl, r⟩
    · exact Or.inl r
    · exact Sto.of A O r
  obtain ⟨T', h', X', e', W, st⟩ := Jvm.RoadKit.stR X hx hZ eT A (inb_of S q) rfl hS hg hs hd
  refine ⟨T', h', X', e', W, ⟨_, A.same W, by rw [sz_set]; exact S, N, O, fun i hi => ?_⟩, st⟩
  rw [set_at (by rw [S]; exact nat_lt q)]
  by_cases r : i = j.toNatClampNeg
  · rw [if_pos r, upd_eq r]
  · rw [if_neg r, upd_ne r]; exact H i hi
end Arrays
theorem own_cap {x : Int32} (h : ¬ x < 0 ∧ x < (128 : Int32)) : x.toNatClampNeg ≤ 127 := by
  have h1 := nat_of h.1
  have h2 : x.toInt < (128 : Int32).toInt := Int32.lt_iff_toInt_lt.mp h.2
  have t : (128 : Int32).toInt = 128 := rfl
  omega
theorem own_big {x : Int32} (h : (16 : Int32) < x) : ¬ x < (16 : Int32) := by
  rw [Int32.lt_iff_toInt_lt] at h ⊢
  omega
theorem own_127 (x : Int32) : ¬ (x &&& (127 : Int32)) < 0 ∧ (x &&& (127 : Int32)) < (128 : Int32) := by
  have m := c_mask x 127 7 (by decide) (by decide)
  have t0 : (0 : Int32).toInt = 0 := rfl
  have t1 : (128 : Int32).toInt = 128 := rfl
  rw [Int32.lt_iff_toInt_lt, Int32.lt_iff_toInt_lt]
  omega
theorem own_in {k n : Int32} (h : ¬ n < (16 : Int32) ∧ n < (128 : Int32)) (hk : ¬ k < 0 ∧ k < (16 : Int32)) : ¬ k < 0 ∧ k < n := by
  refine ⟨hk.1, ?_⟩
  have h1 := h.1
  have h2 := hk.2
  rw [Int32.lt_iff_toInt_lt] at *
  omega
theorem d1_0 : decode prog_22_method_2_code 0 = .ok (.aload_n 0, 1) := by decide +kernel
theorem d1_1 : decode prog_22_method_2_code 1 = .ok (.invokespecial 8, 3) := by decide +kernel
theorem d1_4 : decode prog_22_method_2_code 4 = .ok (.aload_n 0, 1) := by decide +kernel
theorem d1_5 : decode prog_22_method_2_code 5 = .ok (.bipush 16, 2) := by decide +kernel
theorem d1_7 : decode prog_22_method_2_code 7 = .ok (.newarray .long, 2) := by decide +kernel
theorem d1_9 : decode prog_22_method_2_code 9 = .ok (.putfield 13, 3) := by decide +kernel
theorem d1_12 : decode prog_22_method_2_code 12 = .ok (.aload_n 0, 1) := by decide +kernel
theorem d1_13 : decode prog_22_method_2_code 13 = .ok (.iload_n 1, 1) := by decide +kernel
theorem d1_14 : decode prog_22_method_2_code 14 = .ok (.putfield 17, 3) := by decide +kernel
theorem d1_17 : decode prog_22_method_2_code 17 = .ok (.return_, 1) := by decide +kernel
theorem pn_0 : plainName "com/example/mapcodex/mapcodex/osm/LongList" = true := by first | (simp [plainName, overriddenIn]; done) | decide +kernel
theorem ef1 (m : MethodId) (x0 : Addr) (x1 : Int32) : entryFrame m #[(.ref x0), (.int x1)] 2 = mkF m 0 #[.val (.ref x0), .val (.int x1)] [] := by first | (simp [entryFrame, mkF, argsToLocals, Value.category]; done) | rfl
set_option maxRecDepth 65536 in
set_option maxHeartbeats 40000000 in
theorem rm1 (l : Launch) (Z : State) (a0 : Array Value) (hw : ∀ d ∈ tables_1, d.before a0 Z = true) (ws : List Jvm.Cond) (o0 : Addr) (p1 : Int32) (n : Int32) (mx : Int32) (h0 : Heap) (n0 : Nat) (Z0 : n0 ≤ h0.size) (E_o0 : Exa Z h0 o0 "com/example/mapcodex/mapcodex/osm/LongList") (F_values : Fld Z h0 o0 "com/example/mapcodex/mapcodex/osm/LongList" "values" "[J" .null) (F_size : Fld Z h0 o0 "com/example/mapcodex/mapcodex/osm/LongList" "size" "I" (.int n)) (F_max : Fld Z h0 o0 "com/example/mapcodex/mapcodex/osm/LongList" "maxKeptRoom" "I" (.int mx)) (g0 : n0 ≤ o0) :
    Cmet l Z (⟨"com/example/mapcodex/mapcodex/osm/LongList", "<init>", "(I)V"⟩ : MethodName) prog_22_method_2_code 2 none ws ({ frames := 1, cells := 1, slots := 16, locals := 12 } : Room) #[(.ref o0), (.int p1)] h0 (fun v h' L => v = none ∧ Fr n0 L ∧ Keep h0 h' [o0] ∧ ∃ b, h0.size ≤ b ∧ n0 ≤ b ∧ Fld Z h' o0 "com/example/mapcodex/mapcodex/osm/LongList" "values" "[J" (.ref b) ∧ AryJ Z h' b (16 : Int32) (fun _ => 0) ∧ Fld Z h' o0 "com/example/mapcodex/mapcodex/osm/LongList" "size" "I" (.int n) ∧ Fld Z h' o0 "com/example/mapcodex/mapcodex/osm/LongList" "maxKeptRoom" "I" (.int p1)) := by
  refine MetFree.of_bodySF (plainFor_of_name pn_0) hisR ?_
  intro p e s m args below meth c s₁ Bd hml0 hP hK
  obtain ⟨rfl, hZ, hh⟩ := hP
  have hx := Bd.exec
  have hlk : meth.locks = false := BodyLoose.notSynchronized Bd
  have hby := Bd.bytes
  have hml : c.maxLocals = 2 := hml0
  have hown : s.vm.findClass "com/example/mapcodex/mapcodex/osm/LongList" = some m.cls := findClass_of_methodNamed Bd.named
  have hnm := (name_of_methodNamed Bd.named Bd.method).1
  have X0 : Stand p l e ({ frames := 1, cells := 1, slots := 16, locals := 12 } : Room) s m #[(.ref o0), (.int p1)] below meth c s₁ [] 0 0 := Stand.of_body Bd
  have e0 : s₁.heap = h0 := by rw [← hh, Bd.state]; rfl
  have N0 := Fr.nil n0
  show Fini p e below s (fun v h' L => v = none ∧ Fr n0 L ∧ Keep h0 h' [o0] ∧ ∃ b, h0.size ≤ b ∧ n0 ≤ b ∧ Fld Z h' o0 "com/example/mapcodex/mapcodex/osm/LongList" "values" "[J" (.ref b) ∧ AryJ Z h' b (16 : Int32) (fun _ => 0) ∧ Fld Z h' o0 "com/example/mapcodex/mapcodex/osm/LongList" "size" "I" (.int n) ∧ Fld Z h' o0 "com/example/mapcodex/mapcodex/osm/LongList" "maxKeptRoom" "I" (.int p1)) _ _ s₁ (entryFrame m #[(.ref o0), (.int p1)] 2)
  refine Fini.cast (ef1 m o0 p1) ?_
  show Fini p e below s _ _ _ s₁ (mkF m 0 #[.val (.ref o0), .val (.int p1)] [])
  refine Fini.st (fun _ k => XS.aloadN X0.here hx rfl (hb hby d1_0) rfl rfl k) ?_
  show Fini p e below s _ _ _ s₁ (mkF m 1 #[.val (.ref o0), .val (.int p1)] [(.ref o0)])
  obtain ⟨T1, X1, e1, st1⟩ := initO X0 hx hZ hown (hw _ (List.mem_of_getElem? (i := 6) rfl)) (hw _ (List.mem_of_getElem? (i := 7) rfl)) (hw _ (List.mem_of_getElem? (i := 8) rfl)) e0 (g := (mkF m 1 #[.val (.ref o0), .val (.int p1)] [(.ref o0)])) rfl (by rw [hml]; rfl) rfl (hb hby d1_1) (by decide) (W := 0) (by show 2 * 0 + _ ≤ _; exact Nat.le_of_eq rfl) (by decide)
  refine Fini.st st1 ?_
  show Fini p e below s _ _ _ T1 (mkF m 4 #[.val (.ref o0), .val (.int p1)] [])
  refine Fini.st (fun _ k => XS.aloadN X1.here hx rfl (hb hby d1_4) rfl rfl k) ?_
  show Fini p e below s _ _ _ T1 (mkF m 5 #[.val (.ref o0), .val (.int p1)] [(.ref o0)])
  refine Fini.st (fun _ k => XS.bipush X1.here hx rfl (hb hby d1_5) k) ?_
  show Fini p e below s _ _ _ T1 (mkF m 7 #[.val (.ref o0), .val (.int p1)] [(.int (16 : Int32)), (.ref o0)])
  obtain ⟨T2, h2, k2, X2, e2, E2, A2, st2⟩ := newP X1 hx hZ (hw _ (List.mem_of_getElem? (i := 9) rfl)) e1 (g := (mkF m 7 #[.val (.ref o0), .val (.int p1)] [(.int (16 : Int32)), (.ref o0)])) rfl (hb hby d1_7) rfl (by decide) (cap := 16) (by decide) (by decide) (by decide) (by decide)
  obtain ⟨b2, g2⟩ : ∃ z, z = h0.size := ⟨_, rfl⟩
  rw [← g2] at A2 st2
  have ne_o0_b2 : o0 ≠ b2 := Nat.ne_of_lt (Nat.lt_of_lt_of_le E_o0.lt (Nat.le_of_eq g2.symm))
  have ge_b2 : n0 ≤ b2 := Nat.le_trans Z0 (Nat.le_of_eq g2.symm)
  have sz_b2 : h0.size ≤ b2 := Nat.le_trans (Keep.refl h0 [o0]).1 (Nat.le_of_eq g2.symm)
  have Ar2 : AryJ Z h2 b2 (16 : Int32) (fun _ => 0) := AryJ.new A2 (by decide)
  refine Fini.st st2 ?_
  show Fini p e below s _ _ _ T2 (mkF m 9 #[.val (.ref o0), .val (.int p1)] [(.ref b2), (.ref o0)])
  have F_4 : Fld Z h2 o0 "com/example/mapcodex/mapcodex/osm/LongList" "values" "[J" .null := (F_values.ext E2)
  have Ex_5 : Exa Z h2 o0 "com/example/mapcodex/mapcodex/osm/LongList" := (E_o0.ext E2)
  obtain ⟨T3, h3, X3, e3, W3, st3⟩ := putF X2 hx hZ hown (host := "") (Or.inl (hw _ (List.mem_of_getElem? (i := 10) rfl))) Via.refl e2 F_4 Ex_5 (Or.inl (hw _ (List.mem_of_getElem? (i := 11) rfl))) (hw _ (List.mem_of_getElem? (i := 1) rfl)) (ty := (.array .long)) (by decide) rfl rfl (g := (mkF m 9 #[.val (.ref o0), .val (.int p1)] [(.ref b2), (.ref o0)])) rfl rfl (hb hby d1_9)
  have Fw3 : Fld Z h3 o0 "com/example/mapcodex/mapcodex/osm/LongList" "values" "[J" (.ref b2) := F_4.same W3
  refine Fini.st st3 ?_
  have N3 := Fr.snoc X3 N0 g0
  show Fini p e below s _ _ _ T3 (mkF m 12 #[.val (.ref o0), .val (.int p1)] [])
  refine Fini.st (fun _ k => XS.aloadN X3.here hx rfl (hb hby d1_12) rfl rfl k) ?_
  show Fini p e below s _ _ _ T3 (mkF m 13 #[.val (.ref o0), .val (.int p1)] [(.ref o0)])
  refine Fini.st (fun _ k => XS.iloadN X3.here hx rfl (hb hby d1_13) rfl k) ?_
  show Fini p e below s _ _ _ T3 (mkF m 14 #[.val (.ref o0), .val (.int p1)] [(.int p1), (.ref o0)])
  have F_7 : Fld Z h3 o0 "com/example/mapcodex/mapcodex/osm/LongList" "maxKeptRoom" "I" (.int mx) := ((F_max.ext E2).other W3 (Or.inr (slot_ne (Or.inr (hw _ (List.mem_of_getElem? (i := 13) rfl))) (Or.inl (hw _ (List.mem_of_getElem? (i := 11) rfl))) (by decide) (t := .int) (t' := (.array .long)) (by decide) (by decide))))
  have Ex_8 : Exa Z h3 o0 "com/example/mapcodex/mapcodex/osm/LongList" := (Ex_5.wr W3)
  obtain ⟨T6, h6, X6, e6, W6, st6⟩ := putF X3 hx hZ hown (host := "") (Or.inl (hw _ (List.mem_of_getElem? (i := 12) rfl))) Via.refl e3 F_7 Ex_8 (Or.inr ⟨(hw _ (List.mem_of_getElem? (i := 13) rfl)), rfl, hnm⟩) (hw _ (List.mem_of_getElem? (i := 1) rfl)) (ty := .int) (by decide) rfl rfl (g := (mkF m 14 #[.val (.ref o0), .val (.int p1)] [(.int p1), (.ref o0)])) rfl rfl (hb hby d1_14)
  have Fw6 : Fld Z h6 o0 "com/example/mapcodex/mapcodex/osm/LongList" "maxKeptRoom" "I" (.int p1) := F_7.same W6
  refine Fini.st st6 ?_
  have N6 := Fr.snoc X6 N3 g0
  show Fini p e below s _ _ _ T6 (mkF m 17 #[.val (.ref o0), .val (.int p1)] [])
  have Kp_9 : Keep h0 h6 [o0] := (Keep.wr (Keep.wr (Keep.ext (Keep.refl h0 [o0]) E2) W3 (Or.inl (List.mem_of_getElem? (i := 0) rfl))) W6 (Or.inl (List.mem_of_getElem? (i := 0) rfl)))
  have F_10 : Fld Z h6 o0 "com/example/mapcodex/mapcodex/osm/LongList" "values" "[J" (.ref b2) := (Fw3.other W6 (Or.inr (slot_ne (Or.inl (hw _ (List.mem_of_getElem? (i := 11) rfl))) (Or.inr (hw _ (List.mem_of_getElem? (i := 13) rfl))) (by decide) (t := (.array .long)) (t' := .int) (by decide) (by decide))))
  have Ar_11 : AryJ Z h6 b2 (16 : Int32) (fun _ => 0) := ((Ar2.other W3 (Ne.symm ne_o0_b2)).other W6 (Ne.symm ne_o0_b2))
  have F_12 : Fld Z h6 o0 "com/example/mapcodex/mapcodex/osm/LongList" "size" "I" (.int n) := (((F_size.ext E2).other W3 (Or.inr (slot_ne (Or.inl (hw _ (List.mem_of_getElem? (i := 20) rfl))) (Or.inl (hw _ (List.mem_of_getElem? (i := 11) rfl))) (by decide) (t := .int) (t' := (.array .long)) (by decide) (by decide)))).other W6 (Or.inr (slot_ne (Or.inl (hw _ (List.mem_of_getElem? (i := 20) rfl))) (Or.inr (hw _ (List.mem_of_getElem? (i := 13) rfl))) (by decide) (t := .int) (t' := .int) (by decide) (by decide))))
  exact Fini.ret0 X6 hx hlk Bd.returns (hb hby d1_17) (by decide) (by decide) ⟨rfl, N6, (by rw [e6]; exact Kp_9), _, sz_b2, ge_b2, (by rw [e6]; exact F_10), (by rw [e6]; exact Ar_11), (by rw [e6]; exact F_12), (by rw [e6]; exact Fw6)⟩
theorem d3_0 : decode prog_22_method_4_code 0 = .ok (.aload_n 0, 1) := by decide +kernel
theorem d3_1 : decode prog_22_method_4_code 1 = .ok (.getfield 13, 3) := by decide +kernel
theorem d3_4 : decode prog_22_method_4_code 4 = .ok (.arraylength, 1) := by decide +kernel
theorem d3_5 : decode prog_22_method_4_code 5 = .ok (.aload_n 0, 1) := by decide +kernel
theorem d3_6 : decode prog_22_method_4_code 6 = .ok (.getfield 21, 3) := by decide +kernel
theorem d3_9 : decode prog_22_method_4_code 9 = .ok (.isub, 1) := by decide +kernel
theorem d3_10 : decode prog_22_method_4_code 10 = .ok (.iload_n 1, 1) := by decide +kernel
theorem d3_11 : decode prog_22_method_4_code 11 = .ok (.if_icmp .ge 43, 3) := by decide +kernel
theorem d3_14 : decode prog_22_method_4_code 14 = .ok (.aload_n 0, 1) := by decide +kernel
theorem d3_15 : decode prog_22_method_4_code 15 = .ok (.aload_n 0, 1) := by decide +kernel
theorem d3_16 : decode prog_22_method_4_code 16 = .ok (.getfield 21, 3) := by decide +kernel
theorem d3_19 : decode prog_22_method_4_code 19 = .ok (.ifCond .ne 9, 3) := by decide +kernel
theorem d3_22 : decode prog_22_method_4_code 22 = .ok (.iload_n 1, 1) := by decide +kernel
theorem d3_23 : decode prog_22_method_4_code 23 = .ok (.newarray .long, 2) := by decide +kernel
theorem d3_25 : decode prog_22_method_4_code 25 = .ok (.goto 26, 3) := by decide +kernel
theorem d3_51 : decode prog_22_method_4_code 51 = .ok (.putfield 13, 3) := by decide +kernel
theorem d3_54 : decode prog_22_method_4_code 54 = .ok (.return_, 1) := by decide +kernel
theorem ef3 (m : MethodId) (x0 : Addr) (x1 : Int32) : entryFrame m #[(.ref x0), (.int x1)] 2 = mkF m 0 #[.val (.ref x0), .val (.int x1)] [] := by first | (simp [entryFrame, mkF, argsToLocals, Value.category]; done) | rfl
set_option maxRecDepth 65536 in
set_option maxHeartbeats 40000000 in
theorem rm3 (l : Launch) (Z : State) (a0 : Array Value) (hw : ∀ d ∈ tables_1, d.before a0 Z = true) (ws : List Jvm.Cond) (o0 : Addr) (p1 : Int32) (v : Addr) (mx : Int32) (u : Nat → Int64) (h0 : Heap) (n0 : Nat) (Z0 : n0 ≤ h0.size) (E_o0 : Exa Z h0 o0 "com/example/mapcodex/mapcodex/osm/LongList") (F_values : Fld Z h0 o0 "com/example/mapcodex/mapcodex/osm/LongList" "values" "[J" (.ref v)) (F_size : Fld Z h0 o0 "com/example/mapcodex/mapcodex/osm/LongList" "size" "I" (.int (0 : Int32))) (F_max : Fld Z h0 o0 "com/example/mapcodex/mapcodex/osm/LongList" "maxKeptRoom" "I" (.int mx)) (A_v : AryJ Z h0 v (16 : Int32) u) (g0 : n0 ≤ o0) (g1 : n0 ≤ v) (ne0 : o0 ≠ v) (hp : ¬ p1 < 0 ∧ p1 < (128 : Int32)) :
    Cmet l Z (⟨"com/example/mapcodex/mapcodex/osm/LongList", "reserve", "(I)V"⟩ : MethodName) prog_22_method_4_code 2 none ws ({ frames := 0, cells := 1, slots := 127, locals := 0 } : Room) #[(.ref o0), (.int p1)] h0 (fun v h' L => v = none ∧ Fr n0 L ∧ Keep h0 h' [o0] ∧ ∃ (b : Addr) (nn : Int32) (uu : Nat → Int64), n0 ≤ b ∧ o0 ≠ b ∧ (¬ nn < (16 : Int32) ∧ nn < (128 : Int32)) ∧ Fld Z h' o0 "com/example/mapcodex/mapcodex/osm/LongList" "values" "[J" (.ref b) ∧ AryJ Z h' b nn uu ∧ Fld Z h' o0 "com/example/mapcodex/mapcodex/osm/LongList" "size" "I" (.int (0 : Int32)) ∧ Fld Z h' o0 "com/example/mapcodex/mapcodex/osm/LongList" "maxKeptRoom" "I" (.int mx)) := by
  refine MetFree.of_bodySF (plainFor_of_name pn_0) hisR ?_
  intro p e s m args below meth c s₁ Bd hml0 hP hK
  obtain ⟨rfl, hZ, hh⟩ := hP
  have hx := Bd.exec
  have hlk : meth.locks = false := BodyLoose.notSynchronized Bd
  have hby := Bd.bytes
  have hml : c.maxLocals = 2 := hml0
  have hown : s.vm.findClass "com/example/mapcodex/mapcodex/osm/LongList" = some m.cls := findClass_of_methodNamed Bd.named
  have hnm := (name_of_methodNamed Bd.named Bd.method).1
  have X0 : Stand p l e ({ frames := 0, cells := 1, slots := 127, locals := 0 } : Room) s m #[(.ref o0), (.int p1)] below meth c s₁ [] 0 0 := Stand.of_body Bd
  have e0 : s₁.heap = h0 := by rw [← hh, Bd.state]; rfl
  have N0 := Fr.nil n0
  show Fini p e below s (fun v h' L => v = none ∧ Fr n0 L ∧ Keep h0 h' [o0] ∧ ∃ (b : Addr) (nn : Int32) (uu : Nat → Int64), n0 ≤ b ∧ o0 ≠ b ∧ (¬ nn < (16 : Int32) ∧ nn < (128 : Int32)) ∧ Fld Z h' o0 "com/example/mapcodex/mapcodex/osm/LongList" "values" "[J" (.ref b) ∧ AryJ Z h' b nn uu ∧ Fld Z h' o0 "com/example/mapcodex/mapcodex/osm/LongList" "size" "I" (.int (0 : Int32)) ∧ Fld Z h' o0 "com/example/mapcodex/mapcodex/osm/LongList" "maxKeptRoom" "I" (.int mx)) _ _ s₁ (entryFrame m #[(.ref o0), (.int p1)] 2)
  refine Fini.cast (ef3 m o0 p1) ?_
  show Fini p e below s _ _ _ s₁ (mkF m 0 #[.val (.ref o0), .val (.int p1)] [])
  refine Fini.st (fun _ k => XS.aloadN X0.here hx rfl (hb hby d3_0) rfl rfl k) ?_
  show Fini p e below s _ _ _ s₁ (mkF m 1 #[.val (.ref o0), .val (.int p1)] [(.ref o0)])
  obtain ⟨T1, X1, e1, st1⟩ := getF X0 hx hZ hown (host := "") (Or.inl (hw _ (List.mem_of_getElem? (i := 10) rfl))) Via.refl e0 F_values (g := (mkF m 1 #[.val (.ref o0), .val (.int p1)] [(.ref o0)])) rfl rfl (hb hby d3_1)
  refine Fini.st st1 ?_
  show Fini p e below s _ _ _ T1 (mkF m 4 #[.val (.ref o0), .val (.int p1)] [(.ref v)])
  refine Fini.st (fun _ k => A_v.len X1 hx hZ e1 rfl rfl (hb hby d3_4) k) ?_
  show Fini p e below s _ _ _ T1 (mkF m 5 #[.val (.ref o0), .val (.int p1)] [(.int (16 : Int32))])
  refine Fini.st (fun _ k => XS.aloadN X1.here hx rfl (hb hby d3_5) rfl rfl k) ?_
  show Fini p e below s _ _ _ T1 (mkF m 6 #[.val (.ref o0), .val (.int p1)] [(.ref o0), (.int (16 : Int32))])
  obtain ⟨T2, X2, e2, st2⟩ := getF X1 hx hZ hown (host := "") (Or.inl (hw _ (List.mem_of_getElem? (i := 19) rfl))) Via.refl e1 F_size (g := (mkF m 6 #[.val (.ref o0), .val (.int p1)] [(.ref o0), (.int (16 : Int32))])) rfl rfl (hb hby d3_6)
  refine Fini.st st2 ?_
  show Fini p e below s _ _ _ T2 (mkF m 9 #[.val (.ref o0), .val (.int p1)] [(.int (0 : Int32)), (.int (16 : Int32))])
  refine Fini.st (fun _ k => XS.isub X2.here hx rfl (hb hby d3_9) rfl k) ?_
  show Fini p e below s _ _ _ T2 (mkF m 10 #[.val (.ref o0), .val (.int p1)] [(.int (16 : Int32))])
  refine Fini.st (fun _ k => XS.iloadN X2.here hx rfl (hb hby d3_10) rfl k) ?_
  show Fini p e below s _ _ _ T2 (mkF m 11 #[.val (.ref o0), .val (.int p1)] [(.int p1), (.int (16 : Int32))])
  by_cases c3 : (16 : Int32) < p1
  · skip
    refine Fini.st (fun _ k => XS.icmpNo X2.here hx rfl (hb hby d3_11) rfl (XT.ii_ge_f c3) k) ?_
    show Fini p e below s _ _ _ T2 (mkF m 14 #[.val (.ref o0), .val (.int p1)] [])
    refine Fini.st (fun _ k => XS.aloadN X2.here hx rfl (hb hby d3_14) rfl rfl k) ?_
    show Fini p e below s _ _ _ T2 (mkF m 15 #[.val (.ref o0), .val (.int p1)] [(.ref o0)])
    refine Fini.st (fun _ k => XS.aloadN X2.here hx rfl (hb hby d3_15) rfl rfl k) ?_
    show Fini p e below s _ _ _ T2 (mkF m 16 #[.val (.ref o0), .val (.int p1)] [(.ref o0), (.ref o0)])
    obtain ⟨T4, X4, e4, st4⟩ := getF X2 hx hZ hown (host := "") (Or.inl (hw _ (List.mem_of_getElem? (i := 19) rfl))) Via.refl e2 F_size (g := (mkF m 16 #[.val (.ref o0), .val (.int p1)] [(.ref o0), (.ref o0)])) rfl rfl (hb hby d3_16)
    refine Fini.st st4 ?_
    show Fini p e below s _ _ _ T4 (mkF m 19 #[.val (.ref o0), .val (.int p1)] [(.int (0 : Int32)), (.ref o0)])
    refine Fini.st (fun _ k => XS.ifNo X4.here hx rfl (hb hby d3_19) rfl (XT.i0_ne_f (by decide : (0 : Int32) = (0 : Int32))) k) ?_
    show Fini p e below s _ _ _ T4 (mkF m 22 #[.val (.ref o0), .val (.int p1)] [(.ref o0)])
    refine Fini.st (fun _ k => XS.iloadN X4.here hx rfl (hb hby d3_22) rfl k) ?_
    show Fini p e below s _ _ _ T4 (mkF m 23 #[.val (.ref o0), .val (.int p1)] [(.int p1), (.ref o0)])
    obtain ⟨T5, h5, k5, X5, e5, E5, A5, st5⟩ := newP X4 hx hZ (hw _ (List.mem_of_getElem? (i := 9) rfl)) e4 (g := (mkF m 23 #[.val (.ref o0), .val (.int p1)] [(.int p1), (.ref o0)])) rfl (hb hby d3_23) rfl hp.1 (cap := 127) (own_cap hp) (by decide) (by decide) (by decide)
    obtain ⟨b5, g5⟩ : ∃ z, z = h0.size := ⟨_, rfl⟩
    rw [← g5] at A5 st5
    have ne_o0_b5 : o0 ≠ b5 := Nat.ne_of_lt (Nat.lt_of_lt_of_le E_o0.lt (Nat.le_of_eq g5.symm))
    have ne_v_b5 : v ≠ b5 := Nat.ne_of_lt (Nat.lt_of_lt_of_le A_v.lt (Nat.le_of_eq g5.symm))
    have ge_b5 : n0 ≤ b5 := Nat.le_trans Z0 (Nat.le_of_eq g5.symm)
    have sz_b5 : h0.size ≤ b5 := Nat.le_trans (Keep.refl h0 [o0]).1 (Nat.le_of_eq g5.symm)
    have Ar5 : AryJ Z h5 b5 p1 (fun _ => 0) := AryJ.new A5 hp.1
    refine Fini.st st5 ?_
    show Fini p e below s _ _ _ T5 (mkF m 25 #[.val (.ref o0), .val (.int p1)] [(.ref b5), (.ref o0)])
    refine Fini.st (fun _ k => XS.goto X5.here hx rfl (pc0 := 25) (pc' := 51) rfl (hb hby d3_25) (by decide) (by decide) k) ?_
    show Fini p e below s _ _ _ T5 (mkF m 51 #[.val (.ref o0), .val (.int p1)] [(.ref b5), (.ref o0)])
    have F_7 : Fld Z h5 o0 "com/example/mapcodex/mapcodex/osm/LongList" "values" "[J" (.ref v) := (F_values.ext E5)
    have Ex_8 : Exa Z h5 o0 "com/example/mapcodex/mapcodex/osm/LongList" := (E_o0.ext E5)
    obtain ⟨T6, h6, X6, e6, W6, st6⟩ := putF X5 hx hZ hown (host := "") (Or.inl (hw _ (List.mem_of_getElem? (i := 10) rfl))) Via.refl e5 F_7 Ex_8 (Or.inl (hw _ (List.mem_of_getElem? (i := 11) rfl))) (hw _ (List.mem_of_getElem? (i := 1) rfl)) (ty := (.array .long)) (by decide) rfl rfl (g := (mkF m 51 #[.val (.ref o0), .val (.int p1)] [(.ref b5), (.ref o0)])) rfl rfl (hb hby d3_51)
    have Fw6 : Fld Z h6 o0 "com/example/mapcodex/mapcodex/osm/LongList" "values" "[J" (.ref b5) := F_7.same W6
    refine Fini.st st6 ?_
    have N6 := Fr.snoc X6 N0 g0
    show Fini p e below s _ _ _ T6 (mkF m 54 #[.val (.ref o0), .val (.int p1)] [])
    have Kp_9 : Keep h0 h6 [o0] := (Keep.wr (Keep.ext (Keep.refl h0 [o0]) E5) W6 (Or.inl (List.mem_of_getElem? (i := 0) rfl)))
    have Ar_10 : AryJ Z h6 b5 p1 (fun _ => 0) := (Ar5.other W6 (Ne.symm ne_o0_b5))
    have F_11 : Fld Z h6 o0 "com/example/mapcodex/mapcodex/osm/LongList" "size" "I" (.int (0 : Int32)) := ((F_size.ext E5).other W6 (Or.inr (slot_ne (Or.inl (hw _ (List.mem_of_getElem? (i := 20) rfl))) (Or.inl (hw _ (List.mem_of_getElem? (i := 11) rfl))) (by decide) (t := .int) (t' := (.array .long)) (by decide) (by decide))))
    have F_12 : Fld Z h6 o0 "com/example/mapcodex/mapcodex/osm/LongList" "maxKeptRoom" "I" (.int mx) := ((F_max.ext E5).other W6 (Or.inr (slot_ne (Or.inr (hw _ (List.mem_of_getElem? (i := 13) rfl))) (Or.inl (hw _ (List.mem_of_getElem? (i := 11) rfl))) (by decide) (t := .int) (t' := (.array .long)) (by decide) (by decide))))
    exact Fini.ret0 X6 hx hlk Bd.returns (hb hby d3_54) (by decide) (by decide) ⟨rfl, N6, (by rw [e6]; exact Kp_9), b5, p1, (fun _ => 0), ge_b5, ne_o0_b5, ⟨own_big c3, hp.2⟩, (by rw [e6]; exact Fw6), (by rw [e6]; exact Ar_10), (by rw [e6]; exact F_11), (by rw [e6]; exact F_12)⟩
  · skip
    refine Fini.st (fun _ k => XS.icmpYes X2.here hx rfl (pc0 := 11) (pc' := 54) rfl (hb hby d3_11) rfl (XT.ii_ge_t c3) (by decide) (by decide) k) ?_
    show Fini p e below s _ _ _ T2 (mkF m 54 #[.val (.ref o0), .val (.int p1)] [])
    exact Fini.ret0 X2 hx hlk Bd.returns (hb hby d3_54) (by decide) (by decide) ⟨rfl, N0, (by rw [e2]; exact (Keep.refl h0 [o0])), v, (16 : Int32), u, g1, ne0, ⟨by decide, by decide⟩, (by rw [e2]; exact F_values), (by rw [e2]; exact A_v), (by rw [e2]; exact F_size), (by rw [e2]; exact F_max)⟩
theorem d4_0 : decode prog_22_method_3_code 0 = .ok (.aload_n 0, 1) := by decide +kernel
theorem d4_1 : decode prog_22_method_3_code 1 = .ok (.getfield 21, 3) := by decide +kernel
theorem d4_4 : decode prog_22_method_3_code 4 = .ok (.aload_n 0, 1) := by decide +kernel
theorem d4_5 : decode prog_22_method_3_code 5 = .ok (.getfield 13, 3) := by decide +kernel
theorem d4_8 : decode prog_22_method_3_code 8 = .ok (.arraylength, 1) := by decide +kernel
theorem d4_9 : decode prog_22_method_3_code 9 = .ok (.if_icmp .ne 8, 3) := by decide +kernel
theorem d4_17 : decode prog_22_method_3_code 17 = .ok (.aload_n 0, 1) := by decide +kernel
theorem d4_18 : decode prog_22_method_3_code 18 = .ok (.getfield 13, 3) := by decide +kernel
theorem d4_21 : decode prog_22_method_3_code 21 = .ok (.aload_n 0, 1) := by decide +kernel
theorem d4_22 : decode prog_22_method_3_code 22 = .ok (.dup, 1) := by decide +kernel
theorem d4_23 : decode prog_22_method_3_code 23 = .ok (.getfield 21, 3) := by decide +kernel
theorem d4_26 : decode prog_22_method_3_code 26 = .ok (.dup_x1, 1) := by decide +kernel
theorem d4_27 : decode prog_22_method_3_code 27 = .ok (.iconst 1, 1) := by decide +kernel
theorem d4_28 : decode prog_22_method_3_code 28 = .ok (.iadd, 1) := by decide +kernel
theorem d4_29 : decode prog_22_method_3_code 29 = .ok (.putfield 21, 3) := by decide +kernel
theorem d4_32 : decode prog_22_method_3_code 32 = .ok (.lload_n 1, 1) := by decide +kernel
theorem d4_33 : decode prog_22_method_3_code 33 = .ok (.lastore, 1) := by decide +kernel
theorem d4_34 : decode prog_22_method_3_code 34 = .ok (.return_, 1) := by decide +kernel
theorem ef4 (m : MethodId) (x0 : Addr) (x1 : Int64) : entryFrame m #[(.ref x0), (.long x1)] 3 = mkF m 0 #[.val (.ref x0), .val (.long x1), .second] [] := by first | (simp [entryFrame, mkF, argsToLocals, Value.category]; done) | rfl
set_option maxRecDepth 65536 in
set_option maxHeartbeats 40000000 in
theorem rm4 (l : Launch) (Z : State) (a0 : Array Value) (hw : ∀ d ∈ tables_1, d.before a0 Z = true) (ws : List Jvm.Cond) (o0 : Addr) (q1 : Int64) (v : Addr) (n : Int32) (mx : Int32) (nv : Int32) (u : Nat → Int64) (h0 : Heap) (n0 : Nat) (Z0 : n0 ≤ h0.size) (E_o0 : Exa Z h0 o0 "com/example/mapcodex/mapcodex/osm/LongList") (F_values : Fld Z h0 o0 "com/example/mapcodex/mapcodex/osm/LongList" "values" "[J" (.ref v)) (F_size : Fld Z h0 o0 "com/example/mapcodex/mapcodex/osm/LongList" "size" "I" (.int n)) (F_max : Fld Z h0 o0 "com/example/mapcodex/mapcodex/osm/LongList" "maxKeptRoom" "I" (.int mx)) (A_v : AryJ Z h0 v nv u) (g0 : n0 ≤ o0) (g1 : n0 ≤ v) (ne0 : o0 ≠ v) (hbd : ¬ n < 0 ∧ n < nv) (hne : ¬ n = nv) :
    Cmet l Z (⟨"com/example/mapcodex/mapcodex/osm/LongList", "add", "(J)V"⟩ : MethodName) prog_22_method_3_code 3 none ws ({ frames := 0, cells := 0, slots := 0, locals := 0 } : Room) #[(.ref o0), (.long q1)] h0 (fun w h' L => w = none ∧ Fr n0 L ∧ Keep h0 h' [o0, v] ∧ Fld Z h' o0 "com/example/mapcodex/mapcodex/osm/LongList" "values" "[J" (.ref v) ∧ AryJ Z h' v nv (upd u n.toNatClampNeg q1) ∧ Fld Z h' o0 "com/example/mapcodex/mapcodex/osm/LongList" "size" "I" (.int (n + (1 : Int32))) ∧ Fld Z h' o0 "com/example/mapcodex/mapcodex/osm/LongList" "maxKeptRoom" "I" (.int mx)) := by
  refine MetFree.of_bodySF (plainFor_of_name pn_0) hisR ?_
  intro p e s m args below meth c s₁ Bd hml0 hP hK
  obtain ⟨rfl, hZ, hh⟩ := hP
  have hx := Bd.exec
  have hlk : meth.locks = false := BodyLoose.notSynchronized Bd
  have hby := Bd.bytes
  have hml : c.maxLocals = 3 := hml0
  have hown : s.vm.findClass "com/example/mapcodex/mapcodex/osm/LongList" = some m.cls := findClass_of_methodNamed Bd.named
  have hnm := (name_of_methodNamed Bd.named Bd.method).1
  have X0 : Stand p l e ({ frames := 0, cells := 0, slots := 0, locals := 0 } : Room) s m #[(.ref o0), (.long q1)] below meth c s₁ [] 0 0 := Stand.of_body Bd
  have e0 : s₁.heap = h0 := by rw [← hh, Bd.state]; rfl
  have N0 := Fr.nil n0
  show Fini p e below s (fun w h' L => w = none ∧ Fr n0 L ∧ Keep h0 h' [o0, v] ∧ Fld Z h' o0 "com/example/mapcodex/mapcodex/osm/LongList" "values" "[J" (.ref v) ∧ AryJ Z h' v nv (upd u n.toNatClampNeg q1) ∧ Fld Z h' o0 "com/example/mapcodex/mapcodex/osm/LongList" "size" "I" (.int (n + (1 : Int32))) ∧ Fld Z h' o0 "com/example/mapcodex/mapcodex/osm/LongList" "maxKeptRoom" "I" (.int mx)) _ _ s₁ (entryFrame m #[(.ref o0), (.long q1)] 3)
  refine Fini.cast (ef4 m o0 q1) ?_
  show Fini p e below s _ _ _ s₁ (mkF m 0 #[.val (.ref o0), .val (.long q1), .second] [])
  refine Fini.st (fun _ k => XS.aloadN X0.here hx rfl (hb hby d4_0) rfl rfl k) ?_
  show Fini p e below s _ _ _ s₁ (mkF m 1 #[.val (.ref o0), .val (.long q1), .second] [(.ref o0)])
  obtain ⟨T1, X1, e1, st1⟩ := getF X0 hx hZ hown (host := "") (Or.inl (hw _ (List.mem_of_getElem? (i := 19) rfl))) Via.refl e0 F_size (g := (mkF m 1 #[.val (.ref o0), .val (.long q1), .second] [(.ref o0)])) rfl rfl (hb hby d4_1)
  refine Fini.st st1 ?_
  show Fini p e below s _ _ _ T1 (mkF m 4 #[.val (.ref o0), .val (.long q1), .second] [(.int n)])
  refine Fini.st (fun _ k => XS.aloadN X1.here hx rfl (hb hby d4_4) rfl rfl k) ?_
  show Fini p e below s _ _ _ T1 (mkF m 5 #[.val (.ref o0), .val (.long q1), .second] [(.ref o0), (.int n)])
  obtain ⟨T2, X2, e2, st2⟩ := getF X1 hx hZ hown (host := "") (Or.inl (hw _ (List.mem_of_getElem? (i := 10) rfl))) Via.refl e1 F_values (g := (mkF m 5 #[.val (.ref o0), .val (.long q1), .second] [(.ref o0), (.int n)])) rfl rfl (hb hby d4_5)
  refine Fini.st st2 ?_
  show Fini p e below s _ _ _ T2 (mkF m 8 #[.val (.ref o0), .val (.long q1), .second] [(.ref v), (.int n)])
  refine Fini.st (fun _ k => A_v.len X2 hx hZ e2 rfl rfl (hb hby d4_8) k) ?_
  show Fini p e below s _ _ _ T2 (mkF m 9 #[.val (.ref o0), .val (.long q1), .second] [(.int nv), (.int n)])
  refine Fini.st (fun _ k => XS.icmpYes X2.here hx rfl (pc0 := 9) (pc' := 17) rfl (hb hby d4_9) rfl (XT.ii_ne_t hne) (by decide) (by decide) k) ?_
  show Fini p e below s _ _ _ T2 (mkF m 17 #[.val (.ref o0), .val (.long q1), .second] [])
  refine Fini.st (fun _ k => XS.aloadN X2.here hx rfl (hb hby d4_17) rfl rfl k) ?_
  show Fini p e below s _ _ _ T2 (mkF m 18 #[.val (.ref o0), .val (.long q1), .second] [(.ref o0)])
  obtain ⟨T3, X3, e3, st3⟩ := getF X2 hx hZ hown (host := "") (Or.inl (hw _ (List.mem_of_getElem? (i := 10) rfl))) Via.refl e2 F_values (g := (mkF m 18 #[.val (.ref o0), .val (.long q1), .second] [(.ref o0)])) rfl rfl (hb hby d4_18)
  refine Fini.st st3 ?_
  show Fini p e below s _ _ _ T3 (mkF m 21 #[.val (.ref o0), .val (.long q1), .second] [(.ref v)])
  refine Fini.st (fun _ k => XS.aloadN X3.here hx rfl (hb hby d4_21) rfl rfl k) ?_
  show Fini p e below s _ _ _ T3 (mkF m 22 #[.val (.ref o0), .val (.long q1), .second] [(.ref o0), (.ref v)])
  refine Fini.st (fun _ k => XS.dup X3.here hx rfl (hb hby d4_22) rfl rfl k) ?_
  show Fini p e below s _ _ _ T3 (mkF m 23 #[.val (.ref o0), .val (.long q1), .second] [(.ref o0), (.ref o0), (.ref v)])
  obtain ⟨T4, X4, e4, st4⟩ := getF X3 hx hZ hown (host := "") (Or.inl (hw _ (List.mem_of_getElem? (i := 19) rfl))) Via.refl e3 F_size (g := (mkF m 23 #[.val (.ref o0), .val (.long q1), .second] [(.ref o0), (.ref o0), (.ref v)])) rfl rfl (hb hby d4_23)
  refine Fini.st st4 ?_
  show Fini p e below s _ _ _ T4 (mkF m 26 #[.val (.ref o0), .val (.long q1), .second] [(.int n), (.ref o0), (.ref v)])
  refine Fini.st (fun _ k => XS.dupX1 X4.here hx rfl (hb hby d4_26) rfl rfl rfl k) ?_
  show Fini p e below s _ _ _ T4 (mkF m 27 #[.val (.ref o0), .val (.long q1), .second] [(.int n), (.ref o0), (.int n), (.ref v)])
  refine Fini.st (fun _ k => XS.iconst X4.here hx rfl (hb hby d4_27) k) ?_
  show Fini p e below s _ _ _ T4 (mkF m 28 #[.val (.ref o0), .val (.long q1), .second] [(.int (1 : Int32)), (.int n), (.ref o0), (.int n), (.ref v)])
  refine Fini.st (fun _ k => XS.iadd X4.here hx rfl (hb hby d4_28) rfl k) ?_
  show Fini p e below s _ _ _ T4 (mkF m 29 #[.val (.ref o0), .val (.long q1), .second] [(.int (n + (1 : Int32))), (.ref o0), (.int n), (.ref v)])
  obtain ⟨T5, h5, X5, e5, W5, st5⟩ := putF X4 hx hZ hown (host := "") (Or.inl (hw _ (List.mem_of_getElem? (i := 19) rfl))) Via.refl e4 F_size E_o0 (Or.inl (hw _ (List.mem_of_getElem? (i := 20) rfl))) (hw _ (List.mem_of_getElem? (i := 1) rfl)) (ty := .int) (by decide) rfl rfl (g := (mkF m 29 #[.val (.ref o0), .val (.long q1), .second] [(.int (n + (1 : Int32))), (.ref o0), (.int n), (.ref v)])) rfl rfl (hb hby d4_29)
  have Fw5 : Fld Z h5 o0 "com/example/mapcodex/mapcodex/osm/LongList" "size" "I" (.int (n + (1 : Int32))) := F_size.same W5
  refine Fini.st st5 ?_
  have N5 := Fr.snoc X5 N0 g0
  show Fini p e below s _ _ _ T5 (mkF m 32 #[.val (.ref o0), .val (.long q1), .second] [(.int n), (.ref v)])
  refine Fini.st (fun _ k => XS.lloadN X5.here hx rfl (hb hby d4_32) rfl k) ?_
  show Fini p e below s _ _ _ T5 (mkF m 33 #[.val (.ref o0), .val (.long q1), .second] [(.long q1), (.int n), (.ref v)])
  have Ar_6 : AryJ Z h5 v nv u := (A_v.other W5 (Ne.symm ne0))
  obtain ⟨T7, h7, X7, e7, W7, Ar7, st7⟩ := Ar_6.st X5 hx hZ e5 hbd (g := (mkF m 33 #[.val (.ref o0), .val (.long q1), .second] [(.long q1), (.int n), (.ref v)])) rfl rfl (hb hby d4_33)
  refine Fini.st st7 ?_
  have N7 := Fr.snoc X7 N5 g1
  show Fini p e below s _ _ _ T7 (mkF m 34 #[.val (.ref o0), .val (.long q1), .second] [])
  have Kp_8 : Keep h0 h7 [o0, v] := (Keep.wr (Keep.wr (Keep.refl h0 [o0, v]) W5 (Or.inl (List.mem_of_getElem? (i := 0) rfl))) W7 (Or.inl (List.mem_of_getElem? (i := 1) rfl)))
  have F_9 : Fld Z h7 o0 "com/example/mapcodex/mapcodex/osm/LongList" "values" "[J" (.ref v) := ((F_values.other W5 (Or.inr (slot_ne (Or.inl (hw _ (List.mem_of_getElem? (i := 11) rfl))) (Or.inl (hw _ (List.mem_of_getElem? (i := 20) rfl))) (by decide) (t := (.array .long)) (t' := .int) (by decide) (by decide)))).other W7 (Or.inl ne0))
  have F_10 : Fld Z h7 o0 "com/example/mapcodex/mapcodex/osm/LongList" "size" "I" (.int (n + (1 : Int32))) := (Fw5.other W7 (Or.inl ne0))
  have F_11 : Fld Z h7 o0 "com/example/mapcodex/mapcodex/osm/LongList" "maxKeptRoom" "I" (.int mx) := ((F_max.other W5 (Or.inr (slot_ne (Or.inr (hw _ (List.mem_of_getElem? (i := 13) rfl))) (Or.inl (hw _ (List.mem_of_getElem? (i := 20) rfl))) (by decide) (t := .int) (t' := .int) (by decide) (by decide)))).other W7 (Or.inl ne0))
  exact Fini.ret0 X7 hx hlk Bd.returns (hb hby d4_34) (by decide) (by decide) ⟨rfl, N7, (by rw [e7]; exact Kp_8), (by rw [e7]; exact F_9), (by rw [e7]; exact Ar7), (by rw [e7]; exact F_10), (by rw [e7]; exact F_11)⟩
theorem own_ne {k n : Int32} (h : ¬ k < 0 ∧ k < n) : ¬ k = n := fun q => by
  have h2 := h.2
  rw [q, Int32.lt_iff_toInt_lt] at h2
  omega
theorem d5_0 : decode prog_22_method_8_code 0 = .ok (.aload_n 0, 1) := by decide +kernel
theorem d5_1 : decode prog_22_method_8_code 1 = .ok (.iconst 0, 1) := by decide +kernel
theorem d5_2 : decode prog_22_method_8_code 2 = .ok (.putfield 21, 3) := by decide +kernel
theorem d5_5 : decode prog_22_method_8_code 5 = .ok (.aload_n 0, 1) := by decide +kernel
theorem d5_6 : decode prog_22_method_8_code 6 = .ok (.getfield 13, 3) := by decide +kernel
theorem d5_9 : decode prog_22_method_8_code 9 = .ok (.arraylength, 1) := by decide +kernel
theorem d5_10 : decode prog_22_method_8_code 10 = .ok (.aload_n 0, 1) := by decide +kernel
theorem d5_11 : decode prog_22_method_8_code 11 = .ok (.getfield 17, 3) := by decide +kernel
theorem d5_14 : decode prog_22_method_8_code 14 = .ok (.if_icmp .le 11, 3) := by decide +kernel
theorem d5_17 : decode prog_22_method_8_code 17 = .ok (.aload_n 0, 1) := by decide +kernel
theorem d5_18 : decode prog_22_method_8_code 18 = .ok (.bipush 16, 2) := by decide +kernel
theorem d5_20 : decode prog_22_method_8_code 20 = .ok (.newarray .long, 2) := by decide +kernel
theorem d5_22 : decode prog_22_method_8_code 22 = .ok (.putfield 13, 3) := by decide +kernel
theorem d5_25 : decode prog_22_method_8_code 25 = .ok (.return_, 1) := by decide +kernel
theorem ef5 (m : MethodId) (x0 : Addr) : entryFrame m #[(.ref x0)] 1 = mkF m 0 #[.val (.ref x0)] [] := by first | (simp [entryFrame, mkF, argsToLocals, Value.category]; done) | rfl
set_option maxRecDepth 65536 in
set_option maxHeartbeats 40000000 in
theorem rm5 (l : Launch) (Z : State) (a0 : Array Value) (hw : ∀ d ∈ tables_1, d.before a0 Z = true) (ws : List Jvm.Cond) (o0 : Addr) (v : Addr) (n : Int32) (mx : Int32) (nv : Int32) (u : Nat → Int64) (h0 : Heap) (n0 : Nat) (Z0 : n0 ≤ h0.size) (E_o0 : Exa Z h0 o0 "com/example/mapcodex/mapcodex/osm/LongList") (F_values : Fld Z h0 o0 "com/example/mapcodex/mapcodex/osm/LongList" "values" "[J" (.ref v)) (F_size : Fld Z h0 o0 "com/example/mapcodex/mapcodex/osm/LongList" "size" "I" (.int n)) (F_max : Fld Z h0 o0 "com/example/mapcodex/mapcodex/osm/LongList" "maxKeptRoom" "I" (.int mx)) (A_v : AryJ Z h0 v nv u) (g0 : n0 ≤ o0) (g1 : n0 ≤ v) (ne0 : o0 ≠ v) (hbd : ¬ nv < (16 : Int32) ∧ nv < (128 : Int32)) :
    Cmet l Z (⟨"com/example/mapcodex/mapcodex/osm/LongList", "clear", "()V"⟩ : MethodName) prog_22_method_8_code 1 none ws ({ frames := 0, cells := 1, slots := 16, locals := 0 } : Room) #[(.ref o0)] h0 (fun v h' L => v = none ∧ Fr n0 L ∧ Keep h0 h' [o0] ∧ ∃ (b : Addr) (nn : Int32) (uu : Nat → Int64), n0 ≤ b ∧ o0 ≠ b ∧ (¬ nn < (16 : Int32) ∧ nn < (128 : Int32)) ∧ Fld Z h' o0 "com/example/mapcodex/mapcodex/osm/LongList" "values" "[J" (.ref b) ∧ AryJ Z h' b nn uu ∧ Fld Z h' o0 "com/example/mapcodex/mapcodex/osm/LongList" "size" "I" (.int (0 : Int32)) ∧ Fld Z h' o0 "com/example/mapcodex/mapcodex/osm/LongList" "maxKeptRoom" "I" (.int mx)) := by
  refine MetFree.of_bodySF (plainFor_of_name pn_0) hisR ?_
  intro p e s m args below meth c s₁ Bd hml0 hP hK
  obtain ⟨rfl, hZ, hh⟩ := hP
  have hx := Bd.exec
  have hlk : meth.locks = false := BodyLoose.notSynchronized Bd
  have hby := Bd.bytes
  have hml : c.maxLocals = 1 := hml0
  have hown : s.vm.findClass "com/example/mapcodex/mapcodex/osm/LongList" = some m.cls := findClass_of_methodNamed Bd.named
  have hnm := (name_of_methodNamed Bd.named Bd.method).1
  have X0 : Stand p l e ({ frames := 0, cells := 1, slots := 16, locals := 0 } : Room) s m #[(.ref o0)] below meth c s₁ [] 0 0 := Stand.of_body Bd
  have e0 : s₁.heap = h0 := by rw [← hh, Bd.state]; rfl
  have N0 := Fr.nil n0
  show Fini p e below s (fun v h' L => v = none ∧ Fr n0 L ∧ Keep h0 h' [o0] ∧ ∃ (b : Addr) (nn : Int32) (uu : Nat → Int64), n0 ≤ b ∧ o0 ≠ b ∧ (¬ nn < (16 : Int32) ∧ nn < (128 : Int32)) ∧ Fld Z h' o0 "com/example/mapcodex/mapcodex/osm/LongList" "values" "[J" (.ref b) ∧ AryJ Z h' b nn uu ∧ Fld Z h' o0 "com/example/mapcodex/mapcodex/osm/LongList" "size" "I" (.int (0 : Int32)) ∧ Fld Z h' o0 "com/example/mapcodex/mapcodex/osm/LongList" "maxKeptRoom" "I" (.int mx)) _ _ s₁ (entryFrame m #[(.ref o0)] 1)
  refine Fini.cast (ef5 m o0) ?_
  show Fini p e below s _ _ _ s₁ (mkF m 0 #[.val (.ref o0)] [])
  refine Fini.st (fun _ k => XS.aloadN X0.here hx rfl (hb hby d5_0) rfl rfl k) ?_
  show Fini p e below s _ _ _ s₁ (mkF m 1 #[.val (.ref o0)] [(.ref o0)])
  refine Fini.st (fun _ k => XS.iconst X0.here hx rfl (hb hby d5_1) k) ?_
  show Fini p e below s _ _ _ s₁ (mkF m 2 #[.val (.ref o0)] [(.int (0 : Int32)), (.ref o0)])
  obtain ⟨T1, h1, X1, e1, W1, st1⟩ := putF X0 hx hZ hown (host := "") (Or.inl (hw _ (List.mem_of_getElem? (i := 19) rfl))) Via.refl e0 F_size E_o0 (Or.inl (hw _ (List.mem_of_getElem? (i := 20) rfl))) (hw _ (List.mem_of_getElem? (i := 1) rfl)) (ty := .int) (by decide) rfl rfl (g := (mkF m 2 #[.val (.ref o0)] [(.int (0 : Int32)), (.ref o0)])) rfl rfl (hb hby d5_2)
  have Fw1 : Fld Z h1 o0 "com/example/mapcodex/mapcodex/osm/LongList" "size" "I" (.int (0 : Int32)) := F_size.same W1
  refine Fini.st st1 ?_
  have N1 := Fr.snoc X1 N0 g0
  show Fini p e below s _ _ _ T1 (mkF m 5 #[.val (.ref o0)] [])
  refine Fini.st (fun _ k => XS.aloadN X1.here hx rfl (hb hby d5_5) rfl rfl k) ?_
  show Fini p e below s _ _ _ T1 (mkF m 6 #[.val (.ref o0)] [(.ref o0)])
  have F_3 : Fld Z h1 o0 "com/example/mapcodex/mapcodex/osm/LongList" "values" "[J" (.ref v) := (F_values.other W1 (Or.inr (slot_ne (Or.inl (hw _ (List.mem_of_getElem? (i := 11) rfl))) (Or.inl (hw _ (List.mem_of_getElem? (i := 20) rfl))) (by decide) (t := (.array .long)) (t' := .int) (by decide) (by decide))))
  obtain ⟨T2, X2, e2, st2⟩ := getF X1 hx hZ hown (host := "") (Or.inl (hw _ (List.mem_of_getElem? (i := 10) rfl))) Via.refl e1 F_3 (g := (mkF m 6 #[.val (.ref o0)] [(.ref o0)])) rfl rfl (hb hby d5_6)
  refine Fini.st st2 ?_
  show Fini p e below s _ _ _ T2 (mkF m 9 #[.val (.ref o0)] [(.ref v)])
  have Ar_4 : AryJ Z h1 v nv u := (A_v.other W1 (Ne.symm ne0))
  refine Fini.st (fun _ k => Ar_4.len X2 hx hZ e2 rfl rfl (hb hby d5_9) k) ?_
  show Fini p e below s _ _ _ T2 (mkF m 10 #[.val (.ref o0)] [(.int nv)])
  refine Fini.st (fun _ k => XS.aloadN X2.here hx rfl (hb hby d5_10) rfl rfl k) ?_
  show Fini p e below s _ _ _ T2 (mkF m 11 #[.val (.ref o0)] [(.ref o0), (.int nv)])
  have F_6 : Fld Z h1 o0 "com/example/mapcodex/mapcodex/osm/LongList" "maxKeptRoom" "I" (.int mx) := (F_max.other W1 (Or.inr (slot_ne (Or.inr (hw _ (List.mem_of_getElem? (i := 13) rfl))) (Or.inl (hw _ (List.mem_of_getElem? (i := 20) rfl))) (by decide) (t := .int) (t' := .int) (by decide) (by decide))))
  obtain ⟨T5, X5, e5, st5⟩ := getF X2 hx hZ hown (host := "") (Or.inl (hw _ (List.mem_of_getElem? (i := 12) rfl))) Via.refl e2 F_6 (g := (mkF m 11 #[.val (.ref o0)] [(.ref o0), (.int nv)])) rfl rfl (hb hby d5_11)
  refine Fini.st st5 ?_
  show Fini p e below s _ _ _ T5 (mkF m 14 #[.val (.ref o0)] [(.int mx), (.int nv)])
  by_cases c7 : mx < nv
  · skip
    refine Fini.st (fun _ k => XS.icmpNo X5.here hx rfl (hb hby d5_14) rfl (XT.ii_le_f c7) k) ?_
    show Fini p e below s _ _ _ T5 (mkF m 17 #[.val (.ref o0)] [])
    refine Fini.st (fun _ k => XS.aloadN X5.here hx rfl (hb hby d5_17) rfl rfl k) ?_
    show Fini p e below s _ _ _ T5 (mkF m 18 #[.val (.ref o0)] [(.ref o0)])
    refine Fini.st (fun _ k => XS.bipush X5.here hx rfl (hb hby d5_18) k) ?_
    show Fini p e below s _ _ _ T5 (mkF m 20 #[.val (.ref o0)] [(.int (16 : Int32)), (.ref o0)])
    obtain ⟨T8, h8, k8, X8, e8, E8, A8, st8⟩ := newP X5 hx hZ (hw _ (List.mem_of_getElem? (i := 9) rfl)) e5 (g := (mkF m 20 #[.val (.ref o0)] [(.int (16 : Int32)), (.ref o0)])) rfl (hb hby d5_20) rfl (by decide) (cap := 16) (by decide) (by decide) (by decide) (by decide)
    obtain ⟨b8, g8⟩ : ∃ z, z = h1.size := ⟨_, rfl⟩
    rw [← g8] at A8 st8
    have Ex_9 : Exa Z h1 o0 "com/example/mapcodex/mapcodex/osm/LongList" := (E_o0.wr W1)
    have ne_o0_b8 : o0 ≠ b8 := Nat.ne_of_lt (Nat.lt_of_lt_of_le Ex_9.lt (Nat.le_of_eq g8.symm))
    have ne_v_b8 : v ≠ b8 := Nat.ne_of_lt (Nat.lt_of_lt_of_le Ar_4.lt (Nat.le_of_eq g8.symm))
    have Zs_10 : n0 ≤ h1.size := (Nat.le_trans Z0 (Nat.le_of_eq W1.size.symm))
    have ge_b8 : n0 ≤ b8 := Nat.le_trans Zs_10 (Nat.le_of_eq g8.symm)
    have Kp_11 : Keep h0 h1 [o0] := (Keep.wr (Keep.refl h0 [o0]) W1 (Or.inl (List.mem_of_getElem? (i := 0) rfl)))
    have sz_b8 : h0.size ≤ b8 := Nat.le_trans Kp_11.1 (Nat.le_of_eq g8.symm)
    have Ar8 : AryJ Z h8 b8 (16 : Int32) (fun _ => 0) := AryJ.new A8 (by decide)
    refine Fini.st st8 ?_
    show Fini p e below s _ _ _ T8 (mkF m 22 #[.val (.ref o0)] [(.ref b8), (.ref o0)])
    have F_13 : Fld Z h8 o0 "com/example/mapcodex/mapcodex/osm/LongList" "values" "[J" (.ref v) := (F_3.ext E8)
    have Ex_14 : Exa Z h8 o0 "com/example/mapcodex/mapcodex/osm/LongList" := (Ex_9.ext E8)
    obtain ⟨T12, h12, X12, e12, W12, st12⟩ := putF X8 hx hZ hown (host := "") (Or.inl (hw _ (List.mem_of_getElem? (i := 10) rfl))) Via.refl e8 F_13 Ex_14 (Or.inl (hw _ (List.mem_of_getElem? (i := 11) rfl))) (hw _ (List.mem_of_getElem? (i := 1) rfl)) (ty := (.array .long)) (by decide) rfl rfl (g := (mkF m 22 #[.val (.ref o0)] [(.ref b8), (.ref o0)])) rfl rfl (hb hby d5_22)
    have Fw12 : Fld Z h12 o0 "com/example/mapcodex/mapcodex/osm/LongList" "values" "[J" (.ref b8) := F_13.same W12
    refine Fini.st st12 ?_
    have N12 := Fr.snoc X12 N1 g0
    show Fini p e below s _ _ _ T12 (mkF m 25 #[.val (.ref o0)] [])
    have Kp_15 : Keep h0 h12 [o0] := (Keep.wr (Keep.ext Kp_11 E8) W12 (Or.inl (List.mem_of_getElem? (i := 0) rfl)))
    have Ar_16 : AryJ Z h12 b8 (16 : Int32) (fun _ => 0) := (Ar8.other W12 (Ne.symm ne_o0_b8))
    have F_17 : Fld Z h12 o0 "com/example/mapcodex/mapcodex/osm/LongList" "size" "I" (.int (0 : Int32)) := ((Fw1.ext E8).other W12 (Or.inr (slot_ne (Or.inl (hw _ (List.mem_of_getElem? (i := 20) rfl))) (Or.inl (hw _ (List.mem_of_getElem? (i := 11) rfl))) (by decide) (t := .int) (t' := (.array .long)) (by decide) (by decide))))
    have F_18 : Fld Z h12 o0 "com/example/mapcodex/mapcodex/osm/LongList" "maxKeptRoom" "I" (.int mx) := ((F_6.ext E8).other W12 (Or.inr (slot_ne (Or.inr (hw _ (List.mem_of_getElem? (i := 13) rfl))) (Or.inl (hw _ (List.mem_of_getElem? (i := 11) rfl))) (by decide) (t := .int) (t' := (.array .long)) (by decide) (by decide))))
    exact Fini.ret0 X12 hx hlk Bd.returns (hb hby d5_25) (by decide) (by decide) ⟨rfl, N12, (by rw [e12]; exact Kp_15), b8, (16 : Int32), (fun _ => 0), ge_b8, ne_o0_b8, ⟨by decide, by decide⟩, (by rw [e12]; exact Fw12), (by rw [e12]; exact Ar_16), (by rw [e12]; exact F_17), (by rw [e12]; exact F_18)⟩
  · skip
    refine Fini.st (fun _ k => XS.icmpYes X5.here hx rfl (pc0 := 14) (pc' := 25) rfl (hb hby d5_14) rfl (XT.ii_le_t c7) (by decide) (by decide) k) ?_
    show Fini p e below s _ _ _ T5 (mkF m 25 #[.val (.ref o0)] [])
    have Kp_19 : Keep h0 h1 [o0] := (Keep.wr (Keep.refl h0 [o0]) W1 (Or.inl (List.mem_of_getElem? (i := 0) rfl)))
    exact Fini.ret0 X5 hx hlk Bd.returns (hb hby d5_25) (by decide) (by decide) ⟨rfl, N1, (by rw [e5]; exact Kp_19), v, nv, u, g1, ne0, hbd, (by rw [e5]; exact F_3), (by rw [e5]; exact Ar_4), (by rw [e5]; exact Fw1), (by rw [e5]; exact F_6)⟩
theorem d6_0 : decode prog_22_method_6_code 0 = .ok (.aload_n 0, 1) := by decide +kernel
theorem d6_1 : decode prog_22_method_6_code 1 = .ok (.getfield 21, 3) := by decide +kernel
theorem d6_4 : decode prog_22_method_6_code 4 = .ok (.ireturn, 1) := by decide +kernel
theorem ef6 (m : MethodId) (x0 : Addr) : entryFrame m #[(.ref x0)] 1 = mkF m 0 #[.val (.ref x0)] [] := by first | (simp [entryFrame, mkF, argsToLocals, Value.category]; done) | rfl
def f6 (n : Int32) : Int32 := n
set_option maxRecDepth 65536 in
set_option maxHeartbeats 40000000 in
theorem rm6 (l : Launch) (Z : State) (a0 : Array Value) (hw : ∀ d ∈ tables_1, d.before a0 Z = true) (ws : List Jvm.Cond) (o0 : Addr) (n : Int32) (h0 : Heap) (F_size : Fld Z h0 o0 "com/example/mapcodex/mapcodex/osm/LongList" "size" "I" (.int n)) :
    Cmet l Z (⟨"com/example/mapcodex/mapcodex/osm/LongList", "size", "()I"⟩ : MethodName) prog_22_method_6_code 1 (some .int) ws ({ frames := 0, cells := 0, slots := 0, locals := 0 } : Room) #[(.ref o0)] h0 (fun v h' L => v = some (.int (f6 n)) ∧ h' = h0 ∧ L = []) := by
  refine MetFree.of_bodySF (plainFor_of_name pn_0) hisR ?_
  intro p e s m args below meth c s₁ Bd hml0 hP hK
  obtain ⟨rfl, hZ, hh⟩ := hP
  have hx := Bd.exec
  have hlk : meth.locks = false := BodyLoose.notSynchronized Bd
  have hby := Bd.bytes
  have hml : c.maxLocals = 1 := hml0
  have hown : s.vm.findClass "com/example/mapcodex/mapcodex/osm/LongList" = some m.cls := findClass_of_methodNamed Bd.named
  have hnm := (name_of_methodNamed Bd.named Bd.method).1
  have X0 : Stand p l e ({ frames := 0, cells := 0, slots := 0, locals := 0 } : Room) s m #[(.ref o0)] below meth c s₁ [] 0 0 := Stand.of_body Bd
  have e0 : s₁.heap = h0 := by rw [← hh, Bd.state]; rfl
  have hv0 : f6 n = f6 n := rfl
  show Fini p e below s (fun v h' L => v = some (.int (f6 n)) ∧ h' = h0 ∧ L = []) _ _ s₁ (entryFrame m #[(.ref o0)] 1)
  refine Fini.cast (ef6 m o0) ?_
  show Fini p e below s _ _ _ s₁ (mkF m 0 #[.val (.ref o0)] [])
  refine Fini.st (fun _ k => XS.aloadN X0.here hx rfl (hb hby d6_0) rfl rfl k) ?_
  show Fini p e below s _ _ _ s₁ (mkF m 1 #[.val (.ref o0)] [(.ref o0)])
  obtain ⟨T1, X1, e1, st1⟩ := getF X0 hx hZ hown (host := "") (Or.inl (hw _ (List.mem_of_getElem? (i := 19) rfl))) Via.refl e0 F_size (g := (mkF m 1 #[.val (.ref o0)] [(.ref o0)])) rfl rfl (hb hby d6_1)
  refine Fini.st st1 ?_
  show Fini p e below s _ _ _ T1 (mkF m 4 #[.val (.ref o0)] [(.int n)])
  exact Fini.retI X1 hx hlk Bd.returns (hb hby d6_4) (by decide) (by decide) ⟨congrArg (fun z => some (Value.int z)) hv0.symm, e1, rfl⟩
theorem d9_0 : decode jdk_41_method_11_code 0 = .ok (.iload_n 0, 1) := by decide +kernel
theorem d9_1 : decode jdk_41_method_11_code 1 = .ok (.ifCond .lt 8, 3) := by decide +kernel
theorem d9_4 : decode jdk_41_method_11_code 4 = .ok (.iload_n 0, 1) := by decide +kernel
theorem d9_5 : decode jdk_41_method_11_code 5 = .ok (.iload_n 1, 1) := by decide +kernel
theorem d9_6 : decode jdk_41_method_11_code 6 = .ok (.if_icmp .lt 10, 3) := by decide +kernel
theorem d9_16 : decode jdk_41_method_11_code 16 = .ok (.iload_n 0, 1) := by decide +kernel
theorem d9_17 : decode jdk_41_method_11_code 17 = .ok (.ireturn, 1) := by decide +kernel
theorem pn_1 : plainName "jdk/internal/util/Preconditions" = true := by first | (simp [plainName, overriddenIn]; done) | decide +kernel
theorem ef9 (m : MethodId) (x0 : Int32) (x1 : Int32) : entryFrame m #[(.int x0), (.int x1), .null] 3 = mkF m 0 #[.val (.int x0), .val (.int x1), .val .null] [] := by first | (simp [entryFrame, mkF, argsToLocals, Value.category]; done) | rfl
def f9 (p0 : Int32) (p1 : Int32) : Int32 := p0
set_option maxRecDepth 65536 in
set_option maxHeartbeats 40000000 in
theorem rm9 (l : Launch) (Z : State) (a0 : Array Value) (hw : ∀ d ∈ tables_1, d.before a0 Z = true) (ws : List Jvm.Cond) (p0 : Int32) (p1 : Int32) (h0 : Heap) (i0 : ¬ p0 < 0) (i1 : p0 < p1) :
    Cmet l Z (⟨"jdk/internal/util/Preconditions", "checkIndex", "(IILjava/util/function/BiFunction;)I"⟩ : MethodName) jdk_41_method_11_code 3 (some .int) ws ({ frames := 0, cells := 0, slots := 0, locals := 0 } : Room) #[(.int p0), (.int p1), .null] h0 (fun v h' L => v = some (.int (f9 p0 p1)) ∧ h' = h0 ∧ L = []) := by
  refine MetFree.of_bodySF (plainFor_of_name pn_1) hisR ?_
  intro p e s m args below meth c s₁ Bd hml0 hP hK
  obtain ⟨rfl, hZ, hh⟩ := hP
  have hx := Bd.exec
  have hlk : meth.locks = false := BodyLoose.notSynchronized Bd
  have hby := Bd.bytes
  have hml : c.maxLocals = 3 := hml0
  have hown : s.vm.findClass "jdk/internal/util/Preconditions" = some m.cls := findClass_of_methodNamed Bd.named
  have hnm := (name_of_methodNamed Bd.named Bd.method).1
  have X0 : Stand p l e ({ frames := 0, cells := 0, slots := 0, locals := 0 } : Room) s m #[(.int p0), (.int p1), .null] below meth c s₁ [] 0 0 := Stand.of_body Bd
  have e0 : s₁.heap = h0 := by rw [← hh, Bd.state]; rfl
  have hv0 : f9 p0 p1 = f9 p0 p1 := rfl
  show Fini p e below s (fun v h' L => v = some (.int (f9 p0 p1)) ∧ h' = h0 ∧ L = []) _ _ s₁ (entryFrame m #[(.int p0), (.int p1), .null] 3)
  refine Fini.cast (ef9 m p0 p1) ?_
  show Fini p e below s _ _ _ s₁ (mkF m 0 #[.val (.int p0), .val (.int p1), .val .null] [])
  refine Fini.st (fun _ k => XS.iloadN X0.here hx rfl (hb hby d9_0) rfl k) ?_
  show Fini p e below s _ _ _ s₁ (mkF m 1 #[.val (.int p0), .val (.int p1), .val .null] [(.int p0)])
  refine Fini.st (fun _ k => XS.ifNo X0.here hx rfl (hb hby d9_1) rfl (XT.i0_lt_f i0) k) ?_
  show Fini p e below s _ _ _ s₁ (mkF m 4 #[.val (.int p0), .val (.int p1), .val .null] [])
  refine Fini.st (fun _ k => XS.iloadN X0.here hx rfl (hb hby d9_4) rfl k) ?_
  show Fini p e below s _ _ _ s₁ (mkF m 5 #[.val (.int p0), .val (.int p1), .val .null] [(.int p0)])
  refine Fini.st (fun _ k => XS.iloadN X0.here hx rfl (hb hby d9_5) rfl k) ?_
  show Fini p e below s _ _ _ s₁ (mkF m 6 #[.val (.int p0), .val (.int p1), .val .null] [(.int p1), (.int p0)])
  refine Fini.st (fun _ k => XS.icmpYes X0.here hx rfl (pc0 := 6) (pc' := 16) rfl (hb hby d9_6) rfl (XT.ii_lt_t i1) (by decide) (by decide) k) ?_
  show Fini p e below s _ _ _ s₁ (mkF m 16 #[.val (.int p0), .val (.int p1), .val .null] [])
  refine Fini.st (fun _ k => XS.iloadN X0.here hx rfl (hb hby d9_16) rfl k) ?_
  show Fini p e below s _ _ _ s₁ (mkF m 17 #[.val (.int p0), .val (.int p1), .val .null] [(.int p0)])
  exact Fini.retI X0 hx hlk Bd.returns (hb hby d9_17) (by decide) (by decide) ⟨congrArg (fun z => some (Value.int z)) hv0.symm, e0, rfl⟩
theorem pd_0 : parseMethodDescriptor "(IILjava/util/function/BiFunction;)I" = some ⟨[.int, .int, (.object "java/util/function/BiFunction")], some .int⟩ := by decide +kernel
theorem d8_0 : decode jdk_31_method_17_code 0 = .ok (.iload_n 0, 1) := by decide +kernel
theorem d8_1 : decode jdk_31_method_17_code 1 = .ok (.iload_n 1, 1) := by decide +kernel
theorem d8_2 : decode jdk_31_method_17_code 2 = .ok (.aconst_null, 1) := by decide +kernel
theorem d8_3 : decode jdk_31_method_17_code 3 = .ok (.invokestatic 105, 3) := by decide +kernel
theorem d8_6 : decode jdk_31_method_17_code 6 = .ok (.ireturn, 1) := by decide +kernel
theorem pn_2 : plainName "java/util/Objects" = true := by first | (simp [plainName, overriddenIn]; done) | decide +kernel
theorem ef8 (m : MethodId) (x0 : Int32) (x1 : Int32) : entryFrame m #[(.int x0), (.int x1)] 2 = mkF m 0 #[.val (.int x0), .val (.int x1)] [] := by first | (simp [entryFrame, mkF, argsToLocals, Value.category]; done) | rfl
def f8 (p0 : Int32) (p1 : Int32) : Int32 := (f9 p0 p1)
set_option maxRecDepth 65536 in
set_option maxHeartbeats 40000000 in
theorem rm8 (l : Launch) (Z : State) (a0 : Array Value) (hw : ∀ d ∈ tables_1, d.before a0 Z = true) (ws : List Jvm.Cond) (p0 : Int32) (p1 : Int32) (h0 : Heap) (i0 : ¬ p0 < 0) (i1 : p0 < p1) :
    Cmet l Z (⟨"java/util/Objects", "checkIndex", "(II)I"⟩ : MethodName) jdk_31_method_17_code 2 (some .int) ws ({ frames := 1, cells := 0, slots := 0, locals := 14 } : Room) #[(.int p0), (.int p1)] h0 (fun v h' L => v = some (.int (f8 p0 p1)) ∧ h' = h0 ∧ L = []) := by
  refine MetFree.of_bodySF (plainFor_of_name pn_2) hisR ?_
  intro p e s m args below meth c s₁ Bd hml0 hP hK
  obtain ⟨rfl, hZ, hh⟩ := hP
  have hx := Bd.exec
  have hlk : meth.locks = false := BodyLoose.notSynchronized Bd
  have hby := Bd.bytes
  have hml : c.maxLocals = 2 := hml0
  have hown : s.vm.findClass "java/util/Objects" = some m.cls := findClass_of_methodNamed Bd.named
  have hnm := (name_of_methodNamed Bd.named Bd.method).1
  have X0 : Stand p l e ({ frames := 1, cells := 0, slots := 0, locals := 14 } : Room) s m #[(.int p0), (.int p1)] below meth c s₁ [] 0 0 := Stand.of_body Bd
  have e0 : s₁.heap = h0 := by rw [← hh, Bd.state]; rfl
  have hv0 : f8 p0 p1 = f8 p0 p1 := rfl
  show Fini p e below s (fun v h' L => v = some (.int (f8 p0 p1)) ∧ h' = h0 ∧ L = []) _ _ s₁ (entryFrame m #[(.int p0), (.int p1)] 2)
  refine Fini.cast (ef8 m p0 p1) ?_
  show Fini p e below s _ _ _ s₁ (mkF m 0 #[.val (.int p0), .val (.int p1)] [])
  refine Fini.st (fun _ k => XS.iloadN X0.here hx rfl (hb hby d8_0) rfl k) ?_
  show Fini p e below s _ _ _ s₁ (mkF m 1 #[.val (.int p0), .val (.int p1)] [(.int p0)])
  refine Fini.st (fun _ k => XS.iloadN X0.here hx rfl (hb hby d8_1) rfl k) ?_
  show Fini p e below s _ _ _ s₁ (mkF m 2 #[.val (.int p0), .val (.int p1)] [(.int p1), (.int p0)])
  refine Fini.st (fun _ k => XS.aconstNull X0.here hx rfl (hb hby d8_2) k) ?_
  show Fini p e below s _ _ _ s₁ (mkF m 3 #[.val (.int p0), .val (.int p1)] [.null, (.int p1), (.int p0)])
  obtain ⟨T1, X1, e1, st1⟩ := pureS X0 hx hZ hown (hw _ (List.mem_of_getElem? (i := 45) rfl)) (hw _ (List.mem_of_getElem? (i := 46) rfl)) (hw _ (List.mem_of_getElem? (i := 47) rfl)) (hw _ (List.mem_of_getElem? (i := 48) rfl)) (by decide) (rm9 l Z a0 hw [] p0 p1 h0 i0 i1) e0 (W := 0) (by decide) (by decide) (by decide) (by decide) (g := (mkF m 3 #[.val (.int p0), .val (.int p1)] [.null, (.int p1), (.int p0)])) rfl (by rw [hml]; rfl) (argsL := [(.int p0), (.int p1), .null]) (rest := []) rfl (lenOf pd_0 rfl) rfl (by show 2 * 0 + _ ≤ _; exact Nat.le_of_eq rfl) (hb hby d8_3)
  refine Fini.st st1 ?_
  show Fini p e below s _ _ _ T1 (mkF m 6 #[.val (.int p0), .val (.int p1)] [(.int (f9 p0 p1))])
  exact Fini.retI X1 hx hlk Bd.returns (hb hby d8_6) (by decide) (by decide) ⟨congrArg (fun z => some (Value.int z)) hv0.symm, e1, rfl⟩
theorem pd_1 : parseMethodDescriptor "(II)I" = some ⟨[.int, .int], some .int⟩ := by decide +kernel
theorem d7_0 : decode prog_22_method_7_code 0 = .ok (.iload_n 1, 1) := by decide +kernel
theorem d7_1 : decode prog_22_method_7_code 1 = .ok (.aload_n 0, 1) := by decide +kernel
theorem d7_2 : decode prog_22_method_7_code 2 = .ok (.getfield 21, 3) := by decide +kernel
theorem d7_5 : decode prog_22_method_7_code 5 = .ok (.invokestatic 39, 3) := by decide +kernel
theorem d7_8 : decode prog_22_method_7_code 8 = .ok (.pop, 1) := by decide +kernel
theorem d7_9 : decode prog_22_method_7_code 9 = .ok (.aload_n 0, 1) := by decide +kernel
theorem d7_10 : decode prog_22_method_7_code 10 = .ok (.getfield 13, 3) := by decide +kernel
theorem d7_13 : decode prog_22_method_7_code 13 = .ok (.iload_n 1, 1) := by decide +kernel
theorem d7_14 : decode prog_22_method_7_code 14 = .ok (.laload, 1) := by decide +kernel
theorem d7_15 : decode prog_22_method_7_code 15 = .ok (.lreturn, 1) := by decide +kernel
theorem ef7 (m : MethodId) (x0 : Addr) (x1 : Int32) : entryFrame m #[(.ref x0), (.int x1)] 2 = mkF m 0 #[.val (.ref x0), .val (.int x1)] [] := by first | (simp [entryFrame, mkF, argsToLocals, Value.category]; done) | rfl
def f7 (p1 : Int32) (n : Int32) (nv : Int32) (u : Nat → Int64) : Int64 := (u (p1).toNatClampNeg)
set_option maxRecDepth 65536 in
set_option maxHeartbeats 40000000 in
theorem rm7 (l : Launch) (Z : State) (a0 : Array Value) (hw : ∀ d ∈ tables_1, d.before a0 Z = true) (ws : List Jvm.Cond) (o0 : Addr) (p1 : Int32) (v : Addr) (n : Int32) (nv : Int32) (u : Nat → Int64) (h0 : Heap) (F_values : Fld Z h0 o0 "com/example/mapcodex/mapcodex/osm/LongList" "values" "[J" (.ref v)) (F_size : Fld Z h0 o0 "com/example/mapcodex/mapcodex/osm/LongList" "size" "I" (.int n)) (A_v : AryJ Z h0 v nv u) (hi : ¬ p1 < 0 ∧ p1 < n) (hbd : ¬ p1 < 0 ∧ p1 < nv) :
    Cmet l Z (⟨"com/example/mapcodex/mapcodex/osm/LongList", "get", "(I)J"⟩ : MethodName) prog_22_method_7_code 2 (some .long) ws ({ frames := 2, cells := 0, slots := 0, locals := 27 } : Room) #[(.ref o0), (.int p1)] h0 (fun v h' L => v = some (.long (f7 p1 n nv u)) ∧ h' = h0 ∧ L = []) := by
  refine MetFree.of_bodySF (plainFor_of_name pn_0) hisR ?_
  intro p e s m args below meth c s₁ Bd hml0 hP hK
  obtain ⟨rfl, hZ, hh⟩ := hP
  have hx := Bd.exec
  have hlk : meth.locks = false := BodyLoose.notSynchronized Bd
  have hby := Bd.bytes
  have hml : c.maxLocals = 2 := hml0
  have hown : s.vm.findClass "com/example/mapcodex/mapcodex/osm/LongList" = some m.cls := findClass_of_methodNamed Bd.named
  have hnm := (name_of_methodNamed Bd.named Bd.method).1
  have X0 : Stand p l e ({ frames := 2, cells := 0, slots := 0, locals := 27 } : Room) s m #[(.ref o0), (.int p1)] below meth c s₁ [] 0 0 := Stand.of_body Bd
  have e0 : s₁.heap = h0 := by rw [← hh, Bd.state]; rfl
  have hv0 : f7 p1 n nv u = f7 p1 n nv u := rfl
  show Fini p e below s (fun v h' L => v = some (.long (f7 p1 n nv u)) ∧ h' = h0 ∧ L = []) _ _ s₁ (entryFrame m #[(.ref o0), (.int p1)] 2)
  refine Fini.cast (ef7 m o0 p1) ?_
  show Fini p e below s _ _ _ s₁ (mkF m 0 #[.val (.ref o0), .val (.int p1)] [])
  refine Fini.st (fun _ k => XS.iloadN X0.here hx rfl (hb hby d7_0) rfl k) ?_
  show Fini p e below s _ _ _ s₁ (mkF m 1 #[.val (.ref o0), .val (.int p1)] [(.int p1)])
  refine Fini.st (fun _ k => XS.aloadN X0.here hx rfl (hb hby d7_1) rfl rfl k) ?_
  show Fini p e below s _ _ _ s₁ (mkF m 2 #[.val (.ref o0), .val (.int p1)] [(.ref o0), (.int p1)])
  obtain ⟨T1, X1, e1, st1⟩ := getF X0 hx hZ hown (host := "") (Or.inl (hw _ (List.mem_of_getElem? (i := 19) rfl))) Via.refl e0 F_size (g := (mkF m 2 #[.val (.ref o0), .val (.int p1)] [(.ref o0), (.int p1)])) rfl rfl (hb hby d7_2)
  refine Fini.st st1 ?_
  show Fini p e below s _ _ _ T1 (mkF m 5 #[.val (.ref o0), .val (.int p1)] [(.int n), (.int p1)])
  obtain ⟨T2, X2, e2, st2⟩ := pureS X1 hx hZ hown (hw _ (List.mem_of_getElem? (i := 41) rfl)) (hw _ (List.mem_of_getElem? (i := 42) rfl)) (hw _ (List.mem_of_getElem? (i := 43) rfl)) (hw _ (List.mem_of_getElem? (i := 44) rfl)) (by decide) (rm8 l Z a0 hw [] p1 n h0 hi.1 hi.2) e1 (W := 0) (by decide) (by decide) (by decide) (by decide) (g := (mkF m 5 #[.val (.ref o0), .val (.int p1)] [(.int n), (.int p1)])) rfl (by rw [hml]; rfl) (argsL := [(.int p1), (.int n)]) (rest := []) rfl (lenOf pd_1 rfl) rfl (by show 2 * 0 + _ ≤ _; exact Nat.le_of_eq rfl) (hb hby d7_5)
  refine Fini.st st2 ?_
  show Fini p e below s _ _ _ T2 (mkF m 8 #[.val (.ref o0), .val (.int p1)] [(.int (f8 p1 n))])
  refine Fini.st (fun _ k => XS.pop X2.here hx rfl (hb hby d7_8) rfl rfl k) ?_
  show Fini p e below s _ _ _ T2 (mkF m 9 #[.val (.ref o0), .val (.int p1)] [])
  refine Fini.st (fun _ k => XS.aloadN X2.here hx rfl (hb hby d7_9) rfl rfl k) ?_
  show Fini p e below s _ _ _ T2 (mkF m 10 #[.val (.ref o0), .val (.int p1)] [(.ref o0)])
  obtain ⟨T3, X3, e3, st3⟩ := getF X2 hx hZ hown (host := "") (Or.inl (hw _ (List.mem_of_getElem? (i := 10) rfl))) Via.refl e2 F_values (g := (mkF m 10 #[.val (.ref o0), .val (.int p1)] [(.ref o0)])) rfl rfl (hb hby d7_10)
  refine Fini.st st3 ?_
  show Fini p e below s _ _ _ T3 (mkF m 13 #[.val (.ref o0), .val (.int p1)] [(.ref v)])
  refine Fini.st (fun _ k => XS.iloadN X3.here hx rfl (hb hby d7_13) rfl k) ?_
  show Fini p e below s _ _ _ T3 (mkF m 14 #[.val (.ref o0), .val (.int p1)] [(.int p1), (.ref v)])
  refine Fini.st (fun _ k => A_v.load X3 hx hZ e3 hbd rfl rfl (hb hby d7_14) k) ?_
  show Fini p e below s _ _ _ T3 (mkF m 15 #[.val (.ref o0), .val (.int p1)] [(.long (u (p1).toNatClampNeg))])
  exact Fini.retJ X3 hx hlk Bd.returns (hb hby d7_15) (by decide) (by decide) ⟨congrArg (fun z => some (Value.long z)) hv0.symm, e3, rfl⟩
theorem pd_2 : parseMethodDescriptor "(I)V" = some ⟨[.int], none⟩ := by decide +kernel
theorem pd_3 : parseMethodDescriptor "(J)V" = some ⟨[.long], none⟩ := by decide +kernel
theorem pd_4 : parseMethodDescriptor "()V" = some ⟨[], none⟩ := by decide +kernel
theorem pd_5 : parseMethodDescriptor "()I" = some ⟨[], some .int⟩ := by decide +kernel
theorem pd_6 : parseMethodDescriptor "(I)J" = some ⟨[.int], some .long⟩ := by decide +kernel
theorem pn_3 : plainName "com/example/mapcodex/mapcodex/osm/LongListClearPinLaw" = true := by first | (simp [plainName, overriddenIn]; done) | decide +kernel
theorem ef0 (m : MethodId) (x0 : Int32) (x1 : Int32) (x2 : Int32) (x3 : Int64) (x4 : Int64) (x5 : Int64) : entryFrame m #[(.int x0), (.int x1), (.int x2), (.long x3), (.long x4), (.long x5)] maxLocals = mkF m 0 #[.val (.int x0), .val (.int x1), .val (.int x2), .val (.long x3), .second, .val (.long x4), .second, .val (.long x5), .second, .unset, .unset, .unset, .unset] [] := by first | (simp [entryFrame, mkF, argsToLocals, Value.category, maxLocals]; done) | rfl
set_option maxRecDepth 65536 in
set_option maxHeartbeats 40000000 in
theorem rm0 (l : Launch) (Z : State) (a0 : Array Value) (hw : ∀ d ∈ tables_1, d.before a0 Z = true) (ws : List Jvm.Cond) (p0 : Int32) (p1 : Int32) (p2 : Int32) (q3 : Int64) (q4 : Int64) (q5 : Int64) (h0 : Heap) (n0 : Nat) (Z0 : n0 ≤ h0.size) :
    Cmet l Z x code maxLocals ret ws room_1 #[(.int p0), (.int p1), (.int p2), (.long q3), (.long q4), (.long q5)] h0 (fun v h' L => v = some (.int 1) ∧ Fr n0 L) := by
  refine MetFree.of_bodySF (plainFor_of_name pn_3) hisR ?_
  intro p e s m args below meth c s₁ Bd hml0 hP hK
  obtain ⟨rfl, hZ, hh⟩ := hP
  have hx := Bd.exec
  have hlk : meth.locks = false := BodyLoose.notSynchronized Bd
  have hby := Bd.bytes
  have hml : c.maxLocals = 13 := hml0
  have hown : s.vm.findClass "com/example/mapcodex/mapcodex/osm/LongListClearPinLaw" = some m.cls := findClass_of_methodNamed Bd.named
  have hnm := (name_of_methodNamed Bd.named Bd.method).1
  have X0 : Stand p l e room_1 s m #[(.int p0), (.int p1), (.int p2), (.long q3), (.long q4), (.long q5)] below meth c s₁ [] 0 0 := Stand.of_body Bd
  have e0 : s₁.heap = h0 := by rw [← hh, Bd.state]; rfl
  have N0 := Fr.nil n0
  have B79_0 : ∀ (T_79_0 : State) (h_79_0 : Heap) (locs : List Loc) (X_79_0 : Stand p l e room_1 s m #[(.int p0), (.int p1), (.int p2), (.long q3), (.long q4), (.long q5)] below meth c T_79_0 locs 3 146) (e_79_0 : T_79_0.heap = h_79_0) (b2 : Addr) (b5 : Addr) (z15_s0 : Int32) (z905_n : Int32) (z905_u : Nat → Int64) (N_79_0 : Fr n0 locs) (H79_0_Z : n0 ≤ h_79_0.size) (H79_0_E_b2 : Exa Z h_79_0 b2 "com/example/mapcodex/mapcodex/osm/LongList") (H79_0_F_b2_values : Fld Z h_79_0 b2 "com/example/mapcodex/mapcodex/osm/LongList" "values" "[J" (.ref b5)) (H79_0_F_b2_maxKeptRoom : Fld Z h_79_0 b2 "com/example/mapcodex/mapcodex/osm/LongList" "maxKeptRoom" "I" (.int z15_s0)) (H79_0_F_b2_size : Fld Z h_79_0 b2 "com/example/mapcodex/mapcodex/osm/LongList" "size" "I" (.int (0 : Int32))) (H79_0_A_b5 : AryJ Z h_79_0 b5 z905_n z905_u) (ne79_0_b2_b5 : b2 ≠ b5) (ge79_0_b5 : n0 ≤ b5) (ge79_0_b2 : n0 ≤ b2) (cy79_0_bd : ¬ z905_n < (16 : Int32) ∧ z905_n < (128 : Int32)), Fini p e below s (fun v h' L => v = some (.int 1) ∧ Fr n0 L) (Room.cells room_1) (Room.slots room_1) T_79_0 (mkF m 79 #[.val (.int p0), .val (.int p1), .val (.int p2), .val (.long q3), .second, .val (.long q4), .second, .val (.long q5), .second, .val (.int z15_s0), .val (.ref b2), .val (.int (p2 &&& (3 : Int32))), .unset] []) := by
    intro T_79_0 h_79_0 locs X_79_0 e_79_0 b2 b5 z15_s0 z905_n z905_u N_79_0 H79_0_Z H79_0_E_b2 H79_0_F_b2_values H79_0_F_b2_maxKeptRoom H79_0_F_b2_size H79_0_A_b5 ne79_0_b2_b5 ge79_0_b5 ge79_0_b2 cy79_0_bd
    refine Fini.st (fun _ k => XS.aload X_79_0.here hx rfl (hb hby at_79) rfl rfl k) ?_
    show Fini p e below s _ _ _ T_79_0 (mkF m 81 #[.val (.int p0), .val (.int p1), .val (.int p2), .val (.long q3), .second, .val (.long q4), .second, .val (.long q5), .second, .val (.int z15_s0), .val (.ref b2), .val (.int (p2 &&& (3 : Int32))), .unset] [(.ref b2)])
    obtain ⟨v22, T22, L22, X22, hQ22, st22⟩ := callV X_79_0 hx hZ hown (hw _ (List.mem_of_getElem? (i := 26) rfl)) (hw _ (List.mem_of_getElem? (i := 27) rfl)) (hw _ (List.mem_of_getElem? (i := 29) rfl)) (hw _ (List.mem_of_getElem? (i := 28) rfl)) (hw _ (List.mem_of_getElem? (i := 2) rfl)) (hw _ (List.mem_of_getElem? (i := 30) rfl)) (notFace_of_selects (args := #[]) (mvT hZ (hw _ (List.mem_of_getElem? (i := 29) rfl)))) H79_0_E_b2 (by decide) (rm5 l Z a0 hw [] b2 b5 (0 : Int32) z15_s0 z905_n z905_u h_79_0 n0 H79_0_Z H79_0_E_b2 H79_0_F_b2_values H79_0_F_b2_size H79_0_F_b2_maxKeptRoom H79_0_A_b5 ge79_0_b2 ge79_0_b5 ne79_0_b2_b5 cy79_0_bd) e_79_0 (W := 0) (by decide) (by decide) (by decide) (by decide) (g := (mkF m 81 #[.val (.int p0), .val (.int p1), .val (.int p2), .val (.long q3), .second, .val (.long q4), .second, .val (.long q5), .second, .val (.int z15_s0), .val (.ref b2), .val (.int (p2 &&& (3 : Int32))), .unset] [(.ref b2)])) rfl (by rw [hml]; rfl) (argsL := []) (rest := []) rfl (lenOf pd_4 rfl) rfl (by show 2 * 0 + _ ≤ _; exact Nat.le_of_eq rfl) (hb hby at_81)
    obtain ⟨rfl, Nq22, K22, b22, z9022_n, z9022_u, ge_b22, ne22, bd22, Fv22, Ar22, Fs22, Fm22⟩ := hQ22
    have N22 := Fr.app N_79_0 Nq22
    refine Fini.st st22 ?_
    show Fini p e below s _ _ _ T22 (mkF m 84 #[.val (.int p0), .val (.int p1), .val (.int p2), .val (.long q3), .second, .val (.long q4), .second, .val (.long q5), .second, .val (.int z15_s0), .val (.ref b2), .val (.int (p2 &&& (3 : Int32))), .unset] [])
    refine Fini.st (fun _ k => XS.aload X22.here hx rfl (hb hby at_84) rfl rfl k) ?_
    show Fini p e below s _ _ _ T22 (mkF m 86 #[.val (.int p0), .val (.int p1), .val (.int p2), .val (.long q3), .second, .val (.long q4), .second, .val (.long q5), .second, .val (.int z15_s0), .val (.ref b2), .val (.int (p2 &&& (3 : Int32))), .unset] [(.ref b2)])
    have Ex_24 : Exa Z T22.heap b2 "com/example/mapcodex/mapcodex/osm/LongList" := (H79_0_E_b2.keep K22)
    obtain ⟨T23, X23, e23, st23⟩ := pureV X22 hx hZ hown (hw _ (List.mem_of_getElem? (i := 31) rfl)) (hw _ (List.mem_of_getElem? (i := 32) rfl)) (hw _ (List.mem_of_getElem? (i := 34) rfl)) (hw _ (List.mem_of_getElem? (i := 33) rfl)) (hw _ (List.mem_of_getElem? (i := 2) rfl)) (hw _ (List.mem_of_getElem? (i := 35) rfl)) (notFace_of_selects (args := #[]) (mvT hZ (hw _ (List.mem_of_getElem? (i := 34) rfl)))) Ex_24 (by decide) (rm6 l Z a0 hw [] b2 (0 : Int32) T22.heap Fs22) rfl (W := 0) (by decide) (by decide) (by decide) (by decide) (g := (mkF m 86 #[.val (.int p0), .val (.int p1), .val (.int p2), .val (.long q3), .second, .val (.long q4), .second, .val (.long q5), .second, .val (.int z15_s0), .val (.ref b2), .val (.int (p2 &&& (3 : Int32))), .unset] [(.ref b2)])) rfl (by rw [hml]; rfl) (argsL := []) (rest := []) rfl (lenOf pd_5 rfl) rfl (by show 2 * 0 + _ ≤ _; exact Nat.le_of_eq rfl) (hb hby at_86)
    refine Fini.st st23 ?_
    show Fini p e below s _ _ _ T23 (mkF m 89 #[.val (.int p0), .val (.int p1), .val (.int p2), .val (.long q3), .second, .val (.long q4), .second, .val (.long q5), .second, .val (.int z15_s0), .val (.ref b2), .val (.int (p2 &&& (3 : Int32))), .unset] [(.int (0 : Int32))])
    refine Fini.st (fun _ k => XS.ifNo X23.here hx rfl (hb hby at_89) rfl (XT.i0_ne_f (by decide : (0 : Int32) = (0 : Int32))) k) ?_
    show Fini p e below s _ _ _ T23 (mkF m 92 #[.val (.int p0), .val (.int p1), .val (.int p2), .val (.long q3), .second, .val (.long q4), .second, .val (.long q5), .second, .val (.int z15_s0), .val (.ref b2), .val (.int (p2 &&& (3 : Int32))), .unset] [])
    refine Fini.st (fun _ k => XS.iconst X23.here hx rfl (hb hby at_92) k) ?_
    show Fini p e below s _ _ _ T23 (mkF m 93 #[.val (.int p0), .val (.int p1), .val (.int p2), .val (.long q3), .second, .val (.long q4), .second, .val (.long q5), .second, .val (.int z15_s0), .val (.ref b2), .val (.int (p2 &&& (3 : Int32))), .unset] [(.int (1 : Int32))])
    refine Fini.st (fun _ k => XS.goto X23.here hx rfl (pc0 := 93) (pc' := 97) rfl (hb hby at_93) (by decide) (by decide) k) ?_
    show Fini p e below s _ _ _ T23 (mkF m 97 #[.val (.int p0), .val (.int p1), .val (.int p2), .val (.long q3), .second, .val (.long q4), .second, .val (.long q5), .second, .val (.int z15_s0), .val (.ref b2), .val (.int (p2 &&& (3 : Int32))), .unset] [(.int (1 : Int32))])
    refine Fini.st (fun _ k => XS.istore X23.here hx rfl (hb hby at_97) rfl (l' := #[.val (.int p0), .val (.int p1), .val (.int p2), .val (.long q3), .second, .val (.long q4), .second, .val (.long q5), .second, .val (.int z15_s0), .val (.ref b2), .val (.int (p2 &&& (3 : Int32))), .val (.int (1 : Int32))]) rfl k) ?_
    show Fini p e below s _ _ _ T23 (mkF m 99 #[.val (.int p0), .val (.int p1), .val (.int p2), .val (.long q3), .second, .val (.long q4), .second, .val (.long q5), .second, .val (.int z15_s0), .val (.ref b2), .val (.int (p2 &&& (3 : Int32))), .val (.int (1 : Int32))] [])
    refine Fini.st (fun _ k => XS.aload X23.here hx rfl (hb hby at_99) rfl rfl k) ?_
    show Fini p e below s _ _ _ T23 (mkF m 101 #[.val (.int p0), .val (.int p1), .val (.int p2), .val (.long q3), .second, .val (.long q4), .second, .val (.long q5), .second, .val (.int z15_s0), .val (.ref b2), .val (.int (p2 &&& (3 : Int32))), .val (.int (1 : Int32))] [(.ref b2)])
    refine Fini.st (fun _ k => XS.lload X23.here hx rfl (hb hby at_101) rfl k) ?_
    show Fini p e below s _ _ _ T23 (mkF m 103 #[.val (.int p0), .val (.int p1), .val (.int p2), .val (.long q3), .second, .val (.long q4), .second, .val (.long q5), .second, .val (.int z15_s0), .val (.ref b2), .val (.int (p2 &&& (3 : Int32))), .val (.int (1 : Int32))] [(.long q5), (.ref b2)])
    have Zs_26 : n0 ≤ T22.heap.size := (Nat.le_trans H79_0_Z K22.1)
    obtain ⟨v25, T25, L25, X25, hQ25, st25⟩ := callV X23 hx hZ hown (hw _ (List.mem_of_getElem? (i := 21) rfl)) (hw _ (List.mem_of_getElem? (i := 22) rfl)) (hw _ (List.mem_of_getElem? (i := 24) rfl)) (hw _ (List.mem_of_getElem? (i := 23) rfl)) (hw _ (List.mem_of_getElem? (i := 2) rfl)) (hw _ (List.mem_of_getElem? (i := 25) rfl)) (notFace_of_selects (args := #[]) (mvT hZ (hw _ (List.mem_of_getElem? (i := 24) rfl)))) Ex_24 (by decide) (rm4 l Z a0 hw [] b2 q5 b22 (0 : Int32) z15_s0 z9022_n z9022_u T22.heap n0 Zs_26 Ex_24 Fv22 Fs22 Fm22 Ar22 ge79_0_b2 ge_b22 ne22 (own_in bd22 ⟨by decide, by decide⟩) (own_ne (own_in bd22 ⟨by decide, by decide⟩))) e23 (W := 0) (by decide) (by decide) (by decide) (by decide) (g := (mkF m 103 #[.val (.int p0), .val (.int p1), .val (.int p2), .val (.long q3), .second, .val (.long q4), .second, .val (.long q5), .second, .val (.int z15_s0), .val (.ref b2), .val (.int (p2 &&& (3 : Int32))), .val (.int (1 : Int32))] [(.long q5), (.ref b2)])) rfl (by rw [hml]; rfl) (argsL := [(.long q5)]) (rest := []) rfl (lenOf pd_3 rfl) rfl (by show 2 * 0 + _ ≤ _; exact Nat.le_of_eq rfl) (hb hby at_103)
    obtain ⟨rfl, Nq25, K25, Fv25, Ar25, Fs25, Fm25⟩ := hQ25
    have N25 := Fr.app N22 Nq25
    refine Fini.st st25 ?_
    show Fini p e below s _ _ _ T25 (mkF m 106 #[.val (.int p0), .val (.int p1), .val (.int p2), .val (.long q3), .second, .val (.long q4), .second, .val (.long q5), .second, .val (.int z15_s0), .val (.ref b2), .val (.int (p2 &&& (3 : Int32))), .val (.int (1 : Int32))] [])
    refine Fini.st (fun _ k => XS.iload X25.here hx rfl (hb hby at_106) rfl k) ?_
    show Fini p e below s _ _ _ T25 (mkF m 108 #[.val (.int p0), .val (.int p1), .val (.int p2), .val (.long q3), .second, .val (.long q4), .second, .val (.long q5), .second, .val (.int z15_s0), .val (.ref b2), .val (.int (p2 &&& (3 : Int32))), .val (.int (1 : Int32))] [(.int (1 : Int32))])
    refine Fini.st (fun _ k => XS.ifNo X25.here hx rfl (hb hby at_108) rfl (XT.i0_eq_f (by decide : ¬ (1 : Int32) = (0 : Int32))) k) ?_
    show Fini p e below s _ _ _ T25 (mkF m 111 #[.val (.int p0), .val (.int p1), .val (.int p2), .val (.long q3), .second, .val (.long q4), .second, .val (.long q5), .second, .val (.int z15_s0), .val (.ref b2), .val (.int (p2 &&& (3 : Int32))), .val (.int (1 : Int32))] [])
    refine Fini.st (fun _ k => XS.aload X25.here hx rfl (hb hby at_111) rfl rfl k) ?_
    show Fini p e below s _ _ _ T25 (mkF m 113 #[.val (.int p0), .val (.int p1), .val (.int p2), .val (.long q3), .second, .val (.long q4), .second, .val (.long q5), .second, .val (.int z15_s0), .val (.ref b2), .val (.int (p2 &&& (3 : Int32))), .val (.int (1 : Int32))] [(.ref b2)])
    have Ex_28 : Exa Z T25.heap b2 "com/example/mapcodex/mapcodex/osm/LongList" := (Ex_24.keep K25)
    obtain ⟨T27, X27, e27, st27⟩ := pureV X25 hx hZ hown (hw _ (List.mem_of_getElem? (i := 31) rfl)) (hw _ (List.mem_of_getElem? (i := 32) rfl)) (hw _ (List.mem_of_getElem? (i := 34) rfl)) (hw _ (List.mem_of_getElem? (i := 33) rfl)) (hw _ (List.mem_of_getElem? (i := 2) rfl)) (hw _ (List.mem_of_getElem? (i := 35) rfl)) (notFace_of_selects (args := #[]) (mvT hZ (hw _ (List.mem_of_getElem? (i := 34) rfl)))) Ex_28 (by decide) (rm6 l Z a0 hw [] b2 (1 : Int32) T25.heap Fs25) rfl (W := 0) (by decide) (by decide) (by decide) (by decide) (g := (mkF m 113 #[.val (.int p0), .val (.int p1), .val (.int p2), .val (.long q3), .second, .val (.long q4), .second, .val (.long q5), .second, .val (.int z15_s0), .val (.ref b2), .val (.int (p2 &&& (3 : Int32))), .val (.int (1 : Int32))] [(.ref b2)])) rfl (by rw [hml]; rfl) (argsL := []) (rest := []) rfl (lenOf pd_5 rfl) rfl (by show 2 * 0 + _ ≤ _; exact Nat.le_of_eq rfl) (hb hby at_113)
    refine Fini.st st27 ?_
    show Fini p e below s _ _ _ T27 (mkF m 116 #[.val (.int p0), .val (.int p1), .val (.int p2), .val (.long q3), .second, .val (.long q4), .second, .val (.long q5), .second, .val (.int z15_s0), .val (.ref b2), .val (.int (p2 &&& (3 : Int32))), .val (.int (1 : Int32))] [(.int (1 : Int32))])
    refine Fini.st (fun _ k => XS.iconst X27.here hx rfl (hb hby at_116) k) ?_
    show Fini p e below s _ _ _ T27 (mkF m 117 #[.val (.int p0), .val (.int p1), .val (.int p2), .val (.long q3), .second, .val (.long q4), .second, .val (.long q5), .second, .val (.int z15_s0), .val (.ref b2), .val (.int (p2 &&& (3 : Int32))), .val (.int (1 : Int32))] [(.int (1 : Int32)), (.int (1 : Int32))])
    refine Fini.st (fun _ k => XS.icmpNo X27.here hx rfl (hb hby at_117) rfl (XT.ii_ne_f (by decide : (1 : Int32) = (1 : Int32))) k) ?_
    show Fini p e below s _ _ _ T27 (mkF m 120 #[.val (.int p0), .val (.int p1), .val (.int p2), .val (.long q3), .second, .val (.long q4), .second, .val (.long q5), .second, .val (.int z15_s0), .val (.ref b2), .val (.int (p2 &&& (3 : Int32))), .val (.int (1 : Int32))] [])
    refine Fini.st (fun _ k => XS.aload X27.here hx rfl (hb hby at_120) rfl rfl k) ?_
    show Fini p e below s _ _ _ T27 (mkF m 122 #[.val (.int p0), .val (.int p1), .val (.int p2), .val (.long q3), .second, .val (.long q4), .second, .val (.long q5), .second, .val (.int z15_s0), .val (.ref b2), .val (.int (p2 &&& (3 : Int32))), .val (.int (1 : Int32))] [(.ref b2)])
    refine Fini.st (fun _ k => XS.iconst X27.here hx rfl (hb hby at_122) k) ?_
    show Fini p e below s _ _ _ T27 (mkF m 123 #[.val (.int p0), .val (.int p1), .val (.int p2), .val (.long q3), .second, .val (.long q4), .second, .val (.long q5), .second, .val (.int z15_s0), .val (.ref b2), .val (.int (p2 &&& (3 : Int32))), .val (.int (1 : Int32))] [(.int (0 : Int32)), (.ref b2)])
    obtain ⟨T29, X29, e29, st29⟩ := pureV X27 hx hZ hown (hw _ (List.mem_of_getElem? (i := 36) rfl)) (hw _ (List.mem_of_getElem? (i := 37) rfl)) (hw _ (List.mem_of_getElem? (i := 39) rfl)) (hw _ (List.mem_of_getElem? (i := 38) rfl)) (hw _ (List.mem_of_getElem? (i := 2) rfl)) (hw _ (List.mem_of_getElem? (i := 40) rfl)) (notFace_of_selects (args := #[]) (mvT hZ (hw _ (List.mem_of_getElem? (i := 39) rfl)))) Ex_28 (by decide) (rm7 l Z a0 hw [] b2 (0 : Int32) b22 (1 : Int32) z9022_n (upd z9022_u 0 q5) T25.heap Fv25 Fs25 Ar25 (⟨by decide, by decide⟩) (own_in bd22 ⟨by decide, by decide⟩)) e27 (W := 0) (by decide) (by decide) (by decide) (by decide) (g := (mkF m 123 #[.val (.int p0), .val (.int p1), .val (.int p2), .val (.long q3), .second, .val (.long q4), .second, .val (.long q5), .second, .val (.int z15_s0), .val (.ref b2), .val (.int (p2 &&& (3 : Int32))), .val (.int (1 : Int32))] [(.int (0 : Int32)), (.ref b2)])) rfl (by rw [hml]; rfl) (argsL := [(.int (0 : Int32))]) (rest := []) rfl (lenOf pd_6 rfl) rfl (by show 2 * 0 + _ ≤ _; exact Nat.le_of_eq rfl) (hb hby at_123)
    refine Fini.st st29 ?_
    show Fini p e below s _ _ _ T29 (mkF m 126 #[.val (.int p0), .val (.int p1), .val (.int p2), .val (.long q3), .second, .val (.long q4), .second, .val (.long q5), .second, .val (.int z15_s0), .val (.ref b2), .val (.int (p2 &&& (3 : Int32))), .val (.int (1 : Int32))] [(.long q5)])
    refine Fini.st (fun _ k => XS.lload X29.here hx rfl (hb hby at_126) rfl k) ?_
    show Fini p e below s _ _ _ T29 (mkF m 128 #[.val (.int p0), .val (.int p1), .val (.int p2), .val (.long q3), .second, .val (.long q4), .second, .val (.long q5), .second, .val (.int z15_s0), .val (.ref b2), .val (.int (p2 &&& (3 : Int32))), .val (.int (1 : Int32))] [(.long q5), (.long q5)])
    refine Fini.st (fun _ k => XT.lcmp X29.here hx rfl (hb hby at_128) rfl k) ?_
    show Fini p e below s _ _ _ T29 (mkF m 129 #[.val (.int p0), .val (.int p1), .val (.int p2), .val (.long q3), .second, .val (.long q4), .second, .val (.long q5), .second, .val (.int z15_s0), .val (.ref b2), .val (.int (p2 &&& (3 : Int32))), .val (.int (1 : Int32))] [(.int (XT.cmpL q5 q5))])
    refine Fini.st (fun _ k => XS.ifNo X29.here hx rfl (hb hby at_129) rfl (XT.ll_ne_f (rfl : q5 = q5)) k) ?_
    show Fini p e below s _ _ _ T29 (mkF m 132 #[.val (.int p0), .val (.int p1), .val (.int p2), .val (.long q3), .second, .val (.long q4), .second, .val (.long q5), .second, .val (.int z15_s0), .val (.ref b2), .val (.int (p2 &&& (3 : Int32))), .val (.int (1 : Int32))] [])
    refine Fini.st (fun _ k => XS.iconst X29.here hx rfl (hb hby at_132) k) ?_
    show Fini p e below s _ _ _ T29 (mkF m 133 #[.val (.int p0), .val (.int p1), .val (.int p2), .val (.long q3), .second, .val (.long q4), .second, .val (.long q5), .second, .val (.int z15_s0), .val (.ref b2), .val (.int (p2 &&& (3 : Int32))), .val (.int (1 : Int32))] [(.int (1 : Int32))])
    refine Fini.st (fun _ k => XS.goto X29.here hx rfl (pc0 := 133) (pc' := 137) rfl (hb hby at_133) (by decide) (by decide) k) ?_
    show Fini p e below s _ _ _ T29 (mkF m 137 #[.val (.int p0), .val (.int p1), .val (.int p2), .val (.long q3), .second, .val (.long q4), .second, .val (.long q5), .second, .val (.int z15_s0), .val (.ref b2), .val (.int (p2 &&& (3 : Int32))), .val (.int (1 : Int32))] [(.int (1 : Int32))])
    exact Fini.retN X29 hx hlk (t := .boolean) Bd.returns (by simp) (hb hby at_137) nb1 (by decide) (by decide) ⟨rfl, N25⟩
  have B79_1 : ∀ (T_79_1 : State) (h_79_1 : Heap) (locs : List Loc) (X_79_1 : Stand p l e room_1 s m #[(.int p0), (.int p1), (.int p2), (.long q3), (.long q4), (.long q5)] below meth c T_79_1 locs 3 146) (e_79_1 : T_79_1.heap = h_79_1) (b2 : Addr) (b5 : Addr) (z79_1_f_A_b5 : Nat → Int64) (z15_s0 : Int32) (z905_n : Int32) (N_79_1 : Fr n0 locs) (H79_1_Z : n0 ≤ h_79_1.size) (H79_1_E_b2 : Exa Z h_79_1 b2 "com/example/mapcodex/mapcodex/osm/LongList") (H79_1_F_b2_values : Fld Z h_79_1 b2 "com/example/mapcodex/mapcodex/osm/LongList" "values" "[J" (.ref b5)) (H79_1_F_b2_maxKeptRoom : Fld Z h_79_1 b2 "com/example/mapcodex/mapcodex/osm/LongList" "maxKeptRoom" "I" (.int z15_s0)) (H79_1_F_b2_size : Fld Z h_79_1 b2 "com/example/mapcodex/mapcodex/osm/LongList" "size" "I" (.int (1 : Int32))) (H79_1_A_b5 : AryJ Z h_79_1 b5 z905_n z79_1_f_A_b5) (ne79_1_b2_b5 : b2 ≠ b5) (ge79_1_b5 : n0 ≤ b5) (ge79_1_b2 : n0 ≤ b2) (cy79_1_bd : ¬ z905_n < (16 : Int32) ∧ z905_n < (128 : Int32)), Fini p e below s (fun v h' L => v = some (.int 1) ∧ Fr n0 L) (Room.cells room_1) (Room.slots room_1) T_79_1 (mkF m 79 #[.val (.int p0), .val (.int p1), .val (.int p2), .val (.long q3), .second, .val (.long q4), .second, .val (.long q5), .second, .val (.int z15_s0), .val (.ref b2), .val (.int (p2 &&& (3 : Int32))), .unset] []) := by
    intro T_79_1 h_79_1 locs X_79_1 e_79_1 b2 b5 z79_1_f_A_b5 z15_s0 z905_n N_79_1 H79_1_Z H79_1_E_b2 H79_1_F_b2_values H79_1_F_b2_maxKeptRoom H79_1_F_b2_size H79_1_A_b5 ne79_1_b2_b5 ge79_1_b5 ge79_1_b2 cy79_1_bd
    refine Fini.st (fun _ k => XS.aload X_79_1.here hx rfl (hb hby at_79) rfl rfl k) ?_
    show Fini p e below s _ _ _ T_79_1 (mkF m 81 #[.val (.int p0), .val (.int p1), .val (.int p2), .val (.long q3), .second, .val (.long q4), .second, .val (.long q5), .second, .val (.int z15_s0), .val (.ref b2), .val (.int (p2 &&& (3 : Int32))), .unset] [(.ref b2)])
    obtain ⟨v30, T30, L30, X30, hQ30, st30⟩ := callV X_79_1 hx hZ hown (hw _ (List.mem_of_getElem? (i := 26) rfl)) (hw _ (List.mem_of_getElem? (i := 27) rfl)) (hw _ (List.mem_of_getElem? (i := 29) rfl)) (hw _ (List.mem_of_getElem? (i := 28) rfl)) (hw _ (List.mem_of_getElem? (i := 2) rfl)) (hw _ (List.mem_of_getElem? (i := 30) rfl)) (notFace_of_selects (args := #[]) (mvT hZ (hw _ (List.mem_of_getElem? (i := 29) rfl)))) H79_1_E_b2 (by decide) (rm5 l Z a0 hw [] b2 b5 (1 : Int32) z15_s0 z905_n z79_1_f_A_b5 h_79_1 n0 H79_1_Z H79_1_E_b2 H79_1_F_b2_values H79_1_F_b2_size H79_1_F_b2_maxKeptRoom H79_1_A_b5 ge79_1_b2 ge79_1_b5 ne79_1_b2_b5 cy79_1_bd) e_79_1 (W := 0) (by decide) (by decide) (by decide) (by decide) (g := (mkF m 81 #[.val (.int p0), .val (.int p1), .val (.int p2), .val (.long q3), .second, .val (.long q4), .second, .val (.long q5), .second, .val (.int z15_s0), .val (.ref b2), .val (.int (p2 &&& (3 : Int32))), .unset] [(.ref b2)])) rfl (by rw [hml]; rfl) (argsL := []) (rest := []) rfl (lenOf pd_4 rfl) rfl (by show 2 * 0 + _ ≤ _; exact Nat.le_of_eq rfl) (hb hby at_81)
    obtain ⟨rfl, Nq30, K30, b30, z9030_n, z9030_u, ge_b30, ne30, bd30, Fv30, Ar30, Fs30, Fm30⟩ := hQ30
    have N30 := Fr.app N_79_1 Nq30
    refine Fini.st st30 ?_
    show Fini p e below s _ _ _ T30 (mkF m 84 #[.val (.int p0), .val (.int p1), .val (.int p2), .val (.long q3), .second, .val (.long q4), .second, .val (.long q5), .second, .val (.int z15_s0), .val (.ref b2), .val (.int (p2 &&& (3 : Int32))), .unset] [])
    refine Fini.st (fun _ k => XS.aload X30.here hx rfl (hb hby at_84) rfl rfl k) ?_
    show Fini p e below s _ _ _ T30 (mkF m 86 #[.val (.int p0), .val (.int p1), .val (.int p2), .val (.long q3), .second, .val (.long q4), .second, .val (.long q5), .second, .val (.int z15_s0), .val (.ref b2), .val (.int (p2 &&& (3 : Int32))), .unset] [(.ref b2)])
    have Ex_32 : Exa Z T30.heap b2 "com/example/mapcodex/mapcodex/osm/LongList" := (H79_1_E_b2.keep K30)
    obtain ⟨T31, X31, e31, st31⟩ := pureV X30 hx hZ hown (hw _ (List.mem_of_getElem? (i := 31) rfl)) (hw _ (List.mem_of_getElem? (i := 32) rfl)) (hw _ (List.mem_of_getElem? (i := 34) rfl)) (hw _ (List.mem_of_getElem? (i := 33) rfl)) (hw _ (List.mem_of_getElem? (i := 2) rfl)) (hw _ (List.mem_of_getElem? (i := 35) rfl)) (notFace_of_selects (args := #[]) (mvT hZ (hw _ (List.mem_of_getElem? (i := 34) rfl)))) Ex_32 (by decide) (rm6 l Z a0 hw [] b2 (0 : Int32) T30.heap Fs30) rfl (W := 0) (by decide) (by decide) (by decide) (by decide) (g := (mkF m 86 #[.val (.int p0), .val (.int p1), .val (.int p2), .val (.long q3), .second, .val (.long q4), .second, .val (.long q5), .second, .val (.int z15_s0), .val (.ref b2), .val (.int (p2 &&& (3 : Int32))), .unset] [(.ref b2)])) rfl (by rw [hml]; rfl) (argsL := []) (rest := []) rfl (lenOf pd_5 rfl) rfl (by show 2 * 0 + _ ≤ _; exact Nat.le_of_eq rfl) (hb hby at_86)
    refine Fini.st st31 ?_
    show Fini p e below s _ _ _ T31 (mkF m 89 #[.val (.int p0), .val (.int p1), .val (.int p2), .val (.long q3), .second, .val (.long q4), .second, .val (.long q5), .second, .val (.int z15_s0), .val (.ref b2), .val (.int (p2 &&& (3 : Int32))), .unset] [(.int (0 : Int32))])
    refine Fini.st (fun _ k => XS.ifNo X31.here hx rfl (hb hby at_89) rfl (XT.i0_ne_f (by decide : (0 : Int32) = (0 : Int32))) k) ?_
    show Fini p e below s _ _ _ T31 (mkF m 92 #[.val (.int p0), .val (.int p1), .val (.int p2), .val (.long q3), .second, .val (.long q4), .second, .val (.long q5), .second, .val (.int z15_s0), .val (.ref b2), .val (.int (p2 &&& (3 : Int32))), .unset] [])
    refine Fini.st (fun _ k => XS.iconst X31.here hx rfl (hb hby at_92) k) ?_
    show Fini p e below s _ _ _ T31 (mkF m 93 #[.val (.int p0), .val (.int p1), .val (.int p2), .val (.long q3), .second, .val (.long q4), .second, .val (.long q5), .second, .val (.int z15_s0), .val (.ref b2), .val (.int (p2 &&& (3 : Int32))), .unset] [(.int (1 : Int32))])
    refine Fini.st (fun _ k => XS.goto X31.here hx rfl (pc0 := 93) (pc' := 97) rfl (hb hby at_93) (by decide) (by decide) k) ?_
    show Fini p e below s _ _ _ T31 (mkF m 97 #[.val (.int p0), .val (.int p1), .val (.int p2), .val (.long q3), .second, .val (.long q4), .second, .val (.long q5), .second, .val (.int z15_s0), .val (.ref b2), .val (.int (p2 &&& (3 : Int32))), .unset] [(.int (1 : Int32))])
    refine Fini.st (fun _ k => XS.istore X31.here hx rfl (hb hby at_97) rfl (l' := #[.val (.int p0), .val (.int p1), .val (.int p2), .val (.long q3), .second, .val (.long q4), .second, .val (.long q5), .second, .val (.int z15_s0), .val (.ref b2), .val (.int (p2 &&& (3 : Int32))), .val (.int (1 : Int32))]) rfl k) ?_
    show Fini p e below s _ _ _ T31 (mkF m 99 #[.val (.int p0), .val (.int p1), .val (.int p2), .val (.long q3), .second, .val (.long q4), .second, .val (.long q5), .second, .val (.int z15_s0), .val (.ref b2), .val (.int (p2 &&& (3 : Int32))), .val (.int (1 : Int32))] [])
    refine Fini.st (fun _ k => XS.aload X31.here hx rfl (hb hby at_99) rfl rfl k) ?_
    show Fini p e below s _ _ _ T31 (mkF m 101 #[.val (.int p0), .val (.int p1), .val (.int p2), .val (.long q3), .second, .val (.long q4), .second, .val (.long q5), .second, .val (.int z15_s0), .val (.ref b2), .val (.int (p2 &&& (3 : Int32))), .val (.int (1 : Int32))] [(.ref b2)])
    refine Fini.st (fun _ k => XS.lload X31.here hx rfl (hb hby at_101) rfl k) ?_
    show Fini p e below s _ _ _ T31 (mkF m 103 #[.val (.int p0), .val (.int p1), .val (.int p2), .val (.long q3), .second, .val (.long q4), .second, .val (.long q5), .second, .val (.int z15_s0), .val (.ref b2), .val (.int (p2 &&& (3 : Int32))), .val (.int (1 : Int32))] [(.long q5), (.ref b2)])
    have Zs_34 : n0 ≤ T30.heap.size := (Nat.le_trans H79_1_Z K30.1)
    obtain ⟨v33, T33, L33, X33, hQ33, st33⟩ := callV X31 hx hZ hown (hw _ (List.mem_of_getElem? (i := 21) rfl)) (hw _ (List.mem_of_getElem? (i := 22) rfl)) (hw _ (List.mem_of_getElem? (i := 24) rfl)) (hw _ (List.mem_of_getElem? (i := 23) rfl)) (hw _ (List.mem_of_getElem? (i := 2) rfl)) (hw _ (List.mem_of_getElem? (i := 25) rfl)) (notFace_of_selects (args := #[]) (mvT hZ (hw _ (List.mem_of_getElem? (i := 24) rfl)))) Ex_32 (by decide) (rm4 l Z a0 hw [] b2 q5 b30 (0 : Int32) z15_s0 z9030_n z9030_u T30.heap n0 Zs_34 Ex_32 Fv30 Fs30 Fm30 Ar30 ge79_1_b2 ge_b30 ne30 (own_in bd30 ⟨by decide, by decide⟩) (own_ne (own_in bd30 ⟨by decide, by decide⟩))) e31 (W := 0) (by decide) (by decide) (by decide) (by decide) (g := (mkF m 103 #[.val (.int p0), .val (.int p1), .val (.int p2), .val (.long q3), .second, .val (.long q4), .second, .val (.long q5), .second, .val (.int z15_s0), .val (.ref b2), .val (.int (p2 &&& (3 : Int32))), .val (.int (1 : Int32))] [(.long q5), (.ref b2)])) rfl (by rw [hml]; rfl) (argsL := [(.long q5)]) (rest := []) rfl (lenOf pd_3 rfl) rfl (by show 2 * 0 + _ ≤ _; exact Nat.le_of_eq rfl) (hb hby at_103)
    obtain ⟨rfl, Nq33, K33, Fv33, Ar33, Fs33, Fm33⟩ := hQ33
    have N33 := Fr.app N30 Nq33
    refine Fini.st st33 ?_
    show Fini p e below s _ _ _ T33 (mkF m 106 #[.val (.int p0), .val (.int p1), .val (.int p2), .val (.long q3), .second, .val (.long q4), .second, .val (.long q5), .second, .val (.int z15_s0), .val (.ref b2), .val (.int (p2 &&& (3 : Int32))), .val (.int (1 : Int32))] [])
    refine Fini.st (fun _ k => XS.iload X33.here hx rfl (hb hby at_106) rfl k) ?_
    show Fini p e below s _ _ _ T33 (mkF m 108 #[.val (.int p0), .val (.int p1), .val (.int p2), .val (.long q3), .second, .val (.long q4), .second, .val (.long q5), .second, .val (.int z15_s0), .val (.ref b2), .val (.int (p2 &&& (3 : Int32))), .val (.int (1 : Int32))] [(.int (1 : Int32))])
    refine Fini.st (fun _ k => XS.ifNo X33.here hx rfl (hb hby at_108) rfl (XT.i0_eq_f (by decide : ¬ (1 : Int32) = (0 : Int32))) k) ?_
    show Fini p e below s _ _ _ T33 (mkF m 111 #[.val (.int p0), .val (.int p1), .val (.int p2), .val (.long q3), .second, .val (.long q4), .second, .val (.long q5), .second, .val (.int z15_s0), .val (.ref b2), .val (.int (p2 &&& (3 : Int32))), .val (.int (1 : Int32))] [])
    refine Fini.st (fun _ k => XS.aload X33.here hx rfl (hb hby at_111) rfl rfl k) ?_
    show Fini p e below s _ _ _ T33 (mkF m 113 #[.val (.int p0), .val (.int p1), .val (.int p2), .val (.long q3), .second, .val (.long q4), .second, .val (.long q5), .second, .val (.int z15_s0), .val (.ref b2), .val (.int (p2 &&& (3 : Int32))), .val (.int (1 : Int32))] [(.ref b2)])
    have Ex_36 : Exa Z T33.heap b2 "com/example/mapcodex/mapcodex/osm/LongList" := (Ex_32.keep K33)
    obtain ⟨T35, X35, e35, st35⟩ := pureV X33 hx hZ hown (hw _ (List.mem_of_getElem? (i := 31) rfl)) (hw _ (List.mem_of_getElem? (i := 32) rfl)) (hw _ (List.mem_of_getElem? (i := 34) rfl)) (hw _ (List.mem_of_getElem? (i := 33) rfl)) (hw _ (List.mem_of_getElem? (i := 2) rfl)) (hw _ (List.mem_of_getElem? (i := 35) rfl)) (notFace_of_selects (args := #[]) (mvT hZ (hw _ (List.mem_of_getElem? (i := 34) rfl)))) Ex_36 (by decide) (rm6 l Z a0 hw [] b2 (1 : Int32) T33.heap Fs33) rfl (W := 0) (by decide) (by decide) (by decide) (by decide) (g := (mkF m 113 #[.val (.int p0), .val (.int p1), .val (.int p2), .val (.long q3), .second, .val (.long q4), .second, .val (.long q5), .second, .val (.int z15_s0), .val (.ref b2), .val (.int (p2 &&& (3 : Int32))), .val (.int (1 : Int32))] [(.ref b2)])) rfl (by rw [hml]; rfl) (argsL := []) (rest := []) rfl (lenOf pd_5 rfl) rfl (by show 2 * 0 + _ ≤ _; exact Nat.le_of_eq rfl) (hb hby at_113)
    refine Fini.st st35 ?_
    show Fini p e below s _ _ _ T35 (mkF m 116 #[.val (.int p0), .val (.int p1), .val (.int p2), .val (.long q3), .second, .val (.long q4), .second, .val (.long q5), .second, .val (.int z15_s0), .val (.ref b2), .val (.int (p2 &&& (3 : Int32))), .val (.int (1 : Int32))] [(.int (1 : Int32))])
    refine Fini.st (fun _ k => XS.iconst X35.here hx rfl (hb hby at_116) k) ?_
    show Fini p e below s _ _ _ T35 (mkF m 117 #[.val (.int p0), .val (.int p1), .val (.int p2), .val (.long q3), .second, .val (.long q4), .second, .val (.long q5), .second, .val (.int z15_s0), .val (.ref b2), .val (.int (p2 &&& (3 : Int32))), .val (.int (1 : Int32))] [(.int (1 : Int32)), (.int (1 : Int32))])
    refine Fini.st (fun _ k => XS.icmpNo X35.here hx rfl (hb hby at_117) rfl (XT.ii_ne_f (by decide : (1 : Int32) = (1 : Int32))) k) ?_
    show Fini p e below s _ _ _ T35 (mkF m 120 #[.val (.int p0), .val (.int p1), .val (.int p2), .val (.long q3), .second, .val (.long q4), .second, .val (.long q5), .second, .val (.int z15_s0), .val (.ref b2), .val (.int (p2 &&& (3 : Int32))), .val (.int (1 : Int32))] [])
    refine Fini.st (fun _ k => XS.aload X35.here hx rfl (hb hby at_120) rfl rfl k) ?_
    show Fini p e below s _ _ _ T35 (mkF m 122 #[.val (.int p0), .val (.int p1), .val (.int p2), .val (.long q3), .second, .val (.long q4), .second, .val (.long q5), .second, .val (.int z15_s0), .val (.ref b2), .val (.int (p2 &&& (3 : Int32))), .val (.int (1 : Int32))] [(.ref b2)])
    refine Fini.st (fun _ k => XS.iconst X35.here hx rfl (hb hby at_122) k) ?_
    show Fini p e below s _ _ _ T35 (mkF m 123 #[.val (.int p0), .val (.int p1), .val (.int p2), .val (.long q3), .second, .val (.long q4), .second, .val (.long q5), .second, .val (.int z15_s0), .val (.ref b2), .val (.int (p2 &&& (3 : Int32))), .val (.int (1 : Int32))] [(.int (0 : Int32)), (.ref b2)])
    obtain ⟨T37, X37, e37, st37⟩ := pureV X35 hx hZ hown (hw _ (List.mem_of_getElem? (i := 36) rfl)) (hw _ (List.mem_of_getElem? (i := 37) rfl)) (hw _ (List.mem_of_getElem? (i := 39) rfl)) (hw _ (List.mem_of_getElem? (i := 38) rfl)) (hw _ (List.mem_of_getElem? (i := 2) rfl)) (hw _ (List.mem_of_getElem? (i := 40) rfl)) (notFace_of_selects (args := #[]) (mvT hZ (hw _ (List.mem_of_getElem? (i := 39) rfl)))) Ex_36 (by decide) (rm7 l Z a0 hw [] b2 (0 : Int32) b30 (1 : Int32) z9030_n (upd z9030_u 0 q5) T33.heap Fv33 Fs33 Ar33 (⟨by decide, by decide⟩) (own_in bd30 ⟨by decide, by decide⟩)) e35 (W := 0) (by decide) (by decide) (by decide) (by decide) (g := (mkF m 123 #[.val (.int p0), .val (.int p1), .val (.int p2), .val (.long q3), .second, .val (.long q4), .second, .val (.long q5), .second, .val (.int z15_s0), .val (.ref b2), .val (.int (p2 &&& (3 : Int32))), .val (.int (1 : Int32))] [(.int (0 : Int32)), (.ref b2)])) rfl (by rw [hml]; rfl) (argsL := [(.int (0 : Int32))]) (rest := []) rfl (lenOf pd_6 rfl) rfl (by show 2 * 0 + _ ≤ _; exact Nat.le_of_eq rfl) (hb hby at_123)
    refine Fini.st st37 ?_
    show Fini p e below s _ _ _ T37 (mkF m 126 #[.val (.int p0), .val (.int p1), .val (.int p2), .val (.long q3), .second, .val (.long q4), .second, .val (.long q5), .second, .val (.int z15_s0), .val (.ref b2), .val (.int (p2 &&& (3 : Int32))), .val (.int (1 : Int32))] [(.long q5)])
    refine Fini.st (fun _ k => XS.lload X37.here hx rfl (hb hby at_126) rfl k) ?_
    show Fini p e below s _ _ _ T37 (mkF m 128 #[.val (.int p0), .val (.int p1), .val (.int p2), .val (.long q3), .second, .val (.long q4), .second, .val (.long q5), .second, .val (.int z15_s0), .val (.ref b2), .val (.int (p2 &&& (3 : Int32))), .val (.int (1 : Int32))] [(.long q5), (.long q5)])
    refine Fini.st (fun _ k => XT.lcmp X37.here hx rfl (hb hby at_128) rfl k) ?_
    show Fini p e below s _ _ _ T37 (mkF m 129 #[.val (.int p0), .val (.int p1), .val (.int p2), .val (.long q3), .second, .val (.long q4), .second, .val (.long q5), .second, .val (.int z15_s0), .val (.ref b2), .val (.int (p2 &&& (3 : Int32))), .val (.int (1 : Int32))] [(.int (XT.cmpL q5 q5))])
    refine Fini.st (fun _ k => XS.ifNo X37.here hx rfl (hb hby at_129) rfl (XT.ll_ne_f (rfl : q5 = q5)) k) ?_
    show Fini p e below s _ _ _ T37 (mkF m 132 #[.val (.int p0), .val (.int p1), .val (.int p2), .val (.long q3), .second, .val (.long q4), .second, .val (.long q5), .second, .val (.int z15_s0), .val (.ref b2), .val (.int (p2 &&& (3 : Int32))), .val (.int (1 : Int32))] [])
    refine Fini.st (fun _ k => XS.iconst X37.here hx rfl (hb hby at_132) k) ?_
    show Fini p e below s _ _ _ T37 (mkF m 133 #[.val (.int p0), .val (.int p1), .val (.int p2), .val (.long q3), .second, .val (.long q4), .second, .val (.long q5), .second, .val (.int z15_s0), .val (.ref b2), .val (.int (p2 &&& (3 : Int32))), .val (.int (1 : Int32))] [(.int (1 : Int32))])
    refine Fini.st (fun _ k => XS.goto X37.here hx rfl (pc0 := 133) (pc' := 137) rfl (hb hby at_133) (by decide) (by decide) k) ?_
    show Fini p e below s _ _ _ T37 (mkF m 137 #[.val (.int p0), .val (.int p1), .val (.int p2), .val (.long q3), .second, .val (.long q4), .second, .val (.long q5), .second, .val (.int z15_s0), .val (.ref b2), .val (.int (p2 &&& (3 : Int32))), .val (.int (1 : Int32))] [(.int (1 : Int32))])
    exact Fini.retN X37 hx hlk (t := .boolean) Bd.returns (by simp) (hb hby at_137) nb1 (by decide) (by decide) ⟨rfl, N33⟩
  have B79_2 : ∀ (T_79_2 : State) (h_79_2 : Heap) (locs : List Loc) (X_79_2 : Stand p l e room_1 s m #[(.int p0), (.int p1), (.int p2), (.long q3), (.long q4), (.long q5)] below meth c T_79_2 locs 3 146) (e_79_2 : T_79_2.heap = h_79_2) (b2 : Addr) (b5 : Addr) (z79_2_f_A_b5 : Nat → Int64) (z15_s0 : Int32) (z905_n : Int32) (N_79_2 : Fr n0 locs) (H79_2_Z : n0 ≤ h_79_2.size) (H79_2_E_b2 : Exa Z h_79_2 b2 "com/example/mapcodex/mapcodex/osm/LongList") (H79_2_F_b2_values : Fld Z h_79_2 b2 "com/example/mapcodex/mapcodex/osm/LongList" "values" "[J" (.ref b5)) (H79_2_F_b2_maxKeptRoom : Fld Z h_79_2 b2 "com/example/mapcodex/mapcodex/osm/LongList" "maxKeptRoom" "I" (.int z15_s0)) (H79_2_F_b2_size : Fld Z h_79_2 b2 "com/example/mapcodex/mapcodex/osm/LongList" "size" "I" (.int (2 : Int32))) (H79_2_A_b5 : AryJ Z h_79_2 b5 z905_n z79_2_f_A_b5) (ne79_2_b2_b5 : b2 ≠ b5) (ge79_2_b5 : n0 ≤ b5) (ge79_2_b2 : n0 ≤ b2) (cy79_2_bd : ¬ z905_n < (16 : Int32) ∧ z905_n < (128 : Int32)), Fini p e below s (fun v h' L => v = some (.int 1) ∧ Fr n0 L) (Room.cells room_1) (Room.slots room_1) T_79_2 (mkF m 79 #[.val (.int p0), .val (.int p1), .val (.int p2), .val (.long q3), .second, .val (.long q4), .second, .val (.long q5), .second, .val (.int z15_s0), .val (.ref b2), .val (.int (p2 &&& (3 : Int32))), .unset] []) := by
    intro T_79_2 h_79_2 locs X_79_2 e_79_2 b2 b5 z79_2_f_A_b5 z15_s0 z905_n N_79_2 H79_2_Z H79_2_E_b2 H79_2_F_b2_values H79_2_F_b2_maxKeptRoom H79_2_F_b2_size H79_2_A_b5 ne79_2_b2_b5 ge79_2_b5 ge79_2_b2 cy79_2_bd
    refine Fini.st (fun _ k => XS.aload X_79_2.here hx rfl (hb hby at_79) rfl rfl k) ?_
    show Fini p e below s _ _ _ T_79_2 (mkF m 81 #[.val (.int p0), .val (.int p1), .val (.int p2), .val (.long q3), .second, .val (.long q4), .second, .val (.long q5), .second, .val (.int z15_s0), .val (.ref b2), .val (.int (p2 &&& (3 : Int32))), .unset] [(.ref b2)])
    obtain ⟨v38, T38, L38, X38, hQ38, st38⟩ := callV X_79_2 hx hZ hown (hw _ (List.mem_of_getElem? (i := 26) rfl)) (hw _ (List.mem_of_getElem? (i := 27) rfl)) (hw _ (List.mem_of_getElem? (i := 29) rfl)) (hw _ (List.mem_of_getElem? (i := 28) rfl)) (hw _ (List.mem_of_getElem? (i := 2) rfl)) (hw _ (List.mem_of_getElem? (i := 30) rfl)) (notFace_of_selects (args := #[]) (mvT hZ (hw _ (List.mem_of_getElem? (i := 29) rfl)))) H79_2_E_b2 (by decide) (rm5 l Z a0 hw [] b2 b5 (2 : Int32) z15_s0 z905_n z79_2_f_A_b5 h_79_2 n0 H79_2_Z H79_2_E_b2 H79_2_F_b2_values H79_2_F_b2_size H79_2_F_b2_maxKeptRoom H79_2_A_b5 ge79_2_b2 ge79_2_b5 ne79_2_b2_b5 cy79_2_bd) e_79_2 (W := 0) (by decide) (by decide) (by decide) (by decide) (g := (mkF m 81 #[.val (.int p0), .val (.int p1), .val (.int p2), .val (.long q3), .second, .val (.long q4), .second, .val (.long q5), .second, .val (.int z15_s0), .val (.ref b2), .val (.int (p2 &&& (3 : Int32))), .unset] [(.ref b2)])) rfl (by rw [hml]; rfl) (argsL := []) (rest := []) rfl (lenOf pd_4 rfl) rfl (by show 2 * 0 + _ ≤ _; exact Nat.le_of_eq rfl) (hb hby at_81)
    obtain ⟨rfl, Nq38, K38, b38, z9038_n, z9038_u, ge_b38, ne38, bd38, Fv38, Ar38, Fs38, Fm38⟩ := hQ38
    have N38 := Fr.app N_79_2 Nq38
    refine Fini.st st38 ?_
    show Fini p e below s _ _ _ T38 (mkF m 84 #[.val (.int p0), .val (.int p1), .val (.int p2), .val (.long q3), .second, .val (.long q4), .second, .val (.long q5), .second, .val (.int z15_s0), .val (.ref b2), .val (.int (p2 &&& (3 : Int32))), .unset] [])
    refine Fini.st (fun _ k => XS.aload X38.here hx rfl (hb hby at_84) rfl rfl k) ?_
    show Fini p e below s _ _ _ T38 (mkF m 86 #[.val (.int p0), .val (.int p1), .val (.int p2), .val (.long q3), .second, .val (.long q4), .second, .val (.long q5), .second, .val (.int z15_s0), .val (.ref b2), .val (.int (p2 &&& (3 : Int32))), .unset] [(.ref b2)])
    have Ex_40 : Exa Z T38.heap b2 "com/example/mapcodex/mapcodex/osm/LongList" := (H79_2_E_b2.keep K38)
    obtain ⟨T39, X39, e39, st39⟩ := pureV X38 hx hZ hown (hw _ (List.mem_of_getElem? (i := 31) rfl)) (hw _ (List.mem_of_getElem? (i := 32) rfl)) (hw _ (List.mem_of_getElem? (i := 34) rfl)) (hw _ (List.mem_of_getElem? (i := 33) rfl)) (hw _ (List.mem_of_getElem? (i := 2) rfl)) (hw _ (List.mem_of_getElem? (i := 35) rfl)) (notFace_of_selects (args := #[]) (mvT hZ (hw _ (List.mem_of_getElem? (i := 34) rfl)))) Ex_40 (by decide) (rm6 l Z a0 hw [] b2 (0 : Int32) T38.heap Fs38) rfl (W := 0) (by decide) (by decide) (by decide) (by decide) (g := (mkF m 86 #[.val (.int p0), .val (.int p1), .val (.int p2), .val (.long q3), .second, .val (.long q4), .second, .val (.long q5), .second, .val (.int z15_s0), .val (.ref b2), .val (.int (p2 &&& (3 : Int32))), .unset] [(.ref b2)])) rfl (by rw [hml]; rfl) (argsL := []) (rest := []) rfl (lenOf pd_5 rfl) rfl (by show 2 * 0 + _ ≤ _; exact Nat.le_of_eq rfl) (hb hby at_86)
    refine Fini.st st39 ?_
    show Fini p e below s _ _ _ T39 (mkF m 89 #[.val (.int p0), .val (.int p1), .val (.int p2), .val (.long q3), .second, .val (.long q4), .second, .val (.long q5), .second, .val (.int z15_s0), .val (.ref b2), .val (.int (p2 &&& (3 : Int32))), .unset] [(.int (0 : Int32))])
    refine Fini.st (fun _ k => XS.ifNo X39.here hx rfl (hb hby at_89) rfl (XT.i0_ne_f (by decide : (0 : Int32) = (0 : Int32))) k) ?_
    show Fini p e below s _ _ _ T39 (mkF m 92 #[.val (.int p0), .val (.int p1), .val (.int p2), .val (.long q3), .second, .val (.long q4), .second, .val (.long q5), .second, .val (.int z15_s0), .val (.ref b2), .val (.int (p2 &&& (3 : Int32))), .unset] [])
    refine Fini.st (fun _ k => XS.iconst X39.here hx rfl (hb hby at_92) k) ?_
    show Fini p e below s _ _ _ T39 (mkF m 93 #[.val (.int p0), .val (.int p1), .val (.int p2), .val (.long q3), .second, .val (.long q4), .second, .val (.long q5), .second, .val (.int z15_s0), .val (.ref b2), .val (.int (p2 &&& (3 : Int32))), .unset] [(.int (1 : Int32))])
    refine Fini.st (fun _ k => XS.goto X39.here hx rfl (pc0 := 93) (pc' := 97) rfl (hb hby at_93) (by decide) (by decide) k) ?_
    show Fini p e below s _ _ _ T39 (mkF m 97 #[.val (.int p0), .val (.int p1), .val (.int p2), .val (.long q3), .second, .val (.long q4), .second, .val (.long q5), .second, .val (.int z15_s0), .val (.ref b2), .val (.int (p2 &&& (3 : Int32))), .unset] [(.int (1 : Int32))])
    refine Fini.st (fun _ k => XS.istore X39.here hx rfl (hb hby at_97) rfl (l' := #[.val (.int p0), .val (.int p1), .val (.int p2), .val (.long q3), .second, .val (.long q4), .second, .val (.long q5), .second, .val (.int z15_s0), .val (.ref b2), .val (.int (p2 &&& (3 : Int32))), .val (.int (1 : Int32))]) rfl k) ?_
    show Fini p e below s _ _ _ T39 (mkF m 99 #[.val (.int p0), .val (.int p1), .val (.int p2), .val (.long q3), .second, .val (.long q4), .second, .val (.long q5), .second, .val (.int z15_s0), .val (.ref b2), .val (.int (p2 &&& (3 : Int32))), .val (.int (1 : Int32))] [])
    refine Fini.st (fun _ k => XS.aload X39.here hx rfl (hb hby at_99) rfl rfl k) ?_
    show Fini p e below s _ _ _ T39 (mkF m 101 #[.val (.int p0), .val (.int p1), .val (.int p2), .val (.long q3), .second, .val (.long q4), .second, .val (.long q5), .second, .val (.int z15_s0), .val (.ref b2), .val (.int (p2 &&& (3 : Int32))), .val (.int (1 : Int32))] [(.ref b2)])
    refine Fini.st (fun _ k => XS.lload X39.here hx rfl (hb hby at_101) rfl k) ?_
    show Fini p e below s _ _ _ T39 (mkF m 103 #[.val (.int p0), .val (.int p1), .val (.int p2), .val (.long q3), .second, .val (.long q4), .second, .val (.long q5), .second, .val (.int z15_s0), .val (.ref b2), .val (.int (p2 &&& (3 : Int32))), .val (.int (1 : Int32))] [(.long q5), (.ref b2)])
    have Zs_42 : n0 ≤ T38.heap.size := (Nat.le_trans H79_2_Z K38.1)
    obtain ⟨v41, T41, L41, X41, hQ41, st41⟩ := callV X39 hx hZ hown (hw _ (List.mem_of_getElem? (i := 21) rfl)) (hw _ (List.mem_of_getElem? (i := 22) rfl)) (hw _ (List.mem_of_getElem? (i := 24) rfl)) (hw _ (List.mem_of_getElem? (i := 23) rfl)) (hw _ (List.mem_of_getElem? (i := 2) rfl)) (hw _ (List.mem_of_getElem? (i := 25) rfl)) (notFace_of_selects (args := #[]) (mvT hZ (hw _ (List.mem_of_getElem? (i := 24) rfl)))) Ex_40 (by decide) (rm4 l Z a0 hw [] b2 q5 b38 (0 : Int32) z15_s0 z9038_n z9038_u T38.heap n0 Zs_42 Ex_40 Fv38 Fs38 Fm38 Ar38 ge79_2_b2 ge_b38 ne38 (own_in bd38 ⟨by decide, by decide⟩) (own_ne (own_in bd38 ⟨by decide, by decide⟩))) e39 (W := 0) (by decide) (by decide) (by decide) (by decide) (g := (mkF m 103 #[.val (.int p0), .val (.int p1), .val (.int p2), .val (.long q3), .second, .val (.long q4), .second, .val (.long q5), .second, .val (.int z15_s0), .val (.ref b2), .val (.int (p2 &&& (3 : Int32))), .val (.int (1 : Int32))] [(.long q5), (.ref b2)])) rfl (by rw [hml]; rfl) (argsL := [(.long q5)]) (rest := []) rfl (lenOf pd_3 rfl) rfl (by show 2 * 0 + _ ≤ _; exact Nat.le_of_eq rfl) (hb hby at_103)
    obtain ⟨rfl, Nq41, K41, Fv41, Ar41, Fs41, Fm41⟩ := hQ41
    have N41 := Fr.app N38 Nq41
    refine Fini.st st41 ?_
    show Fini p e below s _ _ _ T41 (mkF m 106 #[.val (.int p0), .val (.int p1), .val (.int p2), .val (.long q3), .second, .val (.long q4), .second, .val (.long q5), .second, .val (.int z15_s0), .val (.ref b2), .val (.int (p2 &&& (3 : Int32))), .val (.int (1 : Int32))] [])
    refine Fini.st (fun _ k => XS.iload X41.here hx rfl (hb hby at_106) rfl k) ?_
    show Fini p e below s _ _ _ T41 (mkF m 108 #[.val (.int p0), .val (.int p1), .val (.int p2), .val (.long q3), .second, .val (.long q4), .second, .val (.long q5), .second, .val (.int z15_s0), .val (.ref b2), .val (.int (p2 &&& (3 : Int32))), .val (.int (1 : Int32))] [(.int (1 : Int32))])
    refine Fini.st (fun _ k => XS.ifNo X41.here hx rfl (hb hby at_108) rfl (XT.i0_eq_f (by decide : ¬ (1 : Int32) = (0 : Int32))) k) ?_
    show Fini p e below s _ _ _ T41 (mkF m 111 #[.val (.int p0), .val (.int p1), .val (.int p2), .val (.long q3), .second, .val (.long q4), .second, .val (.long q5), .second, .val (.int z15_s0), .val (.ref b2), .val (.int (p2 &&& (3 : Int32))), .val (.int (1 : Int32))] [])
    refine Fini.st (fun _ k => XS.aload X41.here hx rfl (hb hby at_111) rfl rfl k) ?_
    show Fini p e below s _ _ _ T41 (mkF m 113 #[.val (.int p0), .val (.int p1), .val (.int p2), .val (.long q3), .second, .val (.long q4), .second, .val (.long q5), .second, .val (.int z15_s0), .val (.ref b2), .val (.int (p2 &&& (3 : Int32))), .val (.int (1 : Int32))] [(.ref b2)])
    have Ex_44 : Exa Z T41.heap b2 "com/example/mapcodex/mapcodex/osm/LongList" := (Ex_40.keep K41)
    obtain ⟨T43, X43, e43, st43⟩ := pureV X41 hx hZ hown (hw _ (List.mem_of_getElem? (i := 31) rfl)) (hw _ (List.mem_of_getElem? (i := 32) rfl)) (hw _ (List.mem_of_getElem? (i := 34) rfl)) (hw _ (List.mem_of_getElem? (i := 33) rfl)) (hw _ (List.mem_of_getElem? (i := 2) rfl)) (hw _ (List.mem_of_getElem? (i := 35) rfl)) (notFace_of_selects (args := #[]) (mvT hZ (hw _ (List.mem_of_getElem? (i := 34) rfl)))) Ex_44 (by decide) (rm6 l Z a0 hw [] b2 (1 : Int32) T41.heap Fs41) rfl (W := 0) (by decide) (by decide) (by decide) (by decide) (g := (mkF m 113 #[.val (.int p0), .val (.int p1), .val (.int p2), .val (.long q3), .second, .val (.long q4), .second, .val (.long q5), .second, .val (.int z15_s0), .val (.ref b2), .val (.int (p2 &&& (3 : Int32))), .val (.int (1 : Int32))] [(.ref b2)])) rfl (by rw [hml]; rfl) (argsL := []) (rest := []) rfl (lenOf pd_5 rfl) rfl (by show 2 * 0 + _ ≤ _; exact Nat.le_of_eq rfl) (hb hby at_113)
    refine Fini.st st43 ?_
    show Fini p e below s _ _ _ T43 (mkF m 116 #[.val (.int p0), .val (.int p1), .val (.int p2), .val (.long q3), .second, .val (.long q4), .second, .val (.long q5), .second, .val (.int z15_s0), .val (.ref b2), .val (.int (p2 &&& (3 : Int32))), .val (.int (1 : Int32))] [(.int (1 : Int32))])
    refine Fini.st (fun _ k => XS.iconst X43.here hx rfl (hb hby at_116) k) ?_
    show Fini p e below s _ _ _ T43 (mkF m 117 #[.val (.int p0), .val (.int p1), .val (.int p2), .val (.long q3), .second, .val (.long q4), .second, .val (.long q5), .second, .val (.int z15_s0), .val (.ref b2), .val (.int (p2 &&& (3 : Int32))), .val (.int (1 : Int32))] [(.int (1 : Int32)), (.int (1 : Int32))])
    refine Fini.st (fun _ k => XS.icmpNo X43.here hx rfl (hb hby at_117) rfl (XT.ii_ne_f (by decide : (1 : Int32) = (1 : Int32))) k) ?_
    show Fini p e below s _ _ _ T43 (mkF m 120 #[.val (.int p0), .val (.int p1), .val (.int p2), .val (.long q3), .second, .val (.long q4), .second, .val (.long q5), .second, .val (.int z15_s0), .val (.ref b2), .val (.int (p2 &&& (3 : Int32))), .val (.int (1 : Int32))] [])
    refine Fini.st (fun _ k => XS.aload X43.here hx rfl (hb hby at_120) rfl rfl k) ?_
    show Fini p e below s _ _ _ T43 (mkF m 122 #[.val (.int p0), .val (.int p1), .val (.int p2), .val (.long q3), .second, .val (.long q4), .second, .val (.long q5), .second, .val (.int z15_s0), .val (.ref b2), .val (.int (p2 &&& (3 : Int32))), .val (.int (1 : Int32))] [(.ref b2)])
    refine Fini.st (fun _ k => XS.iconst X43.here hx rfl (hb hby at_122) k) ?_
    show Fini p e below s _ _ _ T43 (mkF m 123 #[.val (.int p0), .val (.int p1), .val (.int p2), .val (.long q3), .second, .val (.long q4), .second, .val (.long q5), .second, .val (.int z15_s0), .val (.ref b2), .val (.int (p2 &&& (3 : Int32))), .val (.int (1 : Int32))] [(.int (0 : Int32)), (.ref b2)])
    obtain ⟨T45, X45, e45, st45⟩ := pureV X43 hx hZ hown (hw _ (List.mem_of_getElem? (i := 36) rfl)) (hw _ (List.mem_of_getElem? (i := 37) rfl)) (hw _ (List.mem_of_getElem? (i := 39) rfl)) (hw _ (List.mem_of_getElem? (i := 38) rfl)) (hw _ (List.mem_of_getElem? (i := 2) rfl)) (hw _ (List.mem_of_getElem? (i := 40) rfl)) (notFace_of_selects (args := #[]) (mvT hZ (hw _ (List.mem_of_getElem? (i := 39) rfl)))) Ex_44 (by decide) (rm7 l Z a0 hw [] b2 (0 : Int32) b38 (1 : Int32) z9038_n (upd z9038_u 0 q5) T41.heap Fv41 Fs41 Ar41 (⟨by decide, by decide⟩) (own_in bd38 ⟨by decide, by decide⟩)) e43 (W := 0) (by decide) (by decide) (by decide) (by decide) (g := (mkF m 123 #[.val (.int p0), .val (.int p1), .val (.int p2), .val (.long q3), .second, .val (.long q4), .second, .val (.long q5), .second, .val (.int z15_s0), .val (.ref b2), .val (.int (p2 &&& (3 : Int32))), .val (.int (1 : Int32))] [(.int (0 : Int32)), (.ref b2)])) rfl (by rw [hml]; rfl) (argsL := [(.int (0 : Int32))]) (rest := []) rfl (lenOf pd_6 rfl) rfl (by show 2 * 0 + _ ≤ _; exact Nat.le_of_eq rfl) (hb hby at_123)
    refine Fini.st st45 ?_
    show Fini p e below s _ _ _ T45 (mkF m 126 #[.val (.int p0), .val (.int p1), .val (.int p2), .val (.long q3), .second, .val (.long q4), .second, .val (.long q5), .second, .val (.int z15_s0), .val (.ref b2), .val (.int (p2 &&& (3 : Int32))), .val (.int (1 : Int32))] [(.long q5)])
    refine Fini.st (fun _ k => XS.lload X45.here hx rfl (hb hby at_126) rfl k) ?_
    show Fini p e below s _ _ _ T45 (mkF m 128 #[.val (.int p0), .val (.int p1), .val (.int p2), .val (.long q3), .second, .val (.long q4), .second, .val (.long q5), .second, .val (.int z15_s0), .val (.ref b2), .val (.int (p2 &&& (3 : Int32))), .val (.int (1 : Int32))] [(.long q5), (.long q5)])
    refine Fini.st (fun _ k => XT.lcmp X45.here hx rfl (hb hby at_128) rfl k) ?_
    show Fini p e below s _ _ _ T45 (mkF m 129 #[.val (.int p0), .val (.int p1), .val (.int p2), .val (.long q3), .second, .val (.long q4), .second, .val (.long q5), .second, .val (.int z15_s0), .val (.ref b2), .val (.int (p2 &&& (3 : Int32))), .val (.int (1 : Int32))] [(.int (XT.cmpL q5 q5))])
    refine Fini.st (fun _ k => XS.ifNo X45.here hx rfl (hb hby at_129) rfl (XT.ll_ne_f (rfl : q5 = q5)) k) ?_
    show Fini p e below s _ _ _ T45 (mkF m 132 #[.val (.int p0), .val (.int p1), .val (.int p2), .val (.long q3), .second, .val (.long q4), .second, .val (.long q5), .second, .val (.int z15_s0), .val (.ref b2), .val (.int (p2 &&& (3 : Int32))), .val (.int (1 : Int32))] [])
    refine Fini.st (fun _ k => XS.iconst X45.here hx rfl (hb hby at_132) k) ?_
    show Fini p e below s _ _ _ T45 (mkF m 133 #[.val (.int p0), .val (.int p1), .val (.int p2), .val (.long q3), .second, .val (.long q4), .second, .val (.long q5), .second, .val (.int z15_s0), .val (.ref b2), .val (.int (p2 &&& (3 : Int32))), .val (.int (1 : Int32))] [(.int (1 : Int32))])
    refine Fini.st (fun _ k => XS.goto X45.here hx rfl (pc0 := 133) (pc' := 137) rfl (hb hby at_133) (by decide) (by decide) k) ?_
    show Fini p e below s _ _ _ T45 (mkF m 137 #[.val (.int p0), .val (.int p1), .val (.int p2), .val (.long q3), .second, .val (.long q4), .second, .val (.long q5), .second, .val (.int z15_s0), .val (.ref b2), .val (.int (p2 &&& (3 : Int32))), .val (.int (1 : Int32))] [(.int (1 : Int32))])
    exact Fini.retN X45 hx hlk (t := .boolean) Bd.returns (by simp) (hb hby at_137) nb1 (by decide) (by decide) ⟨rfl, N41⟩
  have B79_3 : ∀ (T_79_3 : State) (h_79_3 : Heap) (locs : List Loc) (X_79_3 : Stand p l e room_1 s m #[(.int p0), (.int p1), (.int p2), (.long q3), (.long q4), (.long q5)] below meth c T_79_3 locs 3 146) (e_79_3 : T_79_3.heap = h_79_3) (b2 : Addr) (b5 : Addr) (z15_s0 : Int32) (z905_n : Int32) (z905_u : Nat → Int64) (N_79_3 : Fr n0 locs) (H79_3_Z : n0 ≤ h_79_3.size) (H79_3_E_b2 : Exa Z h_79_3 b2 "com/example/mapcodex/mapcodex/osm/LongList") (H79_3_F_b2_values : Fld Z h_79_3 b2 "com/example/mapcodex/mapcodex/osm/LongList" "values" "[J" (.ref b5)) (H79_3_F_b2_maxKeptRoom : Fld Z h_79_3 b2 "com/example/mapcodex/mapcodex/osm/LongList" "maxKeptRoom" "I" (.int z15_s0)) (H79_3_F_b2_size : Fld Z h_79_3 b2 "com/example/mapcodex/mapcodex/osm/LongList" "size" "I" (.int (3 : Int32))) (H79_3_A_b5 : AryJ Z h_79_3 b5 z905_n (upd (upd (upd z905_u 0 q3) 1 q4) 2 q3)) (ne79_3_b2_b5 : b2 ≠ b5) (ge79_3_b5 : n0 ≤ b5) (ge79_3_b2 : n0 ≤ b2) (cy79_3_bd : ¬ z905_n < (16 : Int32) ∧ z905_n < (128 : Int32)), Fini p e below s (fun v h' L => v = some (.int 1) ∧ Fr n0 L) (Room.cells room_1) (Room.slots room_1) T_79_3 (mkF m 79 #[.val (.int p0), .val (.int p1), .val (.int p2), .val (.long q3), .second, .val (.long q4), .second, .val (.long q5), .second, .val (.int z15_s0), .val (.ref b2), .val (.int (p2 &&& (3 : Int32))), .unset] []) := by
    intro T_79_3 h_79_3 locs X_79_3 e_79_3 b2 b5 z15_s0 z905_n z905_u N_79_3 H79_3_Z H79_3_E_b2 H79_3_F_b2_values H79_3_F_b2_maxKeptRoom H79_3_F_b2_size H79_3_A_b5 ne79_3_b2_b5 ge79_3_b5 ge79_3_b2 cy79_3_bd
    refine Fini.st (fun _ k => XS.aload X_79_3.here hx rfl (hb hby at_79) rfl rfl k) ?_
    show Fini p e below s _ _ _ T_79_3 (mkF m 81 #[.val (.int p0), .val (.int p1), .val (.int p2), .val (.long q3), .second, .val (.long q4), .second, .val (.long q5), .second, .val (.int z15_s0), .val (.ref b2), .val (.int (p2 &&& (3 : Int32))), .unset] [(.ref b2)])
    obtain ⟨v46, T46, L46, X46, hQ46, st46⟩ := callV X_79_3 hx hZ hown (hw _ (List.mem_of_getElem? (i := 26) rfl)) (hw _ (List.mem_of_getElem? (i := 27) rfl)) (hw _ (List.mem_of_getElem? (i := 29) rfl)) (hw _ (List.mem_of_getElem? (i := 28) rfl)) (hw _ (List.mem_of_getElem? (i := 2) rfl)) (hw _ (List.mem_of_getElem? (i := 30) rfl)) (notFace_of_selects (args := #[]) (mvT hZ (hw _ (List.mem_of_getElem? (i := 29) rfl)))) H79_3_E_b2 (by decide) (rm5 l Z a0 hw [] b2 b5 (3 : Int32) z15_s0 z905_n (upd (upd (upd z905_u 0 q3) 1 q4) 2 q3) h_79_3 n0 H79_3_Z H79_3_E_b2 H79_3_F_b2_values H79_3_F_b2_size H79_3_F_b2_maxKeptRoom H79_3_A_b5 ge79_3_b2 ge79_3_b5 ne79_3_b2_b5 cy79_3_bd) e_79_3 (W := 0) (by decide) (by decide) (by decide) (by decide) (g := (mkF m 81 #[.val (.int p0), .val (.int p1), .val (.int p2), .val (.long q3), .second, .val (.long q4), .second, .val (.long q5), .second, .val (.int z15_s0), .val (.ref b2), .val (.int (p2 &&& (3 : Int32))), .unset] [(.ref b2)])) rfl (by rw [hml]; rfl) (argsL := []) (rest := []) rfl (lenOf pd_4 rfl) rfl (by show 2 * 0 + _ ≤ _; exact Nat.le_of_eq rfl) (hb hby at_81)
    obtain ⟨rfl, Nq46, K46, b46, z9046_n, z9046_u, ge_b46, ne46, bd46, Fv46, Ar46, Fs46, Fm46⟩ := hQ46
    have N46 := Fr.app N_79_3 Nq46
    refine Fini.st st46 ?_
    show Fini p e below s _ _ _ T46 (mkF m 84 #[.val (.int p0), .val (.int p1), .val (.int p2), .val (.long q3), .second, .val (.long q4), .second, .val (.long q5), .second, .val (.int z15_s0), .val (.ref b2), .val (.int (p2 &&& (3 : Int32))), .unset] [])
    refine Fini.st (fun _ k => XS.aload X46.here hx rfl (hb hby at_84) rfl rfl k) ?_
    show Fini p e below s _ _ _ T46 (mkF m 86 #[.val (.int p0), .val (.int p1), .val (.int p2), .val (.long q3), .second, .val (.long q4), .second, .val (.long q5), .second, .val (.int z15_s0), .val (.ref b2), .val (.int (p2 &&& (3 : Int32))), .unset] [(.ref b2)])
    have Ex_48 : Exa Z T46.heap b2 "com/example/mapcodex/mapcodex/osm/LongList" := (H79_3_E_b2.keep K46)
    obtain ⟨T47, X47, e47, st47⟩ := pureV X46 hx hZ hown (hw _ (List.mem_of_getElem? (i := 31) rfl)) (hw _ (List.mem_of_getElem? (i := 32) rfl)) (hw _ (List.mem_of_getElem? (i := 34) rfl)) (hw _ (List.mem_of_getElem? (i := 33) rfl)) (hw _ (List.mem_of_getElem? (i := 2) rfl)) (hw _ (List.mem_of_getElem? (i := 35) rfl)) (notFace_of_selects (args := #[]) (mvT hZ (hw _ (List.mem_of_getElem? (i := 34) rfl)))) Ex_48 (by decide) (rm6 l Z a0 hw [] b2 (0 : Int32) T46.heap Fs46) rfl (W := 0) (by decide) (by decide) (by decide) (by decide) (g := (mkF m 86 #[.val (.int p0), .val (.int p1), .val (.int p2), .val (.long q3), .second, .val (.long q4), .second, .val (.long q5), .second, .val (.int z15_s0), .val (.ref b2), .val (.int (p2 &&& (3 : Int32))), .unset] [(.ref b2)])) rfl (by rw [hml]; rfl) (argsL := []) (rest := []) rfl (lenOf pd_5 rfl) rfl (by show 2 * 0 + _ ≤ _; exact Nat.le_of_eq rfl) (hb hby at_86)
    refine Fini.st st47 ?_
    show Fini p e below s _ _ _ T47 (mkF m 89 #[.val (.int p0), .val (.int p1), .val (.int p2), .val (.long q3), .second, .val (.long q4), .second, .val (.long q5), .second, .val (.int z15_s0), .val (.ref b2), .val (.int (p2 &&& (3 : Int32))), .unset] [(.int (0 : Int32))])
    refine Fini.st (fun _ k => XS.ifNo X47.here hx rfl (hb hby at_89) rfl (XT.i0_ne_f (by decide : (0 : Int32) = (0 : Int32))) k) ?_
    show Fini p e below s _ _ _ T47 (mkF m 92 #[.val (.int p0), .val (.int p1), .val (.int p2), .val (.long q3), .second, .val (.long q4), .second, .val (.long q5), .second, .val (.int z15_s0), .val (.ref b2), .val (.int (p2 &&& (3 : Int32))), .unset] [])
    refine Fini.st (fun _ k => XS.iconst X47.here hx rfl (hb hby at_92) k) ?_
    show Fini p e below s _ _ _ T47 (mkF m 93 #[.val (.int p0), .val (.int p1), .val (.int p2), .val (.long q3), .second, .val (.long q4), .second, .val (.long q5), .second, .val (.int z15_s0), .val (.ref b2), .val (.int (p2 &&& (3 : Int32))), .unset] [(.int (1 : Int32))])
    refine Fini.st (fun _ k => XS.goto X47.here hx rfl (pc0 := 93) (pc' := 97) rfl (hb hby at_93) (by decide) (by decide) k) ?_
    show Fini p e below s _ _ _ T47 (mkF m 97 #[.val (.int p0), .val (.int p1), .val (.int p2), .val (.long q3), .second, .val (.long q4), .second, .val (.long q5), .second, .val (.int z15_s0), .val (.ref b2), .val (.int (p2 &&& (3 : Int32))), .unset] [(.int (1 : Int32))])
    refine Fini.st (fun _ k => XS.istore X47.here hx rfl (hb hby at_97) rfl (l' := #[.val (.int p0), .val (.int p1), .val (.int p2), .val (.long q3), .second, .val (.long q4), .second, .val (.long q5), .second, .val (.int z15_s0), .val (.ref b2), .val (.int (p2 &&& (3 : Int32))), .val (.int (1 : Int32))]) rfl k) ?_
    show Fini p e below s _ _ _ T47 (mkF m 99 #[.val (.int p0), .val (.int p1), .val (.int p2), .val (.long q3), .second, .val (.long q4), .second, .val (.long q5), .second, .val (.int z15_s0), .val (.ref b2), .val (.int (p2 &&& (3 : Int32))), .val (.int (1 : Int32))] [])
    refine Fini.st (fun _ k => XS.aload X47.here hx rfl (hb hby at_99) rfl rfl k) ?_
    show Fini p e below s _ _ _ T47 (mkF m 101 #[.val (.int p0), .val (.int p1), .val (.int p2), .val (.long q3), .second, .val (.long q4), .second, .val (.long q5), .second, .val (.int z15_s0), .val (.ref b2), .val (.int (p2 &&& (3 : Int32))), .val (.int (1 : Int32))] [(.ref b2)])
    refine Fini.st (fun _ k => XS.lload X47.here hx rfl (hb hby at_101) rfl k) ?_
    show Fini p e below s _ _ _ T47 (mkF m 103 #[.val (.int p0), .val (.int p1), .val (.int p2), .val (.long q3), .second, .val (.long q4), .second, .val (.long q5), .second, .val (.int z15_s0), .val (.ref b2), .val (.int (p2 &&& (3 : Int32))), .val (.int (1 : Int32))] [(.long q5), (.ref b2)])
    have Zs_50 : n0 ≤ T46.heap.size := (Nat.le_trans H79_3_Z K46.1)
    obtain ⟨v49, T49, L49, X49, hQ49, st49⟩ := callV X47 hx hZ hown (hw _ (List.mem_of_getElem? (i := 21) rfl)) (hw _ (List.mem_of_getElem? (i := 22) rfl)) (hw _ (List.mem_of_getElem? (i := 24) rfl)) (hw _ (List.mem_of_getElem? (i := 23) rfl)) (hw _ (List.mem_of_getElem? (i := 2) rfl)) (hw _ (List.mem_of_getElem? (i := 25) rfl)) (notFace_of_selects (args := #[]) (mvT hZ (hw _ (List.mem_of_getElem? (i := 24) rfl)))) Ex_48 (by decide) (rm4 l Z a0 hw [] b2 q5 b46 (0 : Int32) z15_s0 z9046_n z9046_u T46.heap n0 Zs_50 Ex_48 Fv46 Fs46 Fm46 Ar46 ge79_3_b2 ge_b46 ne46 (own_in bd46 ⟨by decide, by decide⟩) (own_ne (own_in bd46 ⟨by decide, by decide⟩))) e47 (W := 0) (by decide) (by decide) (by decide) (by decide) (g := (mkF m 103 #[.val (.int p0), .val (.int p1), .val (.int p2), .val (.long q3), .second, .val (.long q4), .second, .val (.long q5), .second, .val (.int z15_s0), .val (.ref b2), .val (.int (p2 &&& (3 : Int32))), .val (.int (1 : Int32))] [(.long q5), (.ref b2)])) rfl (by rw [hml]; rfl) (argsL := [(.long q5)]) (rest := []) rfl (lenOf pd_3 rfl) rfl (by show 2 * 0 + _ ≤ _; exact Nat.le_of_eq rfl) (hb hby at_103)
    obtain ⟨rfl, Nq49, K49, Fv49, Ar49, Fs49, Fm49⟩ := hQ49
    have N49 := Fr.app N46 Nq49
    refine Fini.st st49 ?_
    show Fini p e below s _ _ _ T49 (mkF m 106 #[.val (.int p0), .val (.int p1), .val (.int p2), .val (.long q3), .second, .val (.long q4), .second, .val (.long q5), .second, .val (.int z15_s0), .val (.ref b2), .val (.int (p2 &&& (3 : Int32))), .val (.int (1 : Int32))] [])
    refine Fini.st (fun _ k => XS.iload X49.here hx rfl (hb hby at_106) rfl k) ?_
    show Fini p e below s _ _ _ T49 (mkF m 108 #[.val (.int p0), .val (.int p1), .val (.int p2), .val (.long q3), .second, .val (.long q4), .second, .val (.long q5), .second, .val (.int z15_s0), .val (.ref b2), .val (.int (p2 &&& (3 : Int32))), .val (.int (1 : Int32))] [(.int (1 : Int32))])
    refine Fini.st (fun _ k => XS.ifNo X49.here hx rfl (hb hby at_108) rfl (XT.i0_eq_f (by decide : ¬ (1 : Int32) = (0 : Int32))) k) ?_
    show Fini p e below s _ _ _ T49 (mkF m 111 #[.val (.int p0), .val (.int p1), .val (.int p2), .val (.long q3), .second, .val (.long q4), .second, .val (.long q5), .second, .val (.int z15_s0), .val (.ref b2), .val (.int (p2 &&& (3 : Int32))), .val (.int (1 : Int32))] [])
    refine Fini.st (fun _ k => XS.aload X49.here hx rfl (hb hby at_111) rfl rfl k) ?_
    show Fini p e below s _ _ _ T49 (mkF m 113 #[.val (.int p0), .val (.int p1), .val (.int p2), .val (.long q3), .second, .val (.long q4), .second, .val (.long q5), .second, .val (.int z15_s0), .val (.ref b2), .val (.int (p2 &&& (3 : Int32))), .val (.int (1 : Int32))] [(.ref b2)])
    have Ex_52 : Exa Z T49.heap b2 "com/example/mapcodex/mapcodex/osm/LongList" := (Ex_48.keep K49)
    obtain ⟨T51, X51, e51, st51⟩ := pureV X49 hx hZ hown (hw _ (List.mem_of_getElem? (i := 31) rfl)) (hw _ (List.mem_of_getElem? (i := 32) rfl)) (hw _ (List.mem_of_getElem? (i := 34) rfl)) (hw _ (List.mem_of_getElem? (i := 33) rfl)) (hw _ (List.mem_of_getElem? (i := 2) rfl)) (hw _ (List.mem_of_getElem? (i := 35) rfl)) (notFace_of_selects (args := #[]) (mvT hZ (hw _ (List.mem_of_getElem? (i := 34) rfl)))) Ex_52 (by decide) (rm6 l Z a0 hw [] b2 (1 : Int32) T49.heap Fs49) rfl (W := 0) (by decide) (by decide) (by decide) (by decide) (g := (mkF m 113 #[.val (.int p0), .val (.int p1), .val (.int p2), .val (.long q3), .second, .val (.long q4), .second, .val (.long q5), .second, .val (.int z15_s0), .val (.ref b2), .val (.int (p2 &&& (3 : Int32))), .val (.int (1 : Int32))] [(.ref b2)])) rfl (by rw [hml]; rfl) (argsL := []) (rest := []) rfl (lenOf pd_5 rfl) rfl (by show 2 * 0 + _ ≤ _; exact Nat.le_of_eq rfl) (hb hby at_113)
    refine Fini.st st51 ?_
    show Fini p e below s _ _ _ T51 (mkF m 116 #[.val (.int p0), .val (.int p1), .val (.int p2), .val (.long q3), .second, .val (.long q4), .second, .val (.long q5), .second, .val (.int z15_s0), .val (.ref b2), .val (.int (p2 &&& (3 : Int32))), .val (.int (1 : Int32))] [(.int (1 : Int32))])
    refine Fini.st (fun _ k => XS.iconst X51.here hx rfl (hb hby at_116) k) ?_
    show Fini p e below s _ _ _ T51 (mkF m 117 #[.val (.int p0), .val (.int p1), .val (.int p2), .val (.long q3), .second, .val (.long q4), .second, .val (.long q5), .second, .val (.int z15_s0), .val (.ref b2), .val (.int (p2 &&& (3 : Int32))), .val (.int (1 : Int32))] [(.int (1 : Int32)), (.int (1 : Int32))])
    refine Fini.st (fun _ k => XS.icmpNo X51.here hx rfl (hb hby at_117) rfl (XT.ii_ne_f (by decide : (1 : Int32) = (1 : Int32))) k) ?_
    show Fini p e below s _ _ _ T51 (mkF m 120 #[.val (.int p0), .val (.int p1), .val (.int p2), .val (.long q3), .second, .val (.long q4), .second, .val (.long q5), .second, .val (.int z15_s0), .val (.ref b2), .val (.int (p2 &&& (3 : Int32))), .val (.int (1 : Int32))] [])
    refine Fini.st (fun _ k => XS.aload X51.here hx rfl (hb hby at_120) rfl rfl k) ?_
    show Fini p e below s _ _ _ T51 (mkF m 122 #[.val (.int p0), .val (.int p1), .val (.int p2), .val (.long q3), .second, .val (.long q4), .second, .val (.long q5), .second, .val (.int z15_s0), .val (.ref b2), .val (.int (p2 &&& (3 : Int32))), .val (.int (1 : Int32))] [(.ref b2)])
    refine Fini.st (fun _ k => XS.iconst X51.here hx rfl (hb hby at_122) k) ?_
    show Fini p e below s _ _ _ T51 (mkF m 123 #[.val (.int p0), .val (.int p1), .val (.int p2), .val (.long q3), .second, .val (.long q4), .second, .val (.long q5), .second, .val (.int z15_s0), .val (.ref b2), .val (.int (p2 &&& (3 : Int32))), .val (.int (1 : Int32))] [(.int (0 : Int32)), (.ref b2)])
    obtain ⟨T53, X53, e53, st53⟩ := pureV X51 hx hZ hown (hw _ (List.mem_of_getElem? (i := 36) rfl)) (hw _ (List.mem_of_getElem? (i := 37) rfl)) (hw _ (List.mem_of_getElem? (i := 39) rfl)) (hw _ (List.mem_of_getElem? (i := 38) rfl)) (hw _ (List.mem_of_getElem? (i := 2) rfl)) (hw _ (List.mem_of_getElem? (i := 40) rfl)) (notFace_of_selects (args := #[]) (mvT hZ (hw _ (List.mem_of_getElem? (i := 39) rfl)))) Ex_52 (by decide) (rm7 l Z a0 hw [] b2 (0 : Int32) b46 (1 : Int32) z9046_n (upd z9046_u 0 q5) T49.heap Fv49 Fs49 Ar49 (⟨by decide, by decide⟩) (own_in bd46 ⟨by decide, by decide⟩)) e51 (W := 0) (by decide) (by decide) (by decide) (by decide) (g := (mkF m 123 #[.val (.int p0), .val (.int p1), .val (.int p2), .val (.long q3), .second, .val (.long q4), .second, .val (.long q5), .second, .val (.int z15_s0), .val (.ref b2), .val (.int (p2 &&& (3 : Int32))), .val (.int (1 : Int32))] [(.int (0 : Int32)), (.ref b2)])) rfl (by rw [hml]; rfl) (argsL := [(.int (0 : Int32))]) (rest := []) rfl (lenOf pd_6 rfl) rfl (by show 2 * 0 + _ ≤ _; exact Nat.le_of_eq rfl) (hb hby at_123)
    refine Fini.st st53 ?_
    show Fini p e below s _ _ _ T53 (mkF m 126 #[.val (.int p0), .val (.int p1), .val (.int p2), .val (.long q3), .second, .val (.long q4), .second, .val (.long q5), .second, .val (.int z15_s0), .val (.ref b2), .val (.int (p2 &&& (3 : Int32))), .val (.int (1 : Int32))] [(.long q5)])
    refine Fini.st (fun _ k => XS.lload X53.here hx rfl (hb hby at_126) rfl k) ?_
    show Fini p e below s _ _ _ T53 (mkF m 128 #[.val (.int p0), .val (.int p1), .val (.int p2), .val (.long q3), .second, .val (.long q4), .second, .val (.long q5), .second, .val (.int z15_s0), .val (.ref b2), .val (.int (p2 &&& (3 : Int32))), .val (.int (1 : Int32))] [(.long q5), (.long q5)])
    refine Fini.st (fun _ k => XT.lcmp X53.here hx rfl (hb hby at_128) rfl k) ?_
    show Fini p e below s _ _ _ T53 (mkF m 129 #[.val (.int p0), .val (.int p1), .val (.int p2), .val (.long q3), .second, .val (.long q4), .second, .val (.long q5), .second, .val (.int z15_s0), .val (.ref b2), .val (.int (p2 &&& (3 : Int32))), .val (.int (1 : Int32))] [(.int (XT.cmpL q5 q5))])
    refine Fini.st (fun _ k => XS.ifNo X53.here hx rfl (hb hby at_129) rfl (XT.ll_ne_f (rfl : q5 = q5)) k) ?_
    show Fini p e below s _ _ _ T53 (mkF m 132 #[.val (.int p0), .val (.int p1), .val (.int p2), .val (.long q3), .second, .val (.long q4), .second, .val (.long q5), .second, .val (.int z15_s0), .val (.ref b2), .val (.int (p2 &&& (3 : Int32))), .val (.int (1 : Int32))] [])
    refine Fini.st (fun _ k => XS.iconst X53.here hx rfl (hb hby at_132) k) ?_
    show Fini p e below s _ _ _ T53 (mkF m 133 #[.val (.int p0), .val (.int p1), .val (.int p2), .val (.long q3), .second, .val (.long q4), .second, .val (.long q5), .second, .val (.int z15_s0), .val (.ref b2), .val (.int (p2 &&& (3 : Int32))), .val (.int (1 : Int32))] [(.int (1 : Int32))])
    refine Fini.st (fun _ k => XS.goto X53.here hx rfl (pc0 := 133) (pc' := 137) rfl (hb hby at_133) (by decide) (by decide) k) ?_
    show Fini p e below s _ _ _ T53 (mkF m 137 #[.val (.int p0), .val (.int p1), .val (.int p2), .val (.long q3), .second, .val (.long q4), .second, .val (.long q5), .second, .val (.int z15_s0), .val (.ref b2), .val (.int (p2 &&& (3 : Int32))), .val (.int (1 : Int32))] [(.int (1 : Int32))])
    exact Fini.retN X53 hx hlk (t := .boolean) Bd.returns (by simp) (hb hby at_137) nb1 (by decide) (by decide) ⟨rfl, N49⟩
  have B67_0 : ∀ (T_67_0 : State) (h_67_0 : Heap) (locs : List Loc) (X_67_0 : Stand p l e room_1 s m #[(.int p0), (.int p1), (.int p2), (.long q3), (.long q4), (.long q5)] below meth c T_67_0 locs 3 146) (e_67_0 : T_67_0.heap = h_67_0) (b2 : Addr) (b5 : Addr) (z15_s0 : Int32) (z905_n : Int32) (z905_u : Nat → Int64) (N_67_0 : Fr n0 locs) (H67_0_Z : n0 ≤ h_67_0.size) (H67_0_E_b2 : Exa Z h_67_0 b2 "com/example/mapcodex/mapcodex/osm/LongList") (H67_0_F_b2_values : Fld Z h_67_0 b2 "com/example/mapcodex/mapcodex/osm/LongList" "values" "[J" (.ref b5)) (H67_0_F_b2_maxKeptRoom : Fld Z h_67_0 b2 "com/example/mapcodex/mapcodex/osm/LongList" "maxKeptRoom" "I" (.int z15_s0)) (H67_0_F_b2_size : Fld Z h_67_0 b2 "com/example/mapcodex/mapcodex/osm/LongList" "size" "I" (.int (0 : Int32))) (H67_0_A_b5 : AryJ Z h_67_0 b5 z905_n z905_u) (ne67_0_b2_b5 : b2 ≠ b5) (ge67_0_b5 : n0 ≤ b5) (ge67_0_b2 : n0 ≤ b2) (cy67_0_bd : ¬ z905_n < (16 : Int32) ∧ z905_n < (128 : Int32)), Fini p e below s (fun v h' L => v = some (.int 1) ∧ Fr n0 L) (Room.cells room_1) (Room.slots room_1) T_67_0 (mkF m 67 #[.val (.int p0), .val (.int p1), .val (.int p2), .val (.long q3), .second, .val (.long q4), .second, .val (.long q5), .second, .val (.int z15_s0), .val (.ref b2), .val (.int (p2 &&& (3 : Int32))), .unset] []) := by
    intro T_67_0 h_67_0 locs X_67_0 e_67_0 b2 b5 z15_s0 z905_n z905_u N_67_0 H67_0_Z H67_0_E_b2 H67_0_F_b2_values H67_0_F_b2_maxKeptRoom H67_0_F_b2_size H67_0_A_b5 ne67_0_b2_b5 ge67_0_b5 ge67_0_b2 cy67_0_bd
    refine Fini.st (fun _ k => XS.iload X_67_0.here hx rfl (hb hby at_67) rfl k) ?_
    show Fini p e below s _ _ _ T_67_0 (mkF m 69 #[.val (.int p0), .val (.int p1), .val (.int p2), .val (.long q3), .second, .val (.long q4), .second, .val (.long q5), .second, .val (.int z15_s0), .val (.ref b2), .val (.int (p2 &&& (3 : Int32))), .unset] [(.int (p2 &&& (3 : Int32)))])
    refine Fini.st (fun _ k => XS.iconst X_67_0.here hx rfl (hb hby at_69) k) ?_
    show Fini p e below s _ _ _ T_67_0 (mkF m 70 #[.val (.int p0), .val (.int p1), .val (.int p2), .val (.long q3), .second, .val (.long q4), .second, .val (.long q5), .second, .val (.int z15_s0), .val (.ref b2), .val (.int (p2 &&& (3 : Int32))), .unset] [(.int (3 : Int32)), (.int (p2 &&& (3 : Int32)))])
    by_cases c16 : (p2 &&& (3 : Int32)) < (3 : Int32)
    · skip
      refine Fini.st (fun _ k => XS.icmpYes X_67_0.here hx rfl (pc0 := 70) (pc' := 79) rfl (hb hby at_70) rfl (XT.ii_lt_t c16) (by decide) (by decide) k) ?_
      show Fini p e below s _ _ _ T_67_0 (mkF m 79 #[.val (.int p0), .val (.int p1), .val (.int p2), .val (.long q3), .second, .val (.long q4), .second, .val (.long q5), .second, .val (.int z15_s0), .val (.ref b2), .val (.int (p2 &&& (3 : Int32))), .unset] [])
      exact B79_0 T_67_0 _ _ (X_67_0.more (cells' := 3) (slots' := 146) (by decide) (by decide)) e_67_0 b2 b5 z15_s0 z905_n z905_u N_67_0 H67_0_Z H67_0_E_b2 H67_0_F_b2_values H67_0_F_b2_maxKeptRoom H67_0_F_b2_size H67_0_A_b5 ne67_0_b2_b5 ge67_0_b5 ge67_0_b2 cy67_0_bd
    · skip
      refine Fini.st (fun _ k => XS.icmpNo X_67_0.here hx rfl (hb hby at_70) rfl (XT.ii_lt_f c16) k) ?_
      show Fini p e below s _ _ _ T_67_0 (mkF m 73 #[.val (.int p0), .val (.int p1), .val (.int p2), .val (.long q3), .second, .val (.long q4), .second, .val (.long q5), .second, .val (.int z15_s0), .val (.ref b2), .val (.int (p2 &&& (3 : Int32))), .unset] [])
      refine Fini.st (fun _ k => XS.aload X_67_0.here hx rfl (hb hby at_73) rfl rfl k) ?_
      show Fini p e below s _ _ _ T_67_0 (mkF m 75 #[.val (.int p0), .val (.int p1), .val (.int p2), .val (.long q3), .second, .val (.long q4), .second, .val (.long q5), .second, .val (.int z15_s0), .val (.ref b2), .val (.int (p2 &&& (3 : Int32))), .unset] [(.ref b2)])
      refine Fini.st (fun _ k => XS.lloadN X_67_0.here hx rfl (hb hby at_75) rfl k) ?_
      show Fini p e below s _ _ _ T_67_0 (mkF m 76 #[.val (.int p0), .val (.int p1), .val (.int p2), .val (.long q3), .second, .val (.long q4), .second, .val (.long q5), .second, .val (.int z15_s0), .val (.ref b2), .val (.int (p2 &&& (3 : Int32))), .unset] [(.long q3), (.ref b2)])
      obtain ⟨v17, T17, L17, X17, hQ17, st17⟩ := callV X_67_0 hx hZ hown (hw _ (List.mem_of_getElem? (i := 21) rfl)) (hw _ (List.mem_of_getElem? (i := 22) rfl)) (hw _ (List.mem_of_getElem? (i := 24) rfl)) (hw _ (List.mem_of_getElem? (i := 23) rfl)) (hw _ (List.mem_of_getElem? (i := 2) rfl)) (hw _ (List.mem_of_getElem? (i := 25) rfl)) (notFace_of_selects (args := #[]) (mvT hZ (hw _ (List.mem_of_getElem? (i := 24) rfl)))) H67_0_E_b2 (by decide) (rm4 l Z a0 hw [] b2 q3 b5 (0 : Int32) z15_s0 z905_n z905_u h_67_0 n0 H67_0_Z H67_0_E_b2 H67_0_F_b2_values H67_0_F_b2_size H67_0_F_b2_maxKeptRoom H67_0_A_b5 ge67_0_b2 ge67_0_b5 ne67_0_b2_b5 (own_in cy67_0_bd ⟨by decide, by decide⟩) (own_ne (own_in cy67_0_bd ⟨by decide, by decide⟩))) e_67_0 (W := 0) (by decide) (by decide) (by decide) (by decide) (g := (mkF m 76 #[.val (.int p0), .val (.int p1), .val (.int p2), .val (.long q3), .second, .val (.long q4), .second, .val (.long q5), .second, .val (.int z15_s0), .val (.ref b2), .val (.int (p2 &&& (3 : Int32))), .unset] [(.long q3), (.ref b2)])) rfl (by rw [hml]; rfl) (argsL := [(.long q3)]) (rest := []) rfl (lenOf pd_3 rfl) rfl (by show 2 * 0 + _ ≤ _; exact Nat.le_of_eq rfl) (hb hby at_76)
      obtain ⟨rfl, Nq17, K17, Fv17, Ar17, Fs17, Fm17⟩ := hQ17
      have N17 := Fr.app N_67_0 Nq17
      refine Fini.st st17 ?_
      show Fini p e below s _ _ _ T17 (mkF m 79 #[.val (.int p0), .val (.int p1), .val (.int p2), .val (.long q3), .second, .val (.long q4), .second, .val (.long q5), .second, .val (.int z15_s0), .val (.ref b2), .val (.int (p2 &&& (3 : Int32))), .unset] [])
      have Zs_54 : n0 ≤ T17.heap.size := (Nat.le_trans H67_0_Z K17.1)
      have Ex_55 : Exa Z T17.heap b2 "com/example/mapcodex/mapcodex/osm/LongList" := (H67_0_E_b2.keep K17)
      exact B79_1 T17 _ _ (X17.more (cells' := 3) (slots' := 146) (by decide) (by decide)) rfl b2 b5 (upd z905_u 0 q3) z15_s0 z905_n N17 Zs_54 Ex_55 Fv17 Fm17 Fs17 Ar17 ne67_0_b2_b5 ge67_0_b5 ge67_0_b2 cy67_0_bd
  have B67_1 : ∀ (T_67_1 : State) (h_67_1 : Heap) (locs : List Loc) (X_67_1 : Stand p l e room_1 s m #[(.int p0), (.int p1), (.int p2), (.long q3), (.long q4), (.long q5)] below meth c T_67_1 locs 3 146) (e_67_1 : T_67_1.heap = h_67_1) (b2 : Addr) (b5 : Addr) (z67_1_f_A_b5 : Nat → Int64) (z15_s0 : Int32) (z905_n : Int32) (N_67_1 : Fr n0 locs) (H67_1_Z : n0 ≤ h_67_1.size) (H67_1_E_b2 : Exa Z h_67_1 b2 "com/example/mapcodex/mapcodex/osm/LongList") (H67_1_F_b2_values : Fld Z h_67_1 b2 "com/example/mapcodex/mapcodex/osm/LongList" "values" "[J" (.ref b5)) (H67_1_F_b2_maxKeptRoom : Fld Z h_67_1 b2 "com/example/mapcodex/mapcodex/osm/LongList" "maxKeptRoom" "I" (.int z15_s0)) (H67_1_F_b2_size : Fld Z h_67_1 b2 "com/example/mapcodex/mapcodex/osm/LongList" "size" "I" (.int (1 : Int32))) (H67_1_A_b5 : AryJ Z h_67_1 b5 z905_n z67_1_f_A_b5) (ne67_1_b2_b5 : b2 ≠ b5) (ge67_1_b5 : n0 ≤ b5) (ge67_1_b2 : n0 ≤ b2) (cy67_1_bd : ¬ z905_n < (16 : Int32) ∧ z905_n < (128 : Int32)), Fini p e below s (fun v h' L => v = some (.int 1) ∧ Fr n0 L) (Room.cells room_1) (Room.slots room_1) T_67_1 (mkF m 67 #[.val (.int p0), .val (.int p1), .val (.int p2), .val (.long q3), .second, .val (.long q4), .second, .val (.long q5), .second, .val (.int z15_s0), .val (.ref b2), .val (.int (p2 &&& (3 : Int32))), .unset] []) := by
    intro T_67_1 h_67_1 locs X_67_1 e_67_1 b2 b5 z67_1_f_A_b5 z15_s0 z905_n N_67_1 H67_1_Z H67_1_E_b2 H67_1_F_b2_values H67_1_F_b2_maxKeptRoom H67_1_F_b2_size H67_1_A_b5 ne67_1_b2_b5 ge67_1_b5 ge67_1_b2 cy67_1_bd
    refine Fini.st (fun _ k => XS.iload X_67_1.here hx rfl (hb hby at_67) rfl k) ?_
    show Fini p e below s _ _ _ T_67_1 (mkF m 69 #[.val (.int p0), .val (.int p1), .val (.int p2), .val (.long q3), .second, .val (.long q4), .second, .val (.long q5), .second, .val (.int z15_s0), .val (.ref b2), .val (.int (p2 &&& (3 : Int32))), .unset] [(.int (p2 &&& (3 : Int32)))])
    refine Fini.st (fun _ k => XS.iconst X_67_1.here hx rfl (hb hby at_69) k) ?_
    show Fini p e below s _ _ _ T_67_1 (mkF m 70 #[.val (.int p0), .val (.int p1), .val (.int p2), .val (.long q3), .second, .val (.long q4), .second, .val (.long q5), .second, .val (.int z15_s0), .val (.ref b2), .val (.int (p2 &&& (3 : Int32))), .unset] [(.int (3 : Int32)), (.int (p2 &&& (3 : Int32)))])
    by_cases c18 : (p2 &&& (3 : Int32)) < (3 : Int32)
    · skip
      refine Fini.st (fun _ k => XS.icmpYes X_67_1.here hx rfl (pc0 := 70) (pc' := 79) rfl (hb hby at_70) rfl (XT.ii_lt_t c18) (by decide) (by decide) k) ?_
      show Fini p e below s _ _ _ T_67_1 (mkF m 79 #[.val (.int p0), .val (.int p1), .val (.int p2), .val (.long q3), .second, .val (.long q4), .second, .val (.long q5), .second, .val (.int z15_s0), .val (.ref b2), .val (.int (p2 &&& (3 : Int32))), .unset] [])
      exact B79_1 T_67_1 _ _ (X_67_1.more (cells' := 3) (slots' := 146) (by decide) (by decide)) e_67_1 b2 b5 z67_1_f_A_b5 z15_s0 z905_n N_67_1 H67_1_Z H67_1_E_b2 H67_1_F_b2_values H67_1_F_b2_maxKeptRoom H67_1_F_b2_size H67_1_A_b5 ne67_1_b2_b5 ge67_1_b5 ge67_1_b2 cy67_1_bd
    · skip
      refine Fini.st (fun _ k => XS.icmpNo X_67_1.here hx rfl (hb hby at_70) rfl (XT.ii_lt_f c18) k) ?_
      show Fini p e below s _ _ _ T_67_1 (mkF m 73 #[.val (.int p0), .val (.int p1), .val (.int p2), .val (.long q3), .second, .val (.long q4), .second, .val (.long q5), .second, .val (.int z15_s0), .val (.ref b2), .val (.int (p2 &&& (3 : Int32))), .unset] [])
      refine Fini.st (fun _ k => XS.aload X_67_1.here hx rfl (hb hby at_73) rfl rfl k) ?_
      show Fini p e below s _ _ _ T_67_1 (mkF m 75 #[.val (.int p0), .val (.int p1), .val (.int p2), .val (.long q3), .second, .val (.long q4), .second, .val (.long q5), .second, .val (.int z15_s0), .val (.ref b2), .val (.int (p2 &&& (3 : Int32))), .unset] [(.ref b2)])
      refine Fini.st (fun _ k => XS.lloadN X_67_1.here hx rfl (hb hby at_75) rfl k) ?_
      show Fini p e below s _ _ _ T_67_1 (mkF m 76 #[.val (.int p0), .val (.int p1), .val (.int p2), .val (.long q3), .second, .val (.long q4), .second, .val (.long q5), .second, .val (.int z15_s0), .val (.ref b2), .val (.int (p2 &&& (3 : Int32))), .unset] [(.long q3), (.ref b2)])
      obtain ⟨v19, T19, L19, X19, hQ19, st19⟩ := callV X_67_1 hx hZ hown (hw _ (List.mem_of_getElem? (i := 21) rfl)) (hw _ (List.mem_of_getElem? (i := 22) rfl)) (hw _ (List.mem_of_getElem? (i := 24) rfl)) (hw _ (List.mem_of_getElem? (i := 23) rfl)) (hw _ (List.mem_of_getElem? (i := 2) rfl)) (hw _ (List.mem_of_getElem? (i := 25) rfl)) (notFace_of_selects (args := #[]) (mvT hZ (hw _ (List.mem_of_getElem? (i := 24) rfl)))) H67_1_E_b2 (by decide) (rm4 l Z a0 hw [] b2 q3 b5 (1 : Int32) z15_s0 z905_n z67_1_f_A_b5 h_67_1 n0 H67_1_Z H67_1_E_b2 H67_1_F_b2_values H67_1_F_b2_size H67_1_F_b2_maxKeptRoom H67_1_A_b5 ge67_1_b2 ge67_1_b5 ne67_1_b2_b5 (own_in cy67_1_bd ⟨by decide, by decide⟩) (own_ne (own_in cy67_1_bd ⟨by decide, by decide⟩))) e_67_1 (W := 0) (by decide) (by decide) (by decide) (by decide) (g := (mkF m 76 #[.val (.int p0), .val (.int p1), .val (.int p2), .val (.long q3), .second, .val (.long q4), .second, .val (.long q5), .second, .val (.int z15_s0), .val (.ref b2), .val (.int (p2 &&& (3 : Int32))), .unset] [(.long q3), (.ref b2)])) rfl (by rw [hml]; rfl) (argsL := [(.long q3)]) (rest := []) rfl (lenOf pd_3 rfl) rfl (by show 2 * 0 + _ ≤ _; exact Nat.le_of_eq rfl) (hb hby at_76)
      obtain ⟨rfl, Nq19, K19, Fv19, Ar19, Fs19, Fm19⟩ := hQ19
      have N19 := Fr.app N_67_1 Nq19
      refine Fini.st st19 ?_
      show Fini p e below s _ _ _ T19 (mkF m 79 #[.val (.int p0), .val (.int p1), .val (.int p2), .val (.long q3), .second, .val (.long q4), .second, .val (.long q5), .second, .val (.int z15_s0), .val (.ref b2), .val (.int (p2 &&& (3 : Int32))), .unset] [])
      have Zs_56 : n0 ≤ T19.heap.size := (Nat.le_trans H67_1_Z K19.1)
      have Ex_57 : Exa Z T19.heap b2 "com/example/mapcodex/mapcodex/osm/LongList" := (H67_1_E_b2.keep K19)
      exact B79_2 T19 _ _ (X19.more (cells' := 3) (slots' := 146) (by decide) (by decide)) rfl b2 b5 (upd z67_1_f_A_b5 1 q3) z15_s0 z905_n N19 Zs_56 Ex_57 Fv19 Fm19 Fs19 Ar19 ne67_1_b2_b5 ge67_1_b5 ge67_1_b2 cy67_1_bd
  have B67_2 : ∀ (T_67_2 : State) (h_67_2 : Heap) (locs : List Loc) (X_67_2 : Stand p l e room_1 s m #[(.int p0), (.int p1), (.int p2), (.long q3), (.long q4), (.long q5)] below meth c T_67_2 locs 3 146) (e_67_2 : T_67_2.heap = h_67_2) (b2 : Addr) (b5 : Addr) (z15_s0 : Int32) (z905_n : Int32) (z905_u : Nat → Int64) (N_67_2 : Fr n0 locs) (H67_2_Z : n0 ≤ h_67_2.size) (H67_2_E_b2 : Exa Z h_67_2 b2 "com/example/mapcodex/mapcodex/osm/LongList") (H67_2_F_b2_values : Fld Z h_67_2 b2 "com/example/mapcodex/mapcodex/osm/LongList" "values" "[J" (.ref b5)) (H67_2_F_b2_maxKeptRoom : Fld Z h_67_2 b2 "com/example/mapcodex/mapcodex/osm/LongList" "maxKeptRoom" "I" (.int z15_s0)) (H67_2_F_b2_size : Fld Z h_67_2 b2 "com/example/mapcodex/mapcodex/osm/LongList" "size" "I" (.int (2 : Int32))) (H67_2_A_b5 : AryJ Z h_67_2 b5 z905_n (upd (upd z905_u 0 q3) 1 q4)) (ne67_2_b2_b5 : b2 ≠ b5) (ge67_2_b5 : n0 ≤ b5) (ge67_2_b2 : n0 ≤ b2) (cy67_2_bd : ¬ z905_n < (16 : Int32) ∧ z905_n < (128 : Int32)), Fini p e below s (fun v h' L => v = some (.int 1) ∧ Fr n0 L) (Room.cells room_1) (Room.slots room_1) T_67_2 (mkF m 67 #[.val (.int p0), .val (.int p1), .val (.int p2), .val (.long q3), .second, .val (.long q4), .second, .val (.long q5), .second, .val (.int z15_s0), .val (.ref b2), .val (.int (p2 &&& (3 : Int32))), .unset] []) := by
    intro T_67_2 h_67_2 locs X_67_2 e_67_2 b2 b5 z15_s0 z905_n z905_u N_67_2 H67_2_Z H67_2_E_b2 H67_2_F_b2_values H67_2_F_b2_maxKeptRoom H67_2_F_b2_size H67_2_A_b5 ne67_2_b2_b5 ge67_2_b5 ge67_2_b2 cy67_2_bd
    refine Fini.st (fun _ k => XS.iload X_67_2.here hx rfl (hb hby at_67) rfl k) ?_
    show Fini p e below s _ _ _ T_67_2 (mkF m 69 #[.val (.int p0), .val (.int p1), .val (.int p2), .val (.long q3), .second, .val (.long q4), .second, .val (.long q5), .second, .val (.int z15_s0), .val (.ref b2), .val (.int (p2 &&& (3 : Int32))), .unset] [(.int (p2 &&& (3 : Int32)))])
    refine Fini.st (fun _ k => XS.iconst X_67_2.here hx rfl (hb hby at_69) k) ?_
    show Fini p e below s _ _ _ T_67_2 (mkF m 70 #[.val (.int p0), .val (.int p1), .val (.int p2), .val (.long q3), .second, .val (.long q4), .second, .val (.long q5), .second, .val (.int z15_s0), .val (.ref b2), .val (.int (p2 &&& (3 : Int32))), .unset] [(.int (3 : Int32)), (.int (p2 &&& (3 : Int32)))])
    by_cases c20 : (p2 &&& (3 : Int32)) < (3 : Int32)
    · skip
      refine Fini.st (fun _ k => XS.icmpYes X_67_2.here hx rfl (pc0 := 70) (pc' := 79) rfl (hb hby at_70) rfl (XT.ii_lt_t c20) (by decide) (by decide) k) ?_
      show Fini p e below s _ _ _ T_67_2 (mkF m 79 #[.val (.int p0), .val (.int p1), .val (.int p2), .val (.long q3), .second, .val (.long q4), .second, .val (.long q5), .second, .val (.int z15_s0), .val (.ref b2), .val (.int (p2 &&& (3 : Int32))), .unset] [])
      exact B79_2 T_67_2 _ _ (X_67_2.more (cells' := 3) (slots' := 146) (by decide) (by decide)) e_67_2 b2 b5 (upd (upd z905_u 0 q3) 1 q4) z15_s0 z905_n N_67_2 H67_2_Z H67_2_E_b2 H67_2_F_b2_values H67_2_F_b2_maxKeptRoom H67_2_F_b2_size H67_2_A_b5 ne67_2_b2_b5 ge67_2_b5 ge67_2_b2 cy67_2_bd
    · skip
      refine Fini.st (fun _ k => XS.icmpNo X_67_2.here hx rfl (hb hby at_70) rfl (XT.ii_lt_f c20) k) ?_
      show Fini p e below s _ _ _ T_67_2 (mkF m 73 #[.val (.int p0), .val (.int p1), .val (.int p2), .val (.long q3), .second, .val (.long q4), .second, .val (.long q5), .second, .val (.int z15_s0), .val (.ref b2), .val (.int (p2 &&& (3 : Int32))), .unset] [])
      refine Fini.st (fun _ k => XS.aload X_67_2.here hx rfl (hb hby at_73) rfl rfl k) ?_
      show Fini p e below s _ _ _ T_67_2 (mkF m 75 #[.val (.int p0), .val (.int p1), .val (.int p2), .val (.long q3), .second, .val (.long q4), .second, .val (.long q5), .second, .val (.int z15_s0), .val (.ref b2), .val (.int (p2 &&& (3 : Int32))), .unset] [(.ref b2)])
      refine Fini.st (fun _ k => XS.lloadN X_67_2.here hx rfl (hb hby at_75) rfl k) ?_
      show Fini p e below s _ _ _ T_67_2 (mkF m 76 #[.val (.int p0), .val (.int p1), .val (.int p2), .val (.long q3), .second, .val (.long q4), .second, .val (.long q5), .second, .val (.int z15_s0), .val (.ref b2), .val (.int (p2 &&& (3 : Int32))), .unset] [(.long q3), (.ref b2)])
      obtain ⟨v21, T21, L21, X21, hQ21, st21⟩ := callV X_67_2 hx hZ hown (hw _ (List.mem_of_getElem? (i := 21) rfl)) (hw _ (List.mem_of_getElem? (i := 22) rfl)) (hw _ (List.mem_of_getElem? (i := 24) rfl)) (hw _ (List.mem_of_getElem? (i := 23) rfl)) (hw _ (List.mem_of_getElem? (i := 2) rfl)) (hw _ (List.mem_of_getElem? (i := 25) rfl)) (notFace_of_selects (args := #[]) (mvT hZ (hw _ (List.mem_of_getElem? (i := 24) rfl)))) H67_2_E_b2 (by decide) (rm4 l Z a0 hw [] b2 q3 b5 (2 : Int32) z15_s0 z905_n (upd (upd z905_u 0 q3) 1 q4) h_67_2 n0 H67_2_Z H67_2_E_b2 H67_2_F_b2_values H67_2_F_b2_size H67_2_F_b2_maxKeptRoom H67_2_A_b5 ge67_2_b2 ge67_2_b5 ne67_2_b2_b5 (own_in cy67_2_bd ⟨by decide, by decide⟩) (own_ne (own_in cy67_2_bd ⟨by decide, by decide⟩))) e_67_2 (W := 0) (by decide) (by decide) (by decide) (by decide) (g := (mkF m 76 #[.val (.int p0), .val (.int p1), .val (.int p2), .val (.long q3), .second, .val (.long q4), .second, .val (.long q5), .second, .val (.int z15_s0), .val (.ref b2), .val (.int (p2 &&& (3 : Int32))), .unset] [(.long q3), (.ref b2)])) rfl (by rw [hml]; rfl) (argsL := [(.long q3)]) (rest := []) rfl (lenOf pd_3 rfl) rfl (by show 2 * 0 + _ ≤ _; exact Nat.le_of_eq rfl) (hb hby at_76)
      obtain ⟨rfl, Nq21, K21, Fv21, Ar21, Fs21, Fm21⟩ := hQ21
      have N21 := Fr.app N_67_2 Nq21
      refine Fini.st st21 ?_
      show Fini p e below s _ _ _ T21 (mkF m 79 #[.val (.int p0), .val (.int p1), .val (.int p2), .val (.long q3), .second, .val (.long q4), .second, .val (.long q5), .second, .val (.int z15_s0), .val (.ref b2), .val (.int (p2 &&& (3 : Int32))), .unset] [])
      have Zs_58 : n0 ≤ T21.heap.size := (Nat.le_trans H67_2_Z K21.1)
      have Ex_59 : Exa Z T21.heap b2 "com/example/mapcodex/mapcodex/osm/LongList" := (H67_2_E_b2.keep K21)
      exact B79_3 T21 _ _ (X21.more (cells' := 3) (slots' := 146) (by decide) (by decide)) rfl b2 b5 z15_s0 z905_n z905_u N21 Zs_58 Ex_59 Fv21 Fm21 Fs21 Ar21 ne67_2_b2_b5 ge67_2_b5 ge67_2_b2 cy67_2_bd
  have B54_0 : ∀ (T_54_0 : State) (h_54_0 : Heap) (locs : List Loc) (X_54_0 : Stand p l e room_1 s m #[(.int p0), (.int p1), (.int p2), (.long q3), (.long q4), (.long q5)] below meth c T_54_0 locs 3 146) (e_54_0 : T_54_0.heap = h_54_0) (b2 : Addr) (b5 : Addr) (z15_s0 : Int32) (z905_n : Int32) (z905_u : Nat → Int64) (N_54_0 : Fr n0 locs) (H54_0_Z : n0 ≤ h_54_0.size) (H54_0_E_b2 : Exa Z h_54_0 b2 "com/example/mapcodex/mapcodex/osm/LongList") (H54_0_F_b2_values : Fld Z h_54_0 b2 "com/example/mapcodex/mapcodex/osm/LongList" "values" "[J" (.ref b5)) (H54_0_F_b2_maxKeptRoom : Fld Z h_54_0 b2 "com/example/mapcodex/mapcodex/osm/LongList" "maxKeptRoom" "I" (.int z15_s0)) (H54_0_F_b2_size : Fld Z h_54_0 b2 "com/example/mapcodex/mapcodex/osm/LongList" "size" "I" (.int (0 : Int32))) (H54_0_A_b5 : AryJ Z h_54_0 b5 z905_n z905_u) (ne54_0_b2_b5 : b2 ≠ b5) (ge54_0_b5 : n0 ≤ b5) (ge54_0_b2 : n0 ≤ b2) (cy54_0_bd : ¬ z905_n < (16 : Int32) ∧ z905_n < (128 : Int32)), Fini p e below s (fun v h' L => v = some (.int 1) ∧ Fr n0 L) (Room.cells room_1) (Room.slots room_1) T_54_0 (mkF m 54 #[.val (.int p0), .val (.int p1), .val (.int p2), .val (.long q3), .second, .val (.long q4), .second, .val (.long q5), .second, .val (.int z15_s0), .val (.ref b2), .val (.int (p2 &&& (3 : Int32))), .unset] []) := by
    intro T_54_0 h_54_0 locs X_54_0 e_54_0 b2 b5 z15_s0 z905_n z905_u N_54_0 H54_0_Z H54_0_E_b2 H54_0_F_b2_values H54_0_F_b2_maxKeptRoom H54_0_F_b2_size H54_0_A_b5 ne54_0_b2_b5 ge54_0_b5 ge54_0_b2 cy54_0_bd
    refine Fini.st (fun _ k => XS.iload X_54_0.here hx rfl (hb hby at_54) rfl k) ?_
    show Fini p e below s _ _ _ T_54_0 (mkF m 56 #[.val (.int p0), .val (.int p1), .val (.int p2), .val (.long q3), .second, .val (.long q4), .second, .val (.long q5), .second, .val (.int z15_s0), .val (.ref b2), .val (.int (p2 &&& (3 : Int32))), .unset] [(.int (p2 &&& (3 : Int32)))])
    refine Fini.st (fun _ k => XS.iconst X_54_0.here hx rfl (hb hby at_56) k) ?_
    show Fini p e below s _ _ _ T_54_0 (mkF m 57 #[.val (.int p0), .val (.int p1), .val (.int p2), .val (.long q3), .second, .val (.long q4), .second, .val (.long q5), .second, .val (.int z15_s0), .val (.ref b2), .val (.int (p2 &&& (3 : Int32))), .unset] [(.int (2 : Int32)), (.int (p2 &&& (3 : Int32)))])
    by_cases c12 : (p2 &&& (3 : Int32)) < (2 : Int32)
    · skip
      refine Fini.st (fun _ k => XS.icmpYes X_54_0.here hx rfl (pc0 := 57) (pc' := 67) rfl (hb hby at_57) rfl (XT.ii_lt_t c12) (by decide) (by decide) k) ?_
      show Fini p e below s _ _ _ T_54_0 (mkF m 67 #[.val (.int p0), .val (.int p1), .val (.int p2), .val (.long q3), .second, .val (.long q4), .second, .val (.long q5), .second, .val (.int z15_s0), .val (.ref b2), .val (.int (p2 &&& (3 : Int32))), .unset] [])
      exact B67_0 T_54_0 _ _ (X_54_0.more (cells' := 3) (slots' := 146) (by decide) (by decide)) e_54_0 b2 b5 z15_s0 z905_n z905_u N_54_0 H54_0_Z H54_0_E_b2 H54_0_F_b2_values H54_0_F_b2_maxKeptRoom H54_0_F_b2_size H54_0_A_b5 ne54_0_b2_b5 ge54_0_b5 ge54_0_b2 cy54_0_bd
    · skip
      refine Fini.st (fun _ k => XS.icmpNo X_54_0.here hx rfl (hb hby at_57) rfl (XT.ii_lt_f c12) k) ?_
      show Fini p e below s _ _ _ T_54_0 (mkF m 60 #[.val (.int p0), .val (.int p1), .val (.int p2), .val (.long q3), .second, .val (.long q4), .second, .val (.long q5), .second, .val (.int z15_s0), .val (.ref b2), .val (.int (p2 &&& (3 : Int32))), .unset] [])
      refine Fini.st (fun _ k => XS.aload X_54_0.here hx rfl (hb hby at_60) rfl rfl k) ?_
      show Fini p e below s _ _ _ T_54_0 (mkF m 62 #[.val (.int p0), .val (.int p1), .val (.int p2), .val (.long q3), .second, .val (.long q4), .second, .val (.long q5), .second, .val (.int z15_s0), .val (.ref b2), .val (.int (p2 &&& (3 : Int32))), .unset] [(.ref b2)])
      refine Fini.st (fun _ k => XS.lload X_54_0.here hx rfl (hb hby at_62) rfl k) ?_
      show Fini p e below s _ _ _ T_54_0 (mkF m 64 #[.val (.int p0), .val (.int p1), .val (.int p2), .val (.long q3), .second, .val (.long q4), .second, .val (.long q5), .second, .val (.int z15_s0), .val (.ref b2), .val (.int (p2 &&& (3 : Int32))), .unset] [(.long q4), (.ref b2)])
      obtain ⟨v13, T13, L13, X13, hQ13, st13⟩ := callV X_54_0 hx hZ hown (hw _ (List.mem_of_getElem? (i := 21) rfl)) (hw _ (List.mem_of_getElem? (i := 22) rfl)) (hw _ (List.mem_of_getElem? (i := 24) rfl)) (hw _ (List.mem_of_getElem? (i := 23) rfl)) (hw _ (List.mem_of_getElem? (i := 2) rfl)) (hw _ (List.mem_of_getElem? (i := 25) rfl)) (notFace_of_selects (args := #[]) (mvT hZ (hw _ (List.mem_of_getElem? (i := 24) rfl)))) H54_0_E_b2 (by decide) (rm4 l Z a0 hw [] b2 q4 b5 (0 : Int32) z15_s0 z905_n z905_u h_54_0 n0 H54_0_Z H54_0_E_b2 H54_0_F_b2_values H54_0_F_b2_size H54_0_F_b2_maxKeptRoom H54_0_A_b5 ge54_0_b2 ge54_0_b5 ne54_0_b2_b5 (own_in cy54_0_bd ⟨by decide, by decide⟩) (own_ne (own_in cy54_0_bd ⟨by decide, by decide⟩))) e_54_0 (W := 0) (by decide) (by decide) (by decide) (by decide) (g := (mkF m 64 #[.val (.int p0), .val (.int p1), .val (.int p2), .val (.long q3), .second, .val (.long q4), .second, .val (.long q5), .second, .val (.int z15_s0), .val (.ref b2), .val (.int (p2 &&& (3 : Int32))), .unset] [(.long q4), (.ref b2)])) rfl (by rw [hml]; rfl) (argsL := [(.long q4)]) (rest := []) rfl (lenOf pd_3 rfl) rfl (by show 2 * 0 + _ ≤ _; exact Nat.le_of_eq rfl) (hb hby at_64)
      obtain ⟨rfl, Nq13, K13, Fv13, Ar13, Fs13, Fm13⟩ := hQ13
      have N13 := Fr.app N_54_0 Nq13
      refine Fini.st st13 ?_
      show Fini p e below s _ _ _ T13 (mkF m 67 #[.val (.int p0), .val (.int p1), .val (.int p2), .val (.long q3), .second, .val (.long q4), .second, .val (.long q5), .second, .val (.int z15_s0), .val (.ref b2), .val (.int (p2 &&& (3 : Int32))), .unset] [])
      have Zs_60 : n0 ≤ T13.heap.size := (Nat.le_trans H54_0_Z K13.1)
      have Ex_61 : Exa Z T13.heap b2 "com/example/mapcodex/mapcodex/osm/LongList" := (H54_0_E_b2.keep K13)
      exact B67_1 T13 _ _ (X13.more (cells' := 3) (slots' := 146) (by decide) (by decide)) rfl b2 b5 (upd z905_u 0 q4) z15_s0 z905_n N13 Zs_60 Ex_61 Fv13 Fm13 Fs13 Ar13 ne54_0_b2_b5 ge54_0_b5 ge54_0_b2 cy54_0_bd
  have B54_1 : ∀ (T_54_1 : State) (h_54_1 : Heap) (locs : List Loc) (X_54_1 : Stand p l e room_1 s m #[(.int p0), (.int p1), (.int p2), (.long q3), (.long q4), (.long q5)] below meth c T_54_1 locs 3 146) (e_54_1 : T_54_1.heap = h_54_1) (b2 : Addr) (b5 : Addr) (z15_s0 : Int32) (z905_n : Int32) (z905_u : Nat → Int64) (N_54_1 : Fr n0 locs) (H54_1_Z : n0 ≤ h_54_1.size) (H54_1_E_b2 : Exa Z h_54_1 b2 "com/example/mapcodex/mapcodex/osm/LongList") (H54_1_F_b2_values : Fld Z h_54_1 b2 "com/example/mapcodex/mapcodex/osm/LongList" "values" "[J" (.ref b5)) (H54_1_F_b2_maxKeptRoom : Fld Z h_54_1 b2 "com/example/mapcodex/mapcodex/osm/LongList" "maxKeptRoom" "I" (.int z15_s0)) (H54_1_F_b2_size : Fld Z h_54_1 b2 "com/example/mapcodex/mapcodex/osm/LongList" "size" "I" (.int (1 : Int32))) (H54_1_A_b5 : AryJ Z h_54_1 b5 z905_n (upd z905_u 0 q3)) (ne54_1_b2_b5 : b2 ≠ b5) (ge54_1_b5 : n0 ≤ b5) (ge54_1_b2 : n0 ≤ b2) (cy54_1_bd : ¬ z905_n < (16 : Int32) ∧ z905_n < (128 : Int32)), Fini p e below s (fun v h' L => v = some (.int 1) ∧ Fr n0 L) (Room.cells room_1) (Room.slots room_1) T_54_1 (mkF m 54 #[.val (.int p0), .val (.int p1), .val (.int p2), .val (.long q3), .second, .val (.long q4), .second, .val (.long q5), .second, .val (.int z15_s0), .val (.ref b2), .val (.int (p2 &&& (3 : Int32))), .unset] []) := by
    intro T_54_1 h_54_1 locs X_54_1 e_54_1 b2 b5 z15_s0 z905_n z905_u N_54_1 H54_1_Z H54_1_E_b2 H54_1_F_b2_values H54_1_F_b2_maxKeptRoom H54_1_F_b2_size H54_1_A_b5 ne54_1_b2_b5 ge54_1_b5 ge54_1_b2 cy54_1_bd
    refine Fini.st (fun _ k => XS.iload X_54_1.here hx rfl (hb hby at_54) rfl k) ?_
    show Fini p e below s _ _ _ T_54_1 (mkF m 56 #[.val (.int p0), .val (.int p1), .val (.int p2), .val (.long q3), .second, .val (.long q4), .second, .val (.long q5), .second, .val (.int z15_s0), .val (.ref b2), .val (.int (p2 &&& (3 : Int32))), .unset] [(.int (p2 &&& (3 : Int32)))])
    refine Fini.st (fun _ k => XS.iconst X_54_1.here hx rfl (hb hby at_56) k) ?_
    show Fini p e below s _ _ _ T_54_1 (mkF m 57 #[.val (.int p0), .val (.int p1), .val (.int p2), .val (.long q3), .second, .val (.long q4), .second, .val (.long q5), .second, .val (.int z15_s0), .val (.ref b2), .val (.int (p2 &&& (3 : Int32))), .unset] [(.int (2 : Int32)), (.int (p2 &&& (3 : Int32)))])
    by_cases c14 : (p2 &&& (3 : Int32)) < (2 : Int32)
    · skip
      refine Fini.st (fun _ k => XS.icmpYes X_54_1.here hx rfl (pc0 := 57) (pc' := 67) rfl (hb hby at_57) rfl (XT.ii_lt_t c14) (by decide) (by decide) k) ?_
      show Fini p e below s _ _ _ T_54_1 (mkF m 67 #[.val (.int p0), .val (.int p1), .val (.int p2), .val (.long q3), .second, .val (.long q4), .second, .val (.long q5), .second, .val (.int z15_s0), .val (.ref b2), .val (.int (p2 &&& (3 : Int32))), .unset] [])
      exact B67_1 T_54_1 _ _ (X_54_1.more (cells' := 3) (slots' := 146) (by decide) (by decide)) e_54_1 b2 b5 (upd z905_u 0 q3) z15_s0 z905_n N_54_1 H54_1_Z H54_1_E_b2 H54_1_F_b2_values H54_1_F_b2_maxKeptRoom H54_1_F_b2_size H54_1_A_b5 ne54_1_b2_b5 ge54_1_b5 ge54_1_b2 cy54_1_bd
    · skip
      refine Fini.st (fun _ k => XS.icmpNo X_54_1.here hx rfl (hb hby at_57) rfl (XT.ii_lt_f c14) k) ?_
      show Fini p e below s _ _ _ T_54_1 (mkF m 60 #[.val (.int p0), .val (.int p1), .val (.int p2), .val (.long q3), .second, .val (.long q4), .second, .val (.long q5), .second, .val (.int z15_s0), .val (.ref b2), .val (.int (p2 &&& (3 : Int32))), .unset] [])
      refine Fini.st (fun _ k => XS.aload X_54_1.here hx rfl (hb hby at_60) rfl rfl k) ?_
      show Fini p e below s _ _ _ T_54_1 (mkF m 62 #[.val (.int p0), .val (.int p1), .val (.int p2), .val (.long q3), .second, .val (.long q4), .second, .val (.long q5), .second, .val (.int z15_s0), .val (.ref b2), .val (.int (p2 &&& (3 : Int32))), .unset] [(.ref b2)])
      refine Fini.st (fun _ k => XS.lload X_54_1.here hx rfl (hb hby at_62) rfl k) ?_
      show Fini p e below s _ _ _ T_54_1 (mkF m 64 #[.val (.int p0), .val (.int p1), .val (.int p2), .val (.long q3), .second, .val (.long q4), .second, .val (.long q5), .second, .val (.int z15_s0), .val (.ref b2), .val (.int (p2 &&& (3 : Int32))), .unset] [(.long q4), (.ref b2)])
      obtain ⟨v15, T15, L15, X15, hQ15, st15⟩ := callV X_54_1 hx hZ hown (hw _ (List.mem_of_getElem? (i := 21) rfl)) (hw _ (List.mem_of_getElem? (i := 22) rfl)) (hw _ (List.mem_of_getElem? (i := 24) rfl)) (hw _ (List.mem_of_getElem? (i := 23) rfl)) (hw _ (List.mem_of_getElem? (i := 2) rfl)) (hw _ (List.mem_of_getElem? (i := 25) rfl)) (notFace_of_selects (args := #[]) (mvT hZ (hw _ (List.mem_of_getElem? (i := 24) rfl)))) H54_1_E_b2 (by decide) (rm4 l Z a0 hw [] b2 q4 b5 (1 : Int32) z15_s0 z905_n (upd z905_u 0 q3) h_54_1 n0 H54_1_Z H54_1_E_b2 H54_1_F_b2_values H54_1_F_b2_size H54_1_F_b2_maxKeptRoom H54_1_A_b5 ge54_1_b2 ge54_1_b5 ne54_1_b2_b5 (own_in cy54_1_bd ⟨by decide, by decide⟩) (own_ne (own_in cy54_1_bd ⟨by decide, by decide⟩))) e_54_1 (W := 0) (by decide) (by decide) (by decide) (by decide) (g := (mkF m 64 #[.val (.int p0), .val (.int p1), .val (.int p2), .val (.long q3), .second, .val (.long q4), .second, .val (.long q5), .second, .val (.int z15_s0), .val (.ref b2), .val (.int (p2 &&& (3 : Int32))), .unset] [(.long q4), (.ref b2)])) rfl (by rw [hml]; rfl) (argsL := [(.long q4)]) (rest := []) rfl (lenOf pd_3 rfl) rfl (by show 2 * 0 + _ ≤ _; exact Nat.le_of_eq rfl) (hb hby at_64)
      obtain ⟨rfl, Nq15, K15, Fv15, Ar15, Fs15, Fm15⟩ := hQ15
      have N15 := Fr.app N_54_1 Nq15
      refine Fini.st st15 ?_
      show Fini p e below s _ _ _ T15 (mkF m 67 #[.val (.int p0), .val (.int p1), .val (.int p2), .val (.long q3), .second, .val (.long q4), .second, .val (.long q5), .second, .val (.int z15_s0), .val (.ref b2), .val (.int (p2 &&& (3 : Int32))), .unset] [])
      have Zs_62 : n0 ≤ T15.heap.size := (Nat.le_trans H54_1_Z K15.1)
      have Ex_63 : Exa Z T15.heap b2 "com/example/mapcodex/mapcodex/osm/LongList" := (H54_1_E_b2.keep K15)
      exact B67_2 T15 _ _ (X15.more (cells' := 3) (slots' := 146) (by decide) (by decide)) rfl b2 b5 z15_s0 z905_n z905_u N15 Zs_62 Ex_63 Fv15 Fm15 Fs15 Ar15 ne54_1_b2_b5 ge54_1_b5 ge54_1_b2 cy54_1_bd
  have B15 : ∀ (T_15 : State) (h_15 : Heap) (locs : List Loc) (X_15 : Stand p l e room_1 s m #[(.int p0), (.int p1), (.int p2), (.long q3), (.long q4), (.long q5)] below meth c T_15 locs 0 0) (e_15 : T_15.heap = h_15) (z15_s0 : Int32) (N_15 : Fr n0 locs) (H15_Z : n0 ≤ h_15.size), Fini p e below s (fun v h' L => v = some (.int 1) ∧ Fr n0 L) (Room.cells room_1) (Room.slots room_1) T_15 (mkF m 15 #[.val (.int p0), .val (.int p1), .val (.int p2), .val (.long q3), .second, .val (.long q4), .second, .val (.long q5), .second, .unset, .unset, .unset, .unset] [(.int z15_s0)]) := by
    intro T_15 h_15 locs X_15 e_15 z15_s0 N_15 H15_Z 
    refine Fini.st (fun _ k => XS.istore X_15.here hx rfl (hb hby at_15) rfl (l' := #[.val (.int p0), .val (.int p1), .val (.int p2), .val (.long q3), .second, .val (.long q4), .second, .val (.long q5), .second, .val (.int z15_s0), .unset, .unset, .unset]) rfl k) ?_
    show Fini p e below s _ _ _ T_15 (mkF m 17 #[.val (.int p0), .val (.int p1), .val (.int p2), .val (.long q3), .second, .val (.long q4), .second, .val (.long q5), .second, .val (.int z15_s0), .unset, .unset, .unset] [])
    obtain ⟨T2, h2, X2, e2, E2, A2, D2, -, st2⟩ := newO X_15 hx hZ hown (hw _ (List.mem_of_getElem? (i := 0) rfl)) (hw _ (List.mem_of_getElem? (i := 1) rfl)) (hw _ (List.mem_of_getElem? (i := 2) rfl)) e_15 (g := (mkF m 17 #[.val (.int p0), .val (.int p1), .val (.int p2), .val (.long q3), .second, .val (.long q4), .second, .val (.long q5), .second, .val (.int z15_s0), .unset, .unset, .unset] [])) rfl (hb hby at_17) (by decide) (by decide)
    obtain ⟨b2, g2⟩ : ∃ z, z = h_15.size := ⟨_, rfl⟩
    rw [← g2] at A2 D2 st2
    have ge_b2 : n0 ≤ b2 := Nat.le_trans H15_Z (Nat.le_of_eq g2.symm)
    have Fn2_values : Fld Z h2 b2 "com/example/mapcodex/mapcodex/osm/LongList" "values" "[J" .null := D2 (Or.inl (hw _ (List.mem_of_getElem? (i := 11) rfl))) (ty := (.array .long)) (by decide)
    have Fn2_maxKeptRoom : Fld Z h2 b2 "com/example/mapcodex/mapcodex/osm/LongList" "maxKeptRoom" "I" (.int (0 : Int32)) := D2 (Or.inr (hw _ (List.mem_of_getElem? (i := 13) rfl))) (ty := .int) (by decide)
    have Fn2_size : Fld Z h2 b2 "com/example/mapcodex/mapcodex/osm/LongList" "size" "I" (.int (0 : Int32)) := D2 (Or.inl (hw _ (List.mem_of_getElem? (i := 20) rfl))) (ty := .int) (by decide)
    refine Fini.st st2 ?_
    show Fini p e below s _ _ _ T2 (mkF m 20 #[.val (.int p0), .val (.int p1), .val (.int p2), .val (.long q3), .second, .val (.long q4), .second, .val (.long q5), .second, .val (.int z15_s0), .unset, .unset, .unset] [(.ref b2)])
    refine Fini.st (fun _ k => XS.dup X2.here hx rfl (hb hby at_20) rfl rfl k) ?_
    show Fini p e below s _ _ _ T2 (mkF m 21 #[.val (.int p0), .val (.int p1), .val (.int p2), .val (.long q3), .second, .val (.long q4), .second, .val (.long q5), .second, .val (.int z15_s0), .unset, .unset, .unset] [(.ref b2), (.ref b2)])
    refine Fini.st (fun _ k => XS.iload X2.here hx rfl (hb hby at_21) rfl k) ?_
    show Fini p e below s _ _ _ T2 (mkF m 23 #[.val (.int p0), .val (.int p1), .val (.int p2), .val (.long q3), .second, .val (.long q4), .second, .val (.long q5), .second, .val (.int z15_s0), .unset, .unset, .unset] [(.int z15_s0), (.ref b2), (.ref b2)])
    have Zs_4 : n0 ≤ h2.size := (Nat.le_trans H15_Z E2.1)
    obtain ⟨v3, T3, L3, X3, hQ3, st3⟩ := callNew X2 hx hZ hown rfl (hw _ (List.mem_of_getElem? (i := 3) rfl)) (hw _ (List.mem_of_getElem? (i := 4) rfl)) (hw _ (List.mem_of_getElem? (i := 2) rfl)) (hw _ (List.mem_of_getElem? (i := 5) rfl)) (by decide) (rm1 l Z a0 hw [] b2 z15_s0 (0 : Int32) (0 : Int32) h2 n0 Zs_4 A2 Fn2_values Fn2_size Fn2_maxKeptRoom ge_b2) e2 (W := 1) (by decide) (by decide) (by decide) (by decide) (g := (mkF m 23 #[.val (.int p0), .val (.int p1), .val (.int p2), .val (.long q3), .second, .val (.long q4), .second, .val (.long q5), .second, .val (.int z15_s0), .unset, .unset, .unset] [(.int z15_s0), (.ref b2), (.ref b2)])) rfl (by rw [hml]; rfl) (argsL := [(.int z15_s0)]) (rest := [(.ref b2)]) rfl (lenOf pd_2 rfl) rfl (by show 2 * 0 + _ ≤ _; exact Nat.le_of_eq rfl) (hb hby at_23)
    obtain ⟨rfl, Nq3, K3, b3, sz3, ge_b3, Fv3, Ar3, Fs3, Fm3⟩ := hQ3
    have ne_b2_b3 : b2 ≠ b3 := Nat.ne_of_lt (Nat.lt_of_lt_of_le A2.lt sz3)
    have N3 := Fr.app N_15 Nq3
    refine Fini.st st3 ?_
    show Fini p e below s _ _ _ T3 (mkF m 26 #[.val (.int p0), .val (.int p1), .val (.int p2), .val (.long q3), .second, .val (.long q4), .second, .val (.long q5), .second, .val (.int z15_s0), .unset, .unset, .unset] [(.ref b2)])
    refine Fini.st (fun _ k => XS.astore X3.here hx rfl (hb hby at_26) rfl rfl (l' := #[.val (.int p0), .val (.int p1), .val (.int p2), .val (.long q3), .second, .val (.long q4), .second, .val (.long q5), .second, .val (.int z15_s0), .val (.ref b2), .unset, .unset]) rfl k) ?_
    show Fini p e below s _ _ _ T3 (mkF m 28 #[.val (.int p0), .val (.int p1), .val (.int p2), .val (.long q3), .second, .val (.long q4), .second, .val (.long q5), .second, .val (.int z15_s0), .val (.ref b2), .unset, .unset] [])
    refine Fini.st (fun _ k => XS.aload X3.here hx rfl (hb hby at_28) rfl rfl k) ?_
    show Fini p e below s _ _ _ T3 (mkF m 30 #[.val (.int p0), .val (.int p1), .val (.int p2), .val (.long q3), .second, .val (.long q4), .second, .val (.long q5), .second, .val (.int z15_s0), .val (.ref b2), .unset, .unset] [(.ref b2)])
    refine Fini.st (fun _ k => XS.iloadN X3.here hx rfl (hb hby at_30) rfl k) ?_
    show Fini p e below s _ _ _ T3 (mkF m 31 #[.val (.int p0), .val (.int p1), .val (.int p2), .val (.long q3), .second, .val (.long q4), .second, .val (.long q5), .second, .val (.int z15_s0), .val (.ref b2), .unset, .unset] [(.int p1), (.ref b2)])
    refine Fini.st (fun _ k => XS.bipush X3.here hx rfl (hb hby at_31) k) ?_
    show Fini p e below s _ _ _ T3 (mkF m 33 #[.val (.int p0), .val (.int p1), .val (.int p2), .val (.long q3), .second, .val (.long q4), .second, .val (.long q5), .second, .val (.int z15_s0), .val (.ref b2), .unset, .unset] [(.int (127 : Int32)), (.int p1), (.ref b2)])
    refine Fini.st (fun _ k => XS.iand X3.here hx rfl (hb hby at_33) rfl k) ?_
    show Fini p e below s _ _ _ T3 (mkF m 34 #[.val (.int p0), .val (.int p1), .val (.int p2), .val (.long q3), .second, .val (.long q4), .second, .val (.long q5), .second, .val (.int z15_s0), .val (.ref b2), .unset, .unset] [(.int (p1 &&& (127 : Int32))), (.ref b2)])
    have Zs_6 : n0 ≤ T3.heap.size := (Nat.le_trans Zs_4 K3.1)
    have Ex_7 : Exa Z T3.heap b2 "com/example/mapcodex/mapcodex/osm/LongList" := (A2.keep K3)
    obtain ⟨v5, T5, L5, X5, hQ5, st5⟩ := callV X3 hx hZ hown (hw _ (List.mem_of_getElem? (i := 14) rfl)) (hw _ (List.mem_of_getElem? (i := 15) rfl)) (hw _ (List.mem_of_getElem? (i := 17) rfl)) (hw _ (List.mem_of_getElem? (i := 16) rfl)) (hw _ (List.mem_of_getElem? (i := 2) rfl)) (hw _ (List.mem_of_getElem? (i := 18) rfl)) (notFace_of_selects (args := #[]) (mvT hZ (hw _ (List.mem_of_getElem? (i := 17) rfl)))) Ex_7 (by decide) (rm3 l Z a0 hw [] b2 (p1 &&& (127 : Int32)) b3 z15_s0 (fun _ => 0) T3.heap n0 Zs_6 Ex_7 Fv3 Fs3 Fm3 Ar3 ge_b2 ge_b3 ne_b2_b3 (own_127 p1)) rfl (W := 0) (by decide) (by decide) (by decide) (by decide) (g := (mkF m 34 #[.val (.int p0), .val (.int p1), .val (.int p2), .val (.long q3), .second, .val (.long q4), .second, .val (.long q5), .second, .val (.int z15_s0), .val (.ref b2), .unset, .unset] [(.int (p1 &&& (127 : Int32))), (.ref b2)])) rfl (by rw [hml]; rfl) (argsL := [(.int (p1 &&& (127 : Int32)))]) (rest := []) rfl (lenOf pd_2 rfl) rfl (by show 2 * 0 + _ ≤ _; exact Nat.le_of_eq rfl) (hb hby at_34)
    obtain ⟨rfl, Nq5, K5, b5, z905_n, z905_u, ge_b5, ne5, bd5, Fv5, Ar5, Fs5, Fm5⟩ := hQ5
    have N5 := Fr.app N3 Nq5
    refine Fini.st st5 ?_
    show Fini p e below s _ _ _ T5 (mkF m 37 #[.val (.int p0), .val (.int p1), .val (.int p2), .val (.long q3), .second, .val (.long q4), .second, .val (.long q5), .second, .val (.int z15_s0), .val (.ref b2), .unset, .unset] [])
    refine Fini.st (fun _ k => XS.iloadN X5.here hx rfl (hb hby at_37) rfl k) ?_
    show Fini p e below s _ _ _ T5 (mkF m 38 #[.val (.int p0), .val (.int p1), .val (.int p2), .val (.long q3), .second, .val (.long q4), .second, .val (.long q5), .second, .val (.int z15_s0), .val (.ref b2), .unset, .unset] [(.int p2)])
    refine Fini.st (fun _ k => XS.iconst X5.here hx rfl (hb hby at_38) k) ?_
    show Fini p e below s _ _ _ T5 (mkF m 39 #[.val (.int p0), .val (.int p1), .val (.int p2), .val (.long q3), .second, .val (.long q4), .second, .val (.long q5), .second, .val (.int z15_s0), .val (.ref b2), .unset, .unset] [(.int (3 : Int32)), (.int p2)])
    refine Fini.st (fun _ k => XS.iand X5.here hx rfl (hb hby at_39) rfl k) ?_
    show Fini p e below s _ _ _ T5 (mkF m 40 #[.val (.int p0), .val (.int p1), .val (.int p2), .val (.long q3), .second, .val (.long q4), .second, .val (.long q5), .second, .val (.int z15_s0), .val (.ref b2), .unset, .unset] [(.int (p2 &&& (3 : Int32)))])
    refine Fini.st (fun _ k => XS.istore X5.here hx rfl (hb hby at_40) rfl (l' := #[.val (.int p0), .val (.int p1), .val (.int p2), .val (.long q3), .second, .val (.long q4), .second, .val (.long q5), .second, .val (.int z15_s0), .val (.ref b2), .val (.int (p2 &&& (3 : Int32))), .unset]) rfl k) ?_
    show Fini p e below s _ _ _ T5 (mkF m 42 #[.val (.int p0), .val (.int p1), .val (.int p2), .val (.long q3), .second, .val (.long q4), .second, .val (.long q5), .second, .val (.int z15_s0), .val (.ref b2), .val (.int (p2 &&& (3 : Int32))), .unset] [])
    refine Fini.st (fun _ k => XS.iload X5.here hx rfl (hb hby at_42) rfl k) ?_
    show Fini p e below s _ _ _ T5 (mkF m 44 #[.val (.int p0), .val (.int p1), .val (.int p2), .val (.long q3), .second, .val (.long q4), .second, .val (.long q5), .second, .val (.int z15_s0), .val (.ref b2), .val (.int (p2 &&& (3 : Int32))), .unset] [(.int (p2 &&& (3 : Int32)))])
    refine Fini.st (fun _ k => XS.iconst X5.here hx rfl (hb hby at_44) k) ?_
    show Fini p e below s _ _ _ T5 (mkF m 45 #[.val (.int p0), .val (.int p1), .val (.int p2), .val (.long q3), .second, .val (.long q4), .second, .val (.long q5), .second, .val (.int z15_s0), .val (.ref b2), .val (.int (p2 &&& (3 : Int32))), .unset] [(.int (1 : Int32)), (.int (p2 &&& (3 : Int32)))])
    by_cases c8 : (p2 &&& (3 : Int32)) < (1 : Int32)
    · skip
      refine Fini.st (fun _ k => XS.icmpYes X5.here hx rfl (pc0 := 45) (pc' := 54) rfl (hb hby at_45) rfl (XT.ii_lt_t c8) (by decide) (by decide) k) ?_
      show Fini p e below s _ _ _ T5 (mkF m 54 #[.val (.int p0), .val (.int p1), .val (.int p2), .val (.long q3), .second, .val (.long q4), .second, .val (.long q5), .second, .val (.int z15_s0), .val (.ref b2), .val (.int (p2 &&& (3 : Int32))), .unset] [])
      have Zs_64 : n0 ≤ T5.heap.size := (Nat.le_trans Zs_6 K5.1)
      have Ex_65 : Exa Z T5.heap b2 "com/example/mapcodex/mapcodex/osm/LongList" := (Ex_7.keep K5)
      exact B54_0 T5 _ _ (X5.more (cells' := 3) (slots' := 146) (by decide) (by decide)) rfl b2 b5 z15_s0 z905_n z905_u N5 Zs_64 Ex_65 Fv5 Fm5 Fs5 Ar5 ne5 ge_b5 ge_b2 bd5
    · skip
      refine Fini.st (fun _ k => XS.icmpNo X5.here hx rfl (hb hby at_45) rfl (XT.ii_lt_f c8) k) ?_
      show Fini p e below s _ _ _ T5 (mkF m 48 #[.val (.int p0), .val (.int p1), .val (.int p2), .val (.long q3), .second, .val (.long q4), .second, .val (.long q5), .second, .val (.int z15_s0), .val (.ref b2), .val (.int (p2 &&& (3 : Int32))), .unset] [])
      refine Fini.st (fun _ k => XS.aload X5.here hx rfl (hb hby at_48) rfl rfl k) ?_
      show Fini p e below s _ _ _ T5 (mkF m 50 #[.val (.int p0), .val (.int p1), .val (.int p2), .val (.long q3), .second, .val (.long q4), .second, .val (.long q5), .second, .val (.int z15_s0), .val (.ref b2), .val (.int (p2 &&& (3 : Int32))), .unset] [(.ref b2)])
      refine Fini.st (fun _ k => XS.lloadN X5.here hx rfl (hb hby at_50) rfl k) ?_
      show Fini p e below s _ _ _ T5 (mkF m 51 #[.val (.int p0), .val (.int p1), .val (.int p2), .val (.long q3), .second, .val (.long q4), .second, .val (.long q5), .second, .val (.int z15_s0), .val (.ref b2), .val (.int (p2 &&& (3 : Int32))), .unset] [(.long q3), (.ref b2)])
      have Zs_10 : n0 ≤ T5.heap.size := (Nat.le_trans Zs_6 K5.1)
      have Ex_11 : Exa Z T5.heap b2 "com/example/mapcodex/mapcodex/osm/LongList" := (Ex_7.keep K5)
      obtain ⟨v9, T9, L9, X9, hQ9, st9⟩ := callV X5 hx hZ hown (hw _ (List.mem_of_getElem? (i := 21) rfl)) (hw _ (List.mem_of_getElem? (i := 22) rfl)) (hw _ (List.mem_of_getElem? (i := 24) rfl)) (hw _ (List.mem_of_getElem? (i := 23) rfl)) (hw _ (List.mem_of_getElem? (i := 2) rfl)) (hw _ (List.mem_of_getElem? (i := 25) rfl)) (notFace_of_selects (args := #[]) (mvT hZ (hw _ (List.mem_of_getElem? (i := 24) rfl)))) Ex_11 (by decide) (rm4 l Z a0 hw [] b2 q3 b5 (0 : Int32) z15_s0 z905_n z905_u T5.heap n0 Zs_10 Ex_11 Fv5 Fs5 Fm5 Ar5 ge_b2 ge_b5 ne5 (own_in bd5 ⟨by decide, by decide⟩) (own_ne (own_in bd5 ⟨by decide, by decide⟩))) rfl (W := 0) (by decide) (by decide) (by decide) (by decide) (g := (mkF m 51 #[.val (.int p0), .val (.int p1), .val (.int p2), .val (.long q3), .second, .val (.long q4), .second, .val (.long q5), .second, .val (.int z15_s0), .val (.ref b2), .val (.int (p2 &&& (3 : Int32))), .unset] [(.long q3), (.ref b2)])) rfl (by rw [hml]; rfl) (argsL := [(.long q3)]) (rest := []) rfl (lenOf pd_3 rfl) rfl (by show 2 * 0 + _ ≤ _; exact Nat.le_of_eq rfl) (hb hby at_51)
      obtain ⟨rfl, Nq9, K9, Fv9, Ar9, Fs9, Fm9⟩ := hQ9
      have N9 := Fr.app N5 Nq9
      refine Fini.st st9 ?_
      show Fini p e below s _ _ _ T9 (mkF m 54 #[.val (.int p0), .val (.int p1), .val (.int p2), .val (.long q3), .second, .val (.long q4), .second, .val (.long q5), .second, .val (.int z15_s0), .val (.ref b2), .val (.int (p2 &&& (3 : Int32))), .unset] [])
      have Zs_66 : n0 ≤ T9.heap.size := (Nat.le_trans Zs_10 K9.1)
      have Ex_67 : Exa Z T9.heap b2 "com/example/mapcodex/mapcodex/osm/LongList" := (Ex_11.keep K9)
      exact B54_1 T9 _ _ (X9.more (cells' := 3) (slots' := 146) (by decide) (by decide)) rfl b2 b5 z15_s0 z905_n z905_u N9 Zs_66 Ex_67 Fv9 Fm9 Fs9 Ar9 ne5 ge_b5 ge_b2 bd5
  show Fini p e below s (fun v h' L => v = some (.int 1) ∧ Fr n0 L) _ _ s₁ (entryFrame m #[(.int p0), (.int p1), (.int p2), (.long q3), (.long q4), (.long q5)] maxLocals)
  refine Fini.cast (ef0 m p0 p1 p2 q3 q4 q5) ?_
  show Fini p e below s _ _ _ s₁ (mkF m 0 #[.val (.int p0), .val (.int p1), .val (.int p2), .val (.long q3), .second, .val (.long q4), .second, .val (.long q5), .second, .unset, .unset, .unset, .unset] [])
  refine Fini.st (fun _ k => XS.iloadN X0.here hx rfl (hb hby at_0) rfl k) ?_
  show Fini p e below s _ _ _ s₁ (mkF m 1 #[.val (.int p0), .val (.int p1), .val (.int p2), .val (.long q3), .second, .val (.long q4), .second, .val (.long q5), .second, .unset, .unset, .unset, .unset] [(.int p2)])
  refine Fini.st (fun _ k => XS.bipush X0.here hx rfl (hb hby at_1) k) ?_
  show Fini p e below s _ _ _ s₁ (mkF m 3 #[.val (.int p0), .val (.int p1), .val (.int p2), .val (.long q3), .second, .val (.long q4), .second, .val (.long q5), .second, .unset, .unset, .unset, .unset] [(.int (8 : Int32)), (.int p2)])
  refine Fini.st (fun _ k => XS.iand X0.here hx rfl (hb hby at_3) rfl k) ?_
  show Fini p e below s _ _ _ s₁ (mkF m 4 #[.val (.int p0), .val (.int p1), .val (.int p2), .val (.long q3), .second, .val (.long q4), .second, .val (.long q5), .second, .unset, .unset, .unset, .unset] [(.int (p2 &&& (8 : Int32)))])
  by_cases c1 : (p2 &&& (8 : Int32)) = (0 : Int32)
  · skip
    refine Fini.st (fun _ k => XS.ifYes X0.here hx rfl (pc0 := 4) (pc' := 11) rfl (hb hby at_4) rfl (XT.i0_eq_t c1) (by decide) (by decide) k) ?_
    show Fini p e below s _ _ _ s₁ (mkF m 11 #[.val (.int p0), .val (.int p1), .val (.int p2), .val (.long q3), .second, .val (.long q4), .second, .val (.long q5), .second, .unset, .unset, .unset, .unset] [])
    refine Fini.st (fun _ k => XS.iloadN X0.here hx rfl (hb hby at_11) rfl k) ?_
    show Fini p e below s _ _ _ s₁ (mkF m 12 #[.val (.int p0), .val (.int p1), .val (.int p2), .val (.long q3), .second, .val (.long q4), .second, .val (.long q5), .second, .unset, .unset, .unset, .unset] [(.int p0)])
    refine Fini.st (fun _ k => XS.bipush X0.here hx rfl (hb hby at_12) k) ?_
    show Fini p e below s _ _ _ s₁ (mkF m 14 #[.val (.int p0), .val (.int p1), .val (.int p2), .val (.long q3), .second, .val (.long q4), .second, .val (.long q5), .second, .unset, .unset, .unset, .unset] [(.int (63 : Int32)), (.int p0)])
    refine Fini.st (fun _ k => XS.iand X0.here hx rfl (hb hby at_14) rfl k) ?_
    show Fini p e below s _ _ _ s₁ (mkF m 15 #[.val (.int p0), .val (.int p1), .val (.int p2), .val (.long q3), .second, .val (.long q4), .second, .val (.long q5), .second, .unset, .unset, .unset, .unset] [(.int (p0 &&& (63 : Int32)))])
    exact B15 s₁ _ _ (X0.more (cells' := 0) (slots' := 0) (by decide) (by decide)) e0 (p0 &&& (63 : Int32)) N0 Z0
  · skip
    refine Fini.st (fun _ k => XS.ifNo X0.here hx rfl (hb hby at_4) rfl (XT.i0_eq_f c1) k) ?_
    show Fini p e below s _ _ _ s₁ (mkF m 7 #[.val (.int p0), .val (.int p1), .val (.int p2), .val (.long q3), .second, .val (.long q4), .second, .val (.long q5), .second, .unset, .unset, .unset, .unset] [])
    refine Fini.st (fun _ k => XS.iloadN X0.here hx rfl (hb hby at_7) rfl k) ?_
    show Fini p e below s _ _ _ s₁ (mkF m 8 #[.val (.int p0), .val (.int p1), .val (.int p2), .val (.long q3), .second, .val (.long q4), .second, .val (.long q5), .second, .unset, .unset, .unset, .unset] [(.int p0)])
    refine Fini.st (fun _ k => XS.goto X0.here hx rfl (pc0 := 8) (pc' := 15) rfl (hb hby at_8) (by decide) (by decide) k) ?_
    show Fini p e below s _ _ _ s₁ (mkF m 15 #[.val (.int p0), .val (.int p1), .val (.int p2), .val (.long q3), .second, .val (.long q4), .second, .val (.long q5), .second, .unset, .unset, .unset, .unset] [(.int p0)])
    exact B15 s₁ _ _ (X0.more (cells' := 0) (slots' := 0) (by decide) (by decide)) e0 p0 N0 Z0
theorem own_law (i0 i1 i2 : Int32) (i3 i4 i5 : Int64) : (1 : Int32) = 1 := rfl

set_option maxRecDepth 65536 in
set_option maxHeartbeats 40000000 in
theorem comes_1 {Post : Tables → Env → Array Value → State → Outcome → State → Prop} (hpost : ∀ tb e args s v u, (limb_1_1.after args s (.returned v) u = true ∧ limb_1_2.after args s (.returned v) u = true ∧ True) → FrameEnd s (.returned v) u (Jvm.fieldLocs frame_1_writes args s ++ Jvm.arrayLocs frame_1_arrays args s ++ Jvm.staticLocs frame_1_statics s) 16 448 → Post tb e args s (.returned v) u) :
    ArmFor flags0 classFile x code maxLocals ret World_1 tables_1 room_1 Calls_1 rest_1 Pre_1 Post := by
  intro l hfl _ _ p e ha hc hk s m args below hf hA hF happ hP
  obtain ⟨hcalls, hrest, hpre⟩ := hP
  obtain ⟨-, -, -, hnamed, -, -, -, hat⟩ := (Spec.applies_iff hf).mp happ
  obtain ⟨hg, hn⟩ := and_e (Cond.before_iff.mp (show (Jvm.Cond.and given_1 narrow_1).before args s = true from hpre))
  obtain ⟨g1, g2⟩ := and_e hg
  obtain ⟨g3, g4⟩ := and_e g2
  obtain ⟨g5, g6⟩ := and_e g4
  obtain ⟨g7, g8⟩ := and_e g6
  obtain ⟨g9, g10⟩ := and_e g8
  obtain ⟨g11, g12⟩ := and_e g10
  obtain ⟨w0, w1, w2, w3, w4, w5, rfl⟩ : ∃ w0 w1 w2 w3 w4 w5 : Value, args = #[w0, w1, w2, w3, w4, w5] := by
    have hs : args.size = 6 := by simpa [Cond.value, given_1] using g1
    obtain ⟨L⟩ := args
    match L, hs with
    | [w0, w1, w2, w3, w4, w5], _ => exact ⟨w0, w1, w2, w3, w4, w5, rfl⟩
  have hw := fun d (hd : d ∈ tables_1) => atoms_spec (ws := Jvm.Cond.code x code maxLocals ret :: tables_1) hat d (List.mem_cons_of_mem _ hd)
  have hfit : Fit s := fun {y c} hc i hi => by
    obtain ⟨ha, rfl⟩ := Array.getElem?_eq_some_iff.mp hc
    have q := List.all_eq_true.mp ((Array.all_eq_true_iff_forall_mem.mp hF) _ (Array.getElem_mem ha)) i (List.mem_range.mpr hi)
    simpa [Array.getElem?_eq_getElem hi] using q
  obtain ⟨i0, ei0⟩ := is_v g3
  obtain rfl : w0 = (.int i0) := Option.some.inj ei0
  obtain ⟨i1, ei1⟩ := is_v g5
  obtain rfl : w1 = (.int i1) := Option.some.inj ei1
  obtain ⟨i2, ei2⟩ := is_v g7
  obtain rfl : w2 = (.int i2) := Option.some.inj ei2
  obtain ⟨i3, ei3⟩ := isL_v g9
  obtain rfl : w3 = (.long i3) := Option.some.inj ei3
  obtain ⟨i4, ei4⟩ := isL_v g11
  obtain rfl : w4 = (.long i4) := Option.some.inj ei4
  obtain ⟨i5, ei5⟩ := isL_v g12
  obtain rfl : w5 = (.long i5) := Option.some.inj ei5
  obtain ⟨n, o, h1, h2, h3, v, L, rfl, ⟨rfl, N⟩, hq⟩ := rm0 l s _ hw tables_1 i0 i1 i2 i3 i4 i5 s.heap s.heap.size (Nat.le_refl _) p e ha hc hk s m _ below hf ((Spec.applies_iff_loose hf).mp happ).1 ⟨rfl, State.Warmed39.refl s, rfl⟩ trivial
  refine ⟨n, _, h1, h2, h3, hpost _ _ _ _ _ _ ⟨Cond.after_iff.mpr rfl, Cond.after_iff.mpr (eq_i res_at (Term.int_eval (1)) (congrArg Value.int (own_law i0 i1 i2 i3 i4 i5))), trivial⟩ ⟨hq.1, hq.2.1, (hq.2.2.sift fun y hy => Or.inr (N y hy)).mono (by decide) (by decide)⟩⟩
theorem main_1_1 : Claimed_1_1 := comes_1 fun _ _ _ _ _ _ h hF => ⟨h.1, hF⟩
theorem main_1_2 : Claimed_1_2 := comes_1 fun _ _ _ _ _ _ h hF => ⟨h.2.1, hF⟩
end Jvm.Pilot.@@N@@
namespace Jvm.Pilot.@@N@@
open Jvm Jvm.ClassFile Sem Op Lib Jvm.Free Jvm.Stand Jvm.Pilot.@@N@@.Jvm.D
/-! MADE BY PROGRAM (witnessworld.py) out of the Statement's table words and the real class files: 13 classes; the members and pool entries that the words name. The judged class is class 1, her method 1. -/
namespace start1
open Jvm.ClassFile
def u (s : String) : CpInfo := .utf8 (stringToUtf16 s)
/-- a pool by its gaps: so many unusable entries, then the entry; so many at the end -/
def gap : Nat → List CpInfo → List CpInfo
  | 0, r => r
  | n + 1, r => .unusable :: gap n r
def poolList (es : List (Nat × CpInfo)) (last : Nat) : List CpInfo := es.foldr (fun e r => gap e.1 (e.2 :: r)) (gap last [])
def pool (es : List (Nat × CpInfo)) (last : Nat) : Array CpInfo := ⟨poolList es last⟩
def fileOf (pool : Array CpInfo) (this : Nat) (attrs : Array Attribute := #[]) (ms : Array MethodInfo := #[]) (fl : Nat := 33) (sup : Nat := 0) (ifs : Array Nat := #[]) (fds : Array FieldInfo := #[]) : ClassFile where
  minorVersion := 0
  majorVersion := 65
  constantPool := pool
  accessFlags := fl
  thisClass := this
  superClass := sup
  interfaces := ifs
  fields := fds
  methods := ms
  attributes := attrs
def plain (name : String) (sup : Option ClassId) : Class where
  name := name
  kind := .ordinary
  loader := none
  accessFlags := 33
  super := sup
  interfaces := #[]
  cf := none
  fields := #[]
  methods := #[]
  instanceTypes := #[]
  staticTypes := #[]
  resolved := #[]
  callSites := []
  init := .initialized
  statics := none
  mirror := none

def pool0 : Array CpInfo := pool [(5, u "<init>"), (0, u "()V"), (1, .class_ 10), (1, u "java/lang/Object")] 113

def k0c0 : Code := { maxStack := 0, maxLocals := 1, code := object_method_1_code, exceptionTable := #[], attributes := #[] }
def k0m0 : Method := { name := "<init>", desc := "()V", sig := { parameters := [], returnType := none }, accessFlags := 1, code := some k0c0 }
/-- java/lang/Object -/
def k0 : Class := { plain "java/lang/Object" none with
  accessFlags := 33
  interfaces := #[]
  cf := some (fileOf pool0 8 #[] #[{ accessFlags := 1, nameIndex := 5, descriptorIndex := 6, attributes := #[] }] 33 0 #[] #[])
  fields := #[]
  methods := #[k0m0]
  instanceTypes := #[]
  staticTypes := #[]
  resolved := Array.replicate 124 none
  statics := none }

def pool1 : Array CpInfo := pool [(2, .class_ 4), (1, u "java/lang/Object"), (0, u "<init>"), (0, u "()V"), (0, .class_ 8), (0, u "com/example/mapcodex/mapcodex/osm/LongList"), (0, .methodref 7 10), (0, .nameAndType 5 11), (0, u "(I)V"), (0, .methodref 7 13), (0, .nameAndType 14 11), (0, u "reserve"), (0, .methodref 7 16), (0, .nameAndType 17 18), (0, u "add"), (0, u "(J)V"), (0, .methodref 7 20), (0, .nameAndType 21 6), (0, u "clear"), (0, .methodref 7 23), (0, .nameAndType 24 25), (0, u "size"), (0, u "()I"), (0, .methodref 7 27), (0, .nameAndType 28 29), (0, u "get"), (0, u "(I)J"), (0, .class_ 31), (0, u "com/example/mapcodex/mapcodex/osm/LongListClearPinLaw"), (2, u "law"), (0, u "(IIIJJJ)Z")] 3

def k1m0 : Method := { name := "<init>", desc := "()V", sig := { parameters := [], returnType := none }, accessFlags := 1, code := none }
def k1c1 : Code := { maxStack := 4, maxLocals := 13, code := code, exceptionTable := #[], attributes := #[] }
def k1m1 : Method := { name := "law", desc := "(IIIJJJ)Z", sig := { parameters := [.int, .int, .int, .long, .long, .long], returnType := some .boolean }, accessFlags := 9, code := some k1c1 }
/-- com/example/mapcodex/mapcodex/osm/LongListClearPinLaw -/
def k1 : Class := { plain "com/example/mapcodex/mapcodex/osm/LongListClearPinLaw" (some 0) with
  accessFlags := 49
  interfaces := #[]
  cf := some (fileOf pool1 30 #[] #[{ accessFlags := 1, nameIndex := 5, descriptorIndex := 6, attributes := #[] }, { accessFlags := 9, nameIndex := 34, descriptorIndex := 35, attributes := #[] }] 49 2 #[] #[])
  fields := #[]
  methods := #[k1m0, k1m1]
  instanceTypes := #[]
  staticTypes := #[]
  resolved := Array.replicate 39 none
  statics := none }

def pool2 : Array CpInfo := pool [(1, .class_ 2), (0, u "com/example/mapcodex/mapcodex/osm/LongList"), (3, u "<init>"), (0, u "(I)V"), (0, .methodref 9 10), (0, .class_ 11), (0, .nameAndType 6 12), (0, u "java/lang/Object"), (0, u "()V"), (0, .fieldref 1 14), (0, .nameAndType 15 16), (0, u "values"), (0, u "[J"), (0, .fieldref 1 18), (0, .nameAndType 19 20), (0, u "maxKeptRoom"), (0, u "I"), (0, .fieldref 1 22), (0, .nameAndType 23 20), (0, u "size"), (0, .methodref 1 25), (0, .nameAndType 26 7), (0, u "reserve"), (5, u "(II)I"), (6, .methodref 40 41), (0, .class_ 42), (0, .nameAndType 43 32), (0, u "java/util/Objects"), (0, u "checkIndex"), (0, u "INITIAL_ROOM"), (2, u "MAX_KEPT_ROOM"), (2, u "add"), (0, u "(J)V"), (4, u "()I"), (0, u "get"), (0, u "(I)J"), (0, u "clear")] 4

def k2m0 : Method := { name := "<init>", desc := "()V", sig := { parameters := [], returnType := none }, accessFlags := 1, code := none }
def k2c1 : Code := { maxStack := 2, maxLocals := 2, code := prog_22_method_2_code, exceptionTable := #[], attributes := #[] }
def k2m1 : Method := { name := "<init>", desc := "(I)V", sig := { parameters := [.int], returnType := none }, accessFlags := 1, code := some k2c1 }
def k2c2 : Code := { maxStack := 5, maxLocals := 3, code := prog_22_method_3_code, exceptionTable := #[], attributes := #[] }
def k2m2 : Method := { name := "add", desc := "(J)V", sig := { parameters := [.long], returnType := none }, accessFlags := 1, code := some k2c2 }
def k2c3 : Code := { maxStack := 5, maxLocals := 2, code := prog_22_method_4_code, exceptionTable := #[], attributes := #[] }
def k2m3 : Method := { name := "reserve", desc := "(I)V", sig := { parameters := [.int], returnType := none }, accessFlags := 1, code := some k2c3 }
def k2c4 : Code := { maxStack := 1, maxLocals := 1, code := prog_22_method_6_code, exceptionTable := #[], attributes := #[] }
def k2m4 : Method := { name := "size", desc := "()I", sig := { parameters := [], returnType := some .int }, accessFlags := 1, code := some k2c4 }
def k2c5 : Code := { maxStack := 2, maxLocals := 2, code := prog_22_method_7_code, exceptionTable := #[], attributes := #[] }
def k2m5 : Method := { name := "get", desc := "(I)J", sig := { parameters := [.int], returnType := some .long }, accessFlags := 1, code := some k2c5 }
def k2c6 : Code := { maxStack := 2, maxLocals := 1, code := prog_22_method_8_code, exceptionTable := #[], attributes := #[] }
def k2m6 : Method := { name := "clear", desc := "()V", sig := { parameters := [], returnType := none }, accessFlags := 1, code := some k2c6 }
/-- com/example/mapcodex/mapcodex/osm/LongList -/
def k2 : Class := { plain "com/example/mapcodex/mapcodex/osm/LongList" (some 0) with
  accessFlags := 49
  interfaces := #[]
  cf := some (fileOf pool2 1 #[] #[{ accessFlags := 1, nameIndex := 6, descriptorIndex := 12, attributes := #[] }, { accessFlags := 1, nameIndex := 6, descriptorIndex := 7, attributes := #[] }, { accessFlags := 1, nameIndex := 50, descriptorIndex := 51, attributes := #[] }, { accessFlags := 1, nameIndex := 26, descriptorIndex := 7, attributes := #[] }, { accessFlags := 1, nameIndex := 23, descriptorIndex := 56, attributes := #[] }, { accessFlags := 1, nameIndex := 57, descriptorIndex := 58, attributes := #[] }, { accessFlags := 1, nameIndex := 59, descriptorIndex := 12, attributes := #[] }] 49 9 #[] #[{ accessFlags := 26, nameIndex := 44, descriptorIndex := 20, attributes := #[] }, { accessFlags := 26, nameIndex := 47, descriptorIndex := 20, attributes := #[] }, { accessFlags := 18, nameIndex := 19, descriptorIndex := 20, attributes := #[] }, { accessFlags := 2, nameIndex := 15, descriptorIndex := 16, attributes := #[] }, { accessFlags := 2, nameIndex := 23, descriptorIndex := 20, attributes := #[] }])
  fields := #[{ name := "INITIAL_ROOM", type := .int, accessFlags := 26, slot := 0, constantValue := 0 }, { name := "MAX_KEPT_ROOM", type := .int, accessFlags := 26, slot := 1, constantValue := 0 }, { name := "maxKeptRoom", type := .int, accessFlags := 18, slot := 0, constantValue := 0 }, { name := "values", type := (.array .long), accessFlags := 2, slot := 1, constantValue := 0 }, { name := "size", type := .int, accessFlags := 2, slot := 2, constantValue := 0 }]
  methods := #[k2m0, k2m1, k2m2, k2m3, k2m4, k2m5, k2m6]
  instanceTypes := #[.int, (.array .long), .int]
  staticTypes := #[.int, .int]
  resolved := Array.replicate 64 none
  statics := none }

def pool3 : Array CpInfo := pool [(2, .class_ 4), (1, u "java/lang/Object"), (0, u "<init>"), (0, u "()V"), (35, .class_ 44), (1, u "java/util/Objects"), (60, .methodref 106 107), (0, .class_ 108), (0, .nameAndType 109 110), (0, u "jdk/internal/util/Preconditions"), (0, u "checkIndex"), (0, u "(IILjava/util/function/BiFunction;)I"), (60, u "(II)I")] 12

def k3m0 : Method := { name := "<init>", desc := "()V", sig := { parameters := [], returnType := none }, accessFlags := 2, code := none }
def k3c1 : Code := { maxStack := 3, maxLocals := 2, code := jdk_31_method_17_code, exceptionTable := #[], attributes := #[] }
def k3m1 : Method := { name := "checkIndex", desc := "(II)I", sig := { parameters := [.int, .int], returnType := some .int }, accessFlags := 9, code := some k3c1 }
/-- java/util/Objects -/
def k3 : Class := { plain "java/util/Objects" (some 0) with
  accessFlags := 49
  interfaces := #[]
  cf := some (fileOf pool3 42 #[] #[{ accessFlags := 2, nameIndex := 5, descriptorIndex := 6, attributes := #[] }, { accessFlags := 9, nameIndex := 109, descriptorIndex := 171, attributes := #[] }] 49 2 #[] #[])
  fields := #[]
  methods := #[k3m0, k3m1]
  instanceTypes := #[]
  staticTypes := #[]
  resolved := Array.replicate 184 none
  statics := none }

def pool4 : Array CpInfo := pool [(2, .class_ 4), (1, u "java/lang/Object"), (0, u "<init>"), (0, u "()V"), (17, .class_ 26), (1, u "jdk/internal/util/Preconditions"), (6, u "checkIndex"), (21, .class_ 56), (0, u "jdk/internal/util/Preconditions$4"), (57, .class_ 115), (0, u "jdk/internal/util/Preconditions$1"), (7, u "SIOOBE_FORMATTER"), (0, u "Ljava/util/function/BiFunction;"), (0, .class_ 126), (0, u "jdk/internal/util/Preconditions$2"), (3, u "AIOOBE_FORMATTER"), (0, .class_ 132), (0, u "jdk/internal/util/Preconditions$3"), (3, u "IOOBE_FORMATTER"), (41, u "(IILjava/util/function/BiFunction;)I")] 15

def k4m0 : Method := { name := "<init>", desc := "()V", sig := { parameters := [], returnType := none }, accessFlags := 1, code := none }
def k4c1 : Code := { maxStack := 3, maxLocals := 3, code := jdk_41_method_11_code, exceptionTable := #[], attributes := #[] }
def k4m1 : Method := { name := "checkIndex", desc := "(IILjava/util/function/BiFunction;)I", sig := { parameters := [.int, .int, (.object "java/util/function/BiFunction")], returnType := some .int }, accessFlags := 9, code := some k4c1 }
/-- jdk/internal/util/Preconditions -/
def k4 : Class := { plain "jdk/internal/util/Preconditions" (some 0) with
  accessFlags := 33
  interfaces := #[]
  cf := some (fileOf pool4 24 #[.nestMembers #[55, 131, 125, 114]] #[{ accessFlags := 1, nameIndex := 5, descriptorIndex := 6, attributes := #[] }, { accessFlags := 9, nameIndex := 33, descriptorIndex := 178, attributes := #[] }] 33 2 #[] #[{ accessFlags := 25, nameIndex := 123, descriptorIndex := 124, attributes := #[] }, { accessFlags := 25, nameIndex := 130, descriptorIndex := 124, attributes := #[] }, { accessFlags := 25, nameIndex := 136, descriptorIndex := 124, attributes := #[] }])
  fields := #[{ name := "SIOOBE_FORMATTER", type := (.object "java/util/function/BiFunction"), accessFlags := 25, slot := 0, constantValue := 0 }, { name := "AIOOBE_FORMATTER", type := (.object "java/util/function/BiFunction"), accessFlags := 25, slot := 1, constantValue := 0 }, { name := "IOOBE_FORMATTER", type := (.object "java/util/function/BiFunction"), accessFlags := 25, slot := 2, constantValue := 0 }]
  methods := #[k4m0, k4m1]
  instanceTypes := #[]
  staticTypes := #[(.object "java/util/function/BiFunction"), (.object "java/util/function/BiFunction"), (.object "java/util/function/BiFunction")]
  resolved := Array.replicate 194 none
  statics := none }

def pool5 : Array CpInfo := pool [(1, u "java/lang/Cloneable"), (0, .class_ 1), (0, u "java/lang/Object"), (0, .class_ 3)] 3

/-- java/lang/Cloneable -/
def k5 : Class := { plain "java/lang/Cloneable" (some 0) with
  accessFlags := 1537
  interfaces := #[]
  cf := some (fileOf pool5 2 #[] #[] 1537 4 #[] #[])
  fields := #[]
  methods := #[]
  instanceTypes := #[]
  staticTypes := #[]
  resolved := Array.replicate 8 none
  statics := none }

def pool6 : Array CpInfo := pool [(1, u "java/io/Serializable"), (0, .class_ 1), (0, u "java/lang/Object"), (0, .class_ 3)] 3

/-- java/io/Serializable -/
def k6 : Class := { plain "java/io/Serializable" (some 0) with
  accessFlags := 1537
  interfaces := #[]
  cf := some (fileOf pool6 2 #[] #[] 1537 4 #[] #[])
  fields := #[]
  methods := #[]
  instanceTypes := #[]
  staticTypes := #[]
  resolved := Array.replicate 8 none
  statics := none }

/-- the primitive byte -/
def k7 : Class := { plain "byte" none with kind := .primitive 'B', accessFlags := 0x411 }
/-- [B -/
def k8 : Class := { plain "[B" (some 0) with kind := .array 7 .byte, interfaces := #[5, 6], accessFlags := 1041 }

/-- the primitive int -/
def k9 : Class := { plain "int" none with kind := .primitive 'I', accessFlags := 0x411 }
/-- [I -/
def k10 : Class := { plain "[I" (some 0) with kind := .array 9 .int, interfaces := #[5, 6], accessFlags := 1041 }

/-- the primitive long -/
def k11 : Class := { plain "long" none with kind := .primitive 'J', accessFlags := 0x411 }
/-- [J -/
def k12 : Class := { plain "[J" (some 0) with kind := .array 11 .long, interfaces := #[5, 6], accessFlags := 1041 }

def heap : Heap := #[]
def classes : Array Class := #[k0, k1, k2, k3, k4, k5, k6, k7, k8, k9, k10, k11, k12]
def interned : List (Array UInt16 × Addr) := []
def slotsUsed : Nat := 0
def theMethod : MethodId := ⟨1, 1⟩
def args0 : Array Value := #[.int 5, .int 7, .int 3, .long 2, .long 4, .long 9]
def aboutOver (below : List Frame) : State where
  vm := { classes := classes, interned := interned.toArray }
  heap := heap
  slotsUsed := slotsUsed
  threads := #[{ frames := .invoking theMethod args0 :: below }]
def below0 : List Frame := [.native { method := ⟨0, 0⟩, args := #[] }]
def about1 : State := aboutOver below0
def p0 : Program := .bare "" "" ""
def e0 : Env := launch0.env 0 0 0
theorem w_frames : about1.frames = Frame.invoking theMethod args0 :: below0 := rfl
set_option maxRecDepth 65536 in
theorem w_args : argsFit about1.vm theMethod args0 = true := by decide +kernel
set_option maxRecDepth 65536 in
theorem w_heap : heapFits about1 = true := by decide +kernel
set_option maxRecDepth 65536 in
theorem w_runnable : about1.curStatus? = some .runnable := by decide +kernel
set_option maxRecDepth 65536 in
theorem w_alone : about1.alone = true := by decide +kernel
set_option maxRecDepth 65536 in
theorem w_named : about1.methodNamed? x = some theMethod := by decide +kernel
set_option maxRecDepth 65536 in
theorem w_hears : about1.hears theMethod below0 = true := by decide +kernel
set_option maxRecDepth 65536 in
theorem w_ripe : about1.ripe theMethod args0 below0 = true := by decide +kernel
theorem w_running : about1.status = .running := rfl
set_option maxRecDepth 65536 in
theorem w_room : about1.hasRoom e0.platform room_1 = true :=
  launch0.hasRoom_least _ room_1 (by decide +kernel) (by decide +kernel) (by decide +kernel) (by decide +kernel) (by decide +kernel) (by decide +kernel)
theorem allAtoms_all (ts : List Jvm.Cond) (a : Array Jvm.Value) (st : Jvm.State) : (allAtoms ts).before a st = ts.all (fun c => c.before a st) := by
  induction ts with
  | nil => rfl
  | cons c t ih =>
    show (Jvm.Cond.and c (allAtoms t)).before a st = _
    rw [Jvm.Cond.before_and, ih, List.all_cons]
def words1 : List Jvm.Cond := Jvm.Cond.code x code maxLocals ret :: tables_1
/-- a 'code' word, met by the world's own term for the bytes: nothing is compared byte by byte -/
theorem code_word {y : MethodName} {bytes : ByteArray} {mx : Nat} {rt : Option FieldType} {a : Array Value} {s : State} {m : MethodId} {meth : Method} {c : Code} (h1 : s.methodNamed? y = some m) (h2 : s.vm.method? m = some meth) (h3 : meth.code = some c) (h4 : c.code = bytes)
    (h5 : (c.maxLocals == mx && c.exceptionTable.isEmpty && decide (c.maxStack ≤ mostOperands) && decide (meth.sig.returnType = rt) && !meth.locks && decide (parseMethodDescriptor y.desc = some meth.sig)) = true) : (Jvm.Cond.code y bytes mx rt).before a s = true := by
  simp only [Bool.and_eq_true, beq_iff_eq, Bool.not_eq_true', decide_eq_true_eq] at h5
  obtain ⟨⟨⟨⟨⟨g1, g2⟩, g3⟩, g4⟩, g5⟩, g6⟩ := h5
  simp [Cond.before, Cond.holds, Cond.value, h1, h2, h3, h4, g1, g2, g3, g4, g5, g6]
def isCode : Jvm.Cond → Bool
  | .code _ _ _ _ => true
  | _ => false
theorem all_split {L : List Jvm.Cond} {P : Jvm.Cond → Bool} (h1 : L.all (fun c => isCode c || P c) = true) (h2 : ∀ c ∈ L.filter isCode, P c = true) : L.all P = true := by
  refine List.all_eq_true.mpr fun c hc => ?_
  have h := List.all_eq_true.mp h1 c hc
  rcases Bool.eq_false_or_eq_true (isCode c) with hi | hi
  · exact h2 c (List.mem_filter.mpr ⟨hc, hi⟩)
  · simpa [hi] using h
set_option maxRecDepth 65536 in
theorem w_c0 : (Jvm.Cond.code x code maxLocals ret).before args0 about1 = true := code_word (m := ⟨1, 1⟩) (meth := k1m1) (c := k1c1) (by decide +kernel) rfl rfl rfl (by decide +kernel)
set_option maxRecDepth 65536 in
theorem w_c1 : (Jvm.Cond.code ({ cls := "com/example/mapcodex/mapcodex/osm/LongList", name := "<init>", desc := "(I)V" } : Jvm.MethodName) prog_22_method_2_code (2 : Nat) (Option.none : Option Jvm.ClassFile.FieldType)).before args0 about1 = true := code_word (m := ⟨2, 1⟩) (meth := k2m1) (c := k2c1) (by decide +kernel) rfl rfl rfl (by decide +kernel)
set_option maxRecDepth 65536 in
theorem w_c2 : (Jvm.Cond.code ({ cls := "java/lang/Object", name := "<init>", desc := "()V" } : Jvm.MethodName) object_method_1_code (1 : Nat) (Option.none : Option Jvm.ClassFile.FieldType)).before args0 about1 = true := code_word (m := ⟨0, 0⟩) (meth := k0m0) (c := k0c0) (by decide +kernel) rfl rfl rfl (by decide +kernel)
set_option maxRecDepth 65536 in
theorem w_c3 : (Jvm.Cond.code ({ cls := "com/example/mapcodex/mapcodex/osm/LongList", name := "reserve", desc := "(I)V" } : Jvm.MethodName) prog_22_method_4_code (2 : Nat) (Option.none : Option Jvm.ClassFile.FieldType)).before args0 about1 = true := code_word (m := ⟨2, 3⟩) (meth := k2m3) (c := k2c3) (by decide +kernel) rfl rfl rfl (by decide +kernel)
set_option maxRecDepth 65536 in
theorem w_c4 : (Jvm.Cond.code ({ cls := "com/example/mapcodex/mapcodex/osm/LongList", name := "add", desc := "(J)V" } : Jvm.MethodName) prog_22_method_3_code (3 : Nat) (Option.none : Option Jvm.ClassFile.FieldType)).before args0 about1 = true := code_word (m := ⟨2, 2⟩) (meth := k2m2) (c := k2c2) (by decide +kernel) rfl rfl rfl (by decide +kernel)
set_option maxRecDepth 65536 in
theorem w_c5 : (Jvm.Cond.code ({ cls := "com/example/mapcodex/mapcodex/osm/LongList", name := "clear", desc := "()V" } : Jvm.MethodName) prog_22_method_8_code (1 : Nat) (Option.none : Option Jvm.ClassFile.FieldType)).before args0 about1 = true := code_word (m := ⟨2, 6⟩) (meth := k2m6) (c := k2c6) (by decide +kernel) rfl rfl rfl (by decide +kernel)
set_option maxRecDepth 65536 in
theorem w_c6 : (Jvm.Cond.code ({ cls := "com/example/mapcodex/mapcodex/osm/LongList", name := "size", desc := "()I" } : Jvm.MethodName) prog_22_method_6_code (1 : Nat) (Option.some Jvm.ClassFile.FieldType.int)).before args0 about1 = true := code_word (m := ⟨2, 4⟩) (meth := k2m4) (c := k2c4) (by decide +kernel) rfl rfl rfl (by decide +kernel)
set_option maxRecDepth 65536 in
theorem w_c7 : (Jvm.Cond.code ({ cls := "com/example/mapcodex/mapcodex/osm/LongList", name := "get", desc := "(I)J" } : Jvm.MethodName) prog_22_method_7_code (2 : Nat) (Option.some Jvm.ClassFile.FieldType.long)).before args0 about1 = true := code_word (m := ⟨2, 5⟩) (meth := k2m5) (c := k2c5) (by decide +kernel) rfl rfl rfl (by decide +kernel)
set_option maxRecDepth 65536 in
theorem w_c8 : (Jvm.Cond.code ({ cls := "java/util/Objects", name := "checkIndex", desc := "(II)I" } : Jvm.MethodName) jdk_31_method_17_code (2 : Nat) (Option.some Jvm.ClassFile.FieldType.int)).before args0 about1 = true := code_word (m := ⟨3, 1⟩) (meth := k3m1) (c := k3c1) (by decide +kernel) rfl rfl rfl (by decide +kernel)
set_option maxRecDepth 65536 in
theorem w_c9 : (Jvm.Cond.code ({ cls := "jdk/internal/util/Preconditions", name := "checkIndex", desc := "(IILjava/util/function/BiFunction;)I" } : Jvm.MethodName) jdk_41_method_11_code (3 : Nat) (Option.some Jvm.ClassFile.FieldType.int)).before args0 about1 = true := code_word (m := ⟨4, 1⟩) (meth := k4m1) (c := k4c1) (by decide +kernel) rfl rfl rfl (by decide +kernel)
def codes1 : List Jvm.Cond := [Jvm.Cond.code x code maxLocals ret, Jvm.Cond.code ({ cls := "com/example/mapcodex/mapcodex/osm/LongList", name := "<init>", desc := "(I)V" } : Jvm.MethodName) prog_22_method_2_code (2 : Nat) (Option.none : Option Jvm.ClassFile.FieldType), Jvm.Cond.code ({ cls := "java/lang/Object", name := "<init>", desc := "()V" } : Jvm.MethodName) object_method_1_code (1 : Nat) (Option.none : Option Jvm.ClassFile.FieldType), Jvm.Cond.code ({ cls := "com/example/mapcodex/mapcodex/osm/LongList", name := "reserve", desc := "(I)V" } : Jvm.MethodName) prog_22_method_4_code (2 : Nat) (Option.none : Option Jvm.ClassFile.FieldType), Jvm.Cond.code ({ cls := "com/example/mapcodex/mapcodex/osm/LongList", name := "add", desc := "(J)V" } : Jvm.MethodName) prog_22_method_3_code (3 : Nat) (Option.none : Option Jvm.ClassFile.FieldType), Jvm.Cond.code ({ cls := "com/example/mapcodex/mapcodex/osm/LongList", name := "clear", desc := "()V" } : Jvm.MethodName) prog_22_method_8_code (1 : Nat) (Option.none : Option Jvm.ClassFile.FieldType), Jvm.Cond.code ({ cls := "com/example/mapcodex/mapcodex/osm/LongList", name := "size", desc := "()I" } : Jvm.MethodName) prog_22_method_6_code (1 : Nat) (Option.some Jvm.ClassFile.FieldType.int), Jvm.Cond.code ({ cls := "com/example/mapcodex/mapcodex/osm/LongList", name := "get", desc := "(I)J" } : Jvm.MethodName) prog_22_method_7_code (2 : Nat) (Option.some Jvm.ClassFile.FieldType.long), Jvm.Cond.code ({ cls := "java/util/Objects", name := "checkIndex", desc := "(II)I" } : Jvm.MethodName) jdk_31_method_17_code (2 : Nat) (Option.some Jvm.ClassFile.FieldType.int), Jvm.Cond.code ({ cls := "jdk/internal/util/Preconditions", name := "checkIndex", desc := "(IILjava/util/function/BiFunction;)I" } : Jvm.MethodName) jdk_41_method_11_code (3 : Nat) (Option.some Jvm.ClassFile.FieldType.int)]
set_option maxRecDepth 65536 in
theorem codes_eq : words1.filter isCode = codes1 := rfl
theorem w_codes : ∀ c ∈ words1.filter isCode, c.before args0 about1 = true := by
  rw [codes_eq]
  intro c hc
  simp only [codes1, List.mem_cons, List.not_mem_nil, or_false] at hc
  rcases hc with rfl | rfl | rfl | rfl | rfl | rfl | rfl | rfl | rfl | rfl
  · exact w_c0
  · exact w_c1
  · exact w_c2
  · exact w_c3
  · exact w_c4
  · exact w_c5
  · exact w_c6
  · exact w_c7
  · exact w_c8
  · exact w_c9
set_option maxRecDepth 65536 in
theorem w_t1 : (words1.take 24).all (fun c => isCode c || c.before args0 about1) = true := by decide +kernel
set_option maxRecDepth 65536 in
theorem w_t2 : ((words1.drop 24).take 24).all (fun c => isCode c || c.before args0 about1) = true := by decide +kernel
set_option maxRecDepth 65536 in
theorem w_t3 : ((words1.drop 24).drop 24).all (fun c => isCode c || c.before args0 about1) = true := by decide +kernel
theorem w_tables : (allAtoms (Jvm.Cond.code x code maxLocals ret :: tables_1)).before args0 about1 = true := by
  rw [allAtoms_all]
  show words1.all (fun c => c.before args0 about1) = true
  refine all_split ?_ w_codes
  rw [← List.take_append_drop 24 words1, List.all_append, w_t1, ← List.take_append_drop 24 (words1.drop 24), List.all_append, w_t2, w_t3]
  rfl
set_option maxRecDepth 65536 in
theorem w_case : (Jvm.Cond.and given_1 narrow_1).before args0 about1 = true := by decide +kernel
theorem w_applies : (headSpec (Jvm.Cond.code x code maxLocals ret :: tables_1) room_1).applies x e0.platform about1 = true :=
  (Spec.applies_iff w_frames).mpr ⟨w_running, w_runnable, w_alone, w_named, w_hears, w_ripe, w_room, w_tables⟩
theorem atStart : AtStart classFile x code maxLocals ret World_1 tables_1 room_1 Calls_1 rest_1 Pre_1 launch0 p0 e0 about1 theMethod args0 below0 :=
  ⟨lists_1, trivial, launch0.admits_env _ _ _, launch0.least_env, fairChoices_fair.cas, fairChoices_fair.clock, w_frames, w_args, w_heap, w_applies, trivial, trivial, w_case⟩
end start1
theorem witness_1 : WitnessClaimed_1 := ⟨start1.p0, start1.e0, start1.about1, start1.theMethod, start1.args0, start1.below0, start1.atStart⟩
end Jvm.Pilot.@@N@@
