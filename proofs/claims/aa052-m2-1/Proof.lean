import JvmDerived
import JvmDerived.Pilot.@@N@@Statement
import JvmDerived.Pilot.@@N@@Code
set_option linter.unusedVariables false
set_option linter.unusedSimpArgs false
namespace Jvm.RoadKit
open Sem ClassFile Op Lib Jvm.Stand Jvm.Free Jvm.LawKit
section New
variable {p : Program} {l : Launch} {e : Env} {R : Room} {s : State} {m : MethodId} {args : Array Value} {below : List Frame} {meth : Method} {c : Code} {T : State} {locs : List Loc} {cells slots : Nat}
theorem retI (X : Stand p l e R s m args below meth c T locs cells slots) (hx : p.tables.exec = Jvm.exec) {pc : Nat} {Ls : Array Slot} {z : Int32} {rest : List Value} (hret : meth.sig.returnType = some .int) (hd : decode c.code pc = .ok (.ireturn, 1)) {fs : List Frame}
    (hl : ∀ (f : JFrame) (acts : List Action), f.method = m → f.locked = none → f.entered = [] → (doReturn e (T.setTop f) acts (some (.int z))).1 = T.setFrames fs) : Steps p.tables e below (T.setTop (mkF m pc Ls (.int z :: rest))) (T.setFrames fs) := by
  have hm' : T.vm.method? m = some meth := X.method'
  have hn : narrow .int (.int z) = .int z := rfl
  show Steps p.tables e below (T.setTop { method := m, pc := pc, locals := Ls, stack := _ :: rest, locked := none }) _
  jvm_step X.here [X.here.top, hx, hd, hm', hret, hn]
  first | (intro acts; rw [hl _ acts rfl rfl rfl]) | rw [hl _ _ rfl rfl rfl]
  exact Steps.refl _
end New
end Jvm.RoadKit
namespace Jvm.Pilot.@@N@@
open Jvm Jvm.ClassFile Sem Op Lib Jvm.Free Jvm.Stand Jvm.LawKit Jvm.RoadKit Bundle Jvm.Pilot.@@N@@.Jvm.D

/-! the walk's goal: from this frame the run comes to its end, and Q holds of what it returns, of the heap and of the places written -/
def Fini (p : Program) (e : Env) (below : List Frame) (s : State) (Q : Option Value → Heap → List Loc → Prop) (C S : Nat) (T : State) (g : JFrame) : Prop :=
  ∃ s₂ o, Steps p.tables e below (T.setTop g) s₂ ∧ s₂.status = .running ∧ Ended s₂ below o ∧ ∃ v L, o = .returned v ∧ Q v s₂.heap L ∧ FrameEnd s o s₂ L C S
abbrev Cmet (l : Launch) (Z : State) (y : MethodName) (bytes : ByteArray) (ml : Nat) (ret : Option FieldType) (ws : List Jvm.Cond) (rm : Room) (as : Array Value) (h0 : Heap) (Q : Option Value → Heap → List Loc → Prop) : Prop :=
  MetFree l y (head1 (Jvm.Cond.code y bytes ml ret :: ws) rm) (fun a U => a = as ∧ Z.Warmed39 U.vm ∧ U.heap = h0) (fun _ _ _ _ _ => True) (fun _ U o U' => ∃ v L, o = .returned v ∧ Q v U'.heap L ∧ FrameEnd U o U' L rm.cells rm.slots)
section Own
variable {p : Program} {l : Launch} {e : Env} {R : Room} {s : State} {m : MethodId} {args : Array Value} {below : List Frame} {meth : Method} {c : Code} {T T' : State} {locs : List Loc} {cells slots : Nat} {Q : Option Value → Heap → List Loc → Prop} {C S : Nat} {g g' : JFrame} {Z : State} {a0 : Array Value} {h : Heap}
theorem Fini.st (k : ∀ t, Steps p.tables e below (T'.setTop g') t → Steps p.tables e below (T.setTop g) t) (f : Fini p e below s Q C S T' g') : Fini p e below s Q C S T g := by
  obtain ⟨s2, o, h1, r⟩ := f
  exact ⟨s2, o, k _ h1, r⟩
theorem Fini.cast (q : g = g') (f : Fini p e below s Q C S T g') : Fini p e below s Q C S T g := q ▸ f
theorem Fini.retI (X : Stand p l e R s m args below meth c T locs cells slots) (hx : p.tables.exec = Jvm.exec) (hl : meth.locks = false) (hret : meth.sig.returnType = some .int) {pc : Nat} {Ls : Array Slot} {z : Int32} {rest : List Value} (hd : decode c.code pc = .ok (.ireturn, 1))
    (hC : cells ≤ C) (hS : slots ≤ S) (hQ : Q (some (.int z)) T.heap locs) : Fini p e below s Q C S T (mkF m pc Ls (.int z :: rest)) := by
  obtain ⟨fs, hr, hrun, hended, hW, hsame⟩ := X.leave (v := some (.int z)) (fun h => by rw [hret] at h; cases h) hl
  exact ⟨_, _, Jvm.RoadKit.retI X hx hret hd hr, hrun, hended, _, _, rfl, hQ, ⟨_, rfl⟩, hW, hsame.mono hC hS⟩
theorem Fini.retN (X : Stand p l e R s m args below meth c T locs cells slots) (hx : p.tables.exec = Jvm.exec) (hl : meth.locks = false) {t : FieldType} (hret : meth.sig.returnType = some t) (ht : t = .boolean ∨ t = .byte ∨ t = .char ∨ t = .short) {pc : Nat} {Ls : Array Slot} {z z' : Int32} {rest : List Value} (hd : decode c.code pc = .ok (.ireturn, 1))
    (hz : nar t z = z') (hC : cells ≤ C) (hS : slots ≤ S) (hQ : Q (some (.int z')) T.heap locs) : Fini p e below s Q C S T (mkF m pc Ls (.int z :: rest)) := by
  subst hz
  obtain ⟨fs, hr, hrun, hended, hW, hsame⟩ := X.leave (v := some (.int (nar t z))) (fun h => by rw [hret] at h; cases h) hl
  exact ⟨_, _, Jvm.RoadKit.retN X hx hret ht hd hr, hrun, hended, _, _, rfl, hQ, ⟨_, rfl⟩, hW, hsame.mono hC hS⟩
theorem Fini.retJ (X : Stand p l e R s m args below meth c T locs cells slots) (hx : p.tables.exec = Jvm.exec) (hl : meth.locks = false) (hret : meth.sig.returnType = some .long) {pc : Nat} {Ls : Array Slot} {z : Int64} {rest : List Value} (hd : decode c.code pc = .ok (.lreturn, 1))
    (hC : cells ≤ C) (hS : slots ≤ S) (hQ : Q (some (.long z)) T.heap locs) : Fini p e below s Q C S T (mkF m pc Ls (.long z :: rest)) := by
  obtain ⟨fs, hr, hrun, hended, hW, hsame⟩ := X.leave (v := some (.long z)) (fun h => by rw [hret] at h; cases h) hl
  exact ⟨_, _, retOut X hx hret rfl (Or.inr (Or.inl ⟨rfl, rfl, z, rfl⟩)) hd hr, hrun, hended, _, _, rfl, hQ, ⟨_, rfl⟩, hW, hsame.mono hC hS⟩
theorem Fini.retA (X : Stand p l e R s m args below meth c T locs cells slots) (hx : p.tables.exec = Jvm.exec) (hl : meth.locks = false) {t : FieldType} (hret : meth.sig.returnType = some t) (ht : t.isReference = true) {pc : Nat} {Ls : Array Slot} {w : Value} {rest : List Value} (hd : decode c.code pc = .ok (.areturn, 1)) (hw : w.isRef = true) (hn : narrow t w = w)
    (hC : cells ≤ C) (hS : slots ≤ S) (hQ : Q (some w) T.heap locs) : Fini p e below s Q C S T (mkF m pc Ls (w :: rest)) := by
  obtain ⟨fs, hr, hrun, hended, hW, hsame⟩ := X.leave (v := some w) (fun h => by rw [hret] at h; cases h) hl
  exact ⟨_, _, retOut X hx hret hn (Or.inr (Or.inr (Or.inr (Or.inr ⟨rfl, ht, hw⟩)))) hd hr, hrun, hended, _, _, rfl, hQ, ⟨_, rfl⟩, hW, hsame.mono hC hS⟩
theorem Fini.ret0 (X : Stand p l e R s m args below meth c T locs cells slots) (hx : p.tables.exec = Jvm.exec) (hl : meth.locks = false) (hret : meth.sig.returnType = none) {pc : Nat} {Ls : Array Slot} (hd : decode c.code pc = .ok (.return_, 1))
    (hC : cells ≤ C) (hS : slots ≤ S) (hQ : Q none T.heap locs) : Fini p e below s Q C S T (mkF m pc Ls []) := by
  obtain ⟨fs, hr, hrun, hended, hW, hsame⟩ := X.leave (v := none) (fun _ => rfl) hl
  exact ⟨_, _, X.returnOut hx hret hd hr, hrun, hended, _, _, rfl, hQ, ⟨_, rfl⟩, hW, hsame.mono hC hS⟩
/-- a static call by its contract -/
theorem callQ (X : Stand p l e R s m args below meth c T locs cells slots) (hx : p.tables.exec = Jvm.exec) (hZ : Z.Warmed39 s.vm) {own : String} {index : Nat} {y : MethodName} {bytes : ByteArray} {maxL : Nat} {ret : Option FieldType} {rm : Room} {as : Array Value}
    (hown : s.vm.findClass own = some m.cls) (w1 : (Cond.methodLink own index y).before a0 Z = true) (w2 : (Cond.static y).before a0 Z = true) (w3 : (Cond.initialized y.cls).before a0 Z = true) (w4 : (Cond.code y bytes maxL ret).before a0 Z = true)
    (hy : y.cls ≠ "java/lang/invoke/MethodHandle" ∧ y.cls ≠ "java/lang/invoke/VarHandle") (M : Cmet l Z y bytes maxL ret [] rm as h Q) (eT : T.heap = h) {W : Nat} (hf : rm.frames + 1 ≤ R.frames) (hl : W + (maxL + 11) + rm.locals ≤ R.locals) (hc : cells + rm.cells ≤ R.cells) (hs : slots + rm.slots ≤ R.slots)
    (hg : g.method = m) (hsize : g.locals.size = c.maxLocals) {argsL rest : List Value} (has : argsL.toArray = as) (hlen : ∀ sig, parseMethodDescriptor y.desc = some sig → argsL.length = sig.parameters.length)
    (hstack : g.stack = argsL.reverse ++ rest) (hW : 2 * g.monitorRoom + (rest.map fun v => v.category).sum ≤ W) (hdg : decode c.code g.pc = .ok (.invokestatic index, 3)) :
    ∃ (v : Option Value) (T' : State) (L : List Loc), Stand p l e R s m args below meth c T' (locs ++ L) (cells + rm.cells) (slots + rm.slots) ∧ Q v T'.heap L ∧
      ∀ target, Steps p.tables e below (T'.setTop { g with pc := g.pc + 3, stack := v.toList ++ rest }) target → Steps p.tables e below (T.setTop g) target := by
  obtain ⟨v, vm1, ⟨T', L', c', n'⟩, -, X', ⟨L, hQ, q1, q2, q3⟩, st⟩ := Jvm.LawKit.callS X hx hown (mvT hZ w1) (mvT hZ w2) (mvT hZ w3) (mvT hZ w4) hy (backOf (W := W) M hZ w4 w3 hf hl) hg hsize hlen hstack hW hdg (fun _ _ => ⟨has, eT, hc, hs⟩)
  dsimp only [Pt.U, Pt.locs, Pt.cells, Pt.slots] at X' q1 q2 q3 st hQ
  subst q1 q2 q3
  exact ⟨v, T', L, X', hQ, st⟩
/-- a static call that leaves the heap as it was -/
theorem pureS (X : Stand p l e R s m args below meth c T locs cells slots) (hx : p.tables.exec = Jvm.exec) (hZ : Z.Warmed39 s.vm) {own : String} {index : Nat} {y : MethodName} {bytes : ByteArray} {maxL : Nat} {ret : Option FieldType} {fr lo : Nat} {as : Array Value} {w : Option Value}
    (hown : s.vm.findClass own = some m.cls) (w1 : (Cond.methodLink own index y).before a0 Z = true) (w2 : (Cond.static y).before a0 Z = true) (w3 : (Cond.initialized y.cls).before a0 Z = true) (w4 : (Cond.code y bytes maxL ret).before a0 Z = true)
    (hy : y.cls ≠ "java/lang/invoke/MethodHandle" ∧ y.cls ≠ "java/lang/invoke/VarHandle") (M : Cmet l Z y bytes maxL ret [] ({ frames := fr, cells := 0, slots := 0, locals := lo } : Room) as h (fun v h' L => v = w ∧ h' = h ∧ L = [])) (eT : T.heap = h) {W : Nat} (hf : fr + 1 ≤ R.frames) (hl : W + (maxL + 11) + lo ≤ R.locals) (hc : cells ≤ R.cells) (hs : slots ≤ R.slots)
    (hg : g.method = m) (hsize : g.locals.size = c.maxLocals) {argsL rest : List Value} (has : argsL.toArray = as) (hlen : ∀ sig, parseMethodDescriptor y.desc = some sig → argsL.length = sig.parameters.length)
    (hstack : g.stack = argsL.reverse ++ rest) (hW : 2 * g.monitorRoom + (rest.map fun v => v.category).sum ≤ W) (hdg : decode c.code g.pc = .ok (.invokestatic index, 3)) :
    ∃ (T' : State), Stand p l e R s m args below meth c T' locs cells slots ∧ T'.heap = h ∧
      ∀ target, Steps p.tables e below (T'.setTop { g with pc := g.pc + 3, stack := w.toList ++ rest }) target → Steps p.tables e below (T.setTop g) target := by
  obtain ⟨v, T', L, X', ⟨rfl, q, rfl⟩, st⟩ := callQ X hx hZ hown w1 w2 w3 w4 hy M eT (W := W) hf hl hc hs hg hsize has hlen hstack hW hdg
  rw [List.append_nil] at X'
  exact ⟨T', X', q, st⟩
/-- an instance method by the contract of the body that the receiver's class selects -/
theorem callV (X : Stand p l e R s m args below meth c T locs cells slots) (hx : p.tables.exec = Jvm.exec) (hZ : Z.Warmed39 s.vm) {own C' : String} {index : Nat} {y z : MethodName} {bytes : ByteArray} {maxL : Nat} {ret : Option FieldType} {rm : Room} {as : Array Value} {b : Addr}
    (hown : s.vm.findClass own = some m.cls) (w1 : (Cond.methodLink own index y).before a0 Z = true) (w2 : (Cond.declares y).before a0 Z = true) (w3 : (Cond.selects C' y z).before a0 Z = true) (w4 : (Cond.instanceMethod z).before a0 Z = true) (w5 : (Cond.initialized z.cls).before a0 Z = true) (w6 : (Cond.code z bytes maxL ret).before a0 Z = true)
    (nf : NotFace s y) (E : Exa Z h b C') (hy : y.cls ≠ "java/lang/invoke/MethodHandle" ∧ y.cls ≠ "java/lang/invoke/VarHandle") (M : Cmet l Z z bytes maxL ret [] rm as h Q) (eT : T.heap = h) {W : Nat} (hf : rm.frames + 1 ≤ R.frames) (hl : W + (maxL + 11) + rm.locals ≤ R.locals) (hc : cells + rm.cells ≤ R.cells) (hs : slots + rm.slots ≤ R.slots)
    (hg : g.method = m) (hsize : g.locals.size = c.maxLocals) {argsL rest : List Value} (has : (Value.ref b :: argsL).toArray = as) (hlen : ∀ sig, parseMethodDescriptor y.desc = some sig → argsL.length = sig.parameters.length)
    (hstack : g.stack = argsL.reverse ++ .ref b :: rest) (hW : 2 * g.monitorRoom + (rest.map fun v => v.category).sum ≤ W) (hdg : decode c.code g.pc = .ok (.invokevirtual index, 3)) :
    ∃ (v : Option Value) (T' : State) (L : List Loc), Stand p l e R s m args below meth c T' (locs ++ L) (cells + rm.cells) (slots + rm.slots) ∧ Q v T'.heap L ∧
      ∀ target, Steps p.tables e below (T'.setTop { g with pc := g.pc + 3, stack := v.toList ++ rest }) target → Steps p.tables e below (T.setTop g) target := by
  obtain ⟨cB, kB, q1, q2, q3⟩ := isOf hZ eT E
  obtain ⟨v, vm1, ⟨T', L', c', n'⟩, -, X', ⟨L, hQ, r1, r2, r3⟩, st⟩ := X.virtualBack hx hown (mvT hZ w1) (mvT hZ w2) nf (mvT hZ w3) (mvT hZ w4) hy (backOf (W := W) M hZ w6 w5 hf hl) q1 q3 hg hsize (Steps.refl _) hlen hstack hW hdg (fun _ _ => ⟨has, eT, hc, hs⟩)
  dsimp only [Pt.U, Pt.locs, Pt.cells, Pt.slots] at X' r1 r2 r3 st hQ
  subst r1 r2 r3
  exact ⟨v, T', L, X', hQ, fun _ k => st.trans k⟩
theorem pureV (X : Stand p l e R s m args below meth c T locs cells slots) (hx : p.tables.exec = Jvm.exec) (hZ : Z.Warmed39 s.vm) {own C' : String} {index : Nat} {y z : MethodName} {bytes : ByteArray} {maxL : Nat} {ret : Option FieldType} {fr lo : Nat} {as : Array Value} {b : Addr} {w : Option Value}
    (hown : s.vm.findClass own = some m.cls) (w1 : (Cond.methodLink own index y).before a0 Z = true) (w2 : (Cond.declares y).before a0 Z = true) (w3 : (Cond.selects C' y z).before a0 Z = true) (w4 : (Cond.instanceMethod z).before a0 Z = true) (w5 : (Cond.initialized z.cls).before a0 Z = true) (w6 : (Cond.code z bytes maxL ret).before a0 Z = true)
    (nf : NotFace s y) (E : Exa Z h b C') (hy : y.cls ≠ "java/lang/invoke/MethodHandle" ∧ y.cls ≠ "java/lang/invoke/VarHandle") (M : Cmet l Z z bytes maxL ret [] ({ frames := fr, cells := 0, slots := 0, locals := lo } : Room) as h (fun v h' L => v = w ∧ h' = h ∧ L = [])) (eT : T.heap = h) {W : Nat} (hf : fr + 1 ≤ R.frames) (hl : W + (maxL + 11) + lo ≤ R.locals) (hc : cells ≤ R.cells) (hs : slots ≤ R.slots)
    (hg : g.method = m) (hsize : g.locals.size = c.maxLocals) {argsL rest : List Value} (has : (Value.ref b :: argsL).toArray = as) (hlen : ∀ sig, parseMethodDescriptor y.desc = some sig → argsL.length = sig.parameters.length)
    (hstack : g.stack = argsL.reverse ++ .ref b :: rest) (hW : 2 * g.monitorRoom + (rest.map fun v => v.category).sum ≤ W) (hdg : decode c.code g.pc = .ok (.invokevirtual index, 3)) :
    ∃ (T' : State), Stand p l e R s m args below meth c T' locs cells slots ∧ T'.heap = h ∧
      ∀ target, Steps p.tables e below (T'.setTop { g with pc := g.pc + 3, stack := w.toList ++ rest }) target → Steps p.tables e below (T.setTop g) target := by
  obtain ⟨v, T', L, X', ⟨rfl, q, rfl⟩, st⟩ := callV X hx hZ hown w1 w2 w3 w4 w5 w6 nf E hy M eT (W := W) hf hl hc hs hg hsize has hlen hstack hW hdg
  rw [List.append_nil] at X'
  exact ⟨T', X', q, st⟩
/-- a constructor by its contract -/
theorem callNew (X : Stand p l e R s m args below meth c T locs cells slots) (hx : p.tables.exec = Jvm.exec) (hZ : Z.Warmed39 s.vm) {own : String} {index : Nat} {y : MethodName} {bytes : ByteArray} {maxL : Nat} {rm : Room} {as : Array Value} {b : Addr}
    (hown : s.vm.findClass own = some m.cls) (hy1 : y.name = "<init>") (w1 : (Cond.methodLink own index y).before a0 Z = true) (w2 : (Cond.instanceMethod y).before a0 Z = true) (w3 : (Cond.initialized y.cls).before a0 Z = true) (w4 : (Cond.code y bytes maxL none).before a0 Z = true)
    (hy : y.cls ≠ "java/lang/invoke/MethodHandle" ∧ y.cls ≠ "java/lang/invoke/VarHandle") (M : Cmet l Z y bytes maxL none [] rm as h Q) (eT : T.heap = h) {W : Nat} (hf : rm.frames + 1 ≤ R.frames) (hl : W + (maxL + 11) + rm.locals ≤ R.locals) (hc : cells + rm.cells ≤ R.cells) (hs : slots + rm.slots ≤ R.slots)
    (hg : g.method = m) (hsize : g.locals.size = c.maxLocals) {argsL rest : List Value} (has : (Value.ref b :: argsL).toArray = as) (hlen : ∀ sig, parseMethodDescriptor y.desc = some sig → argsL.length = sig.parameters.length)
    (hstack : g.stack = argsL.reverse ++ .ref b :: rest) (hW : 2 * g.monitorRoom + (rest.map fun v => v.category).sum ≤ W) (hdg : decode c.code g.pc = .ok (.invokespecial index, 3)) :
    ∃ (v : Option Value) (T' : State) (L : List Loc), Stand p l e R s m args below meth c T' (locs ++ L) (cells + rm.cells) (slots + rm.slots) ∧ Q v T'.heap L ∧
      ∀ target, Steps p.tables e below (T'.setTop { g with pc := g.pc + 3, stack := v.toList ++ rest }) target → Steps p.tables e below (T.setTop g) target := by
  obtain ⟨v, vm1, ⟨T', L', c', n'⟩, -, X', ⟨L, hQ, r1, r2, r3⟩, st⟩ := X.specialBack hx hy1 hown (mvT hZ w1) (mvT hZ w2) (mvT hZ w4) hy (backOf (W := W) M hZ w4 w3 hf hl) hg hsize (Steps.refl _) hlen hstack hW hdg (fun _ _ => ⟨has, eT, hc, hs⟩)
  dsimp only [Pt.U, Pt.locs, Pt.cells, Pt.slots] at X' r1 r2 r3 st hQ
  subst r1 r2 r3
  exact ⟨v, T', L, X', hQ, fun _ k => st.trans k⟩
theorem nb0 : nar .boolean (0 : Int32) = 0 := by decide
theorem nb1 : nar .boolean (1 : Int32) = 1 := by decide
end Own
section Arrays
variable {p : Program} {l : Launch} {e : Env} {R : Room} {s : State} {m : MethodId} {args : Array Value} {below : List Frame} {meth : Method} {c : Code} {T T' : State} {locs : List Loc} {cells slots : Nat} {g : JFrame} {Z : State} {a0 : Array Value} {h h' : Heap} {a b : Addr} {ty : FieldType} {n j x : Int32} {rest : List Value} {ws : List Addr} {sl : Nat} {v : Value} {target : State}
/-- an array of ints (bytes, chars, ..), of longs, of references: its length and what lies at each place -/
def AryI (Z : State) (h : Heap) (a : Addr) (ty : FieldType) (n : Int32) (u : Nat → Int32) : Prop := ∃ cl : Cell, Arr Z h a cl ty ∧ cl.slots.size = n.toNatClampNeg ∧ ¬ n < 0 ∧ ∀ i, i < n.toNatClampNeg → cl.slots[i]? = some (.int (u i))
def AryJ (Z : State) (h : Heap) (a : Addr) (n : Int32) (u : Nat → Int64) : Prop := ∃ cl : Cell, Arr Z h a cl .long ∧ cl.slots.size = n.toNatClampNeg ∧ ¬ n < 0 ∧ ∀ i, i < n.toNatClampNeg → cl.slots[i]? = some (.long (u i))
def AryR (Z : State) (h : Heap) (a : Addr) (C : String) (n : Int32) (u : Nat → Value) : Prop := ∃ cl : Cell, Arr Z h a cl (.object C) ∧ cl.slots.size = n.toNatClampNeg ∧ ¬ n < 0 ∧ Ovr Z cl.cls C ∧ ∀ i, i < n.toNatClampNeg → cl.slots[i]? = some (u i)
def upd {A : Type} (u : Nat → A) (k : Nat) (x : A) : Nat → A := fun i => if i = k then x else u i
theorem upd_eq {A : Type} {u : Nat → A} {k i : Nat} {x : A} (q : i = k) : upd u k x i = x := if_pos q
theorem upd_ne {A : Type} {u : Nat → A} {k i : Nat} {x : A} (q : i ≠ k) : upd u k x i = u i := if_neg q
theorem nat_lt {j n : Int32} (q : ¬ j < 0 ∧ j < n) : j.toNatClampNeg < n.toNatClampNeg := by
  have h1 := nat_of q.1
  have h2 : j.toInt < n.toInt := Int32.lt_iff_toInt_lt.mp q.2
  have h3 : ¬ n < 0 := fun r => by
    have r' : n.toInt < 0 := Int32.lt_iff_toInt_lt.mp r
    omega
  have h4 := nat_of h3
  omega
theorem AryI.lt {u : Nat → Int32} (F : AryI Z h a ty n u) : a < h.size := by obtain ⟨_, A, -⟩ := F; exact A.lt
theorem AryJ.lt {u : Nat → Int64} (F : AryJ Z h a n u) : a < h.size := by obtain ⟨_, A, -⟩ := F; exact A.lt
theorem AryR.lt {C : String} {u : Nat → Value} (F : AryR Z h a C n u) : a < h.size := by obtain ⟨_, A, -⟩ := F; exact A.lt
theorem AryI.ext {u : Nat → Int32} (E : Ext h h') (F : AryI Z h a ty n u) : AryI Z h' a ty n u := by obtain ⟨cl, A, r⟩ := F; exact ⟨cl, A.ext E, r⟩
theorem AryJ.ext {u : Nat → Int64} (E : Ext h h') (F : AryJ Z h a n u) : AryJ Z h' a n u := by obtain ⟨cl, A, r⟩ := F; exact ⟨cl, A.ext E, r⟩
theorem AryR.ext {C : String} {u : Nat → Value} (E : Ext h h') (F : AryR Z h a C n u) : AryR Z h' a C n u := by obtain ⟨cl, A, r⟩ := F; exact ⟨cl, A.ext E, r⟩
theorem AryI.other {u : Nat → Int32} (W : Wr h h' b sl v) (F : AryI Z h a ty n u) (q : a ≠ b) : AryI Z h' a ty n u := by obtain ⟨cl, A, r⟩ := F; exact ⟨cl, A.other W q, r⟩
theorem AryJ.other {u : Nat → Int64} (W : Wr h h' b sl v) (F : AryJ Z h a n u) (q : a ≠ b) : AryJ Z h' a n u := by obtain ⟨cl, A, r⟩ := F; exact ⟨cl, A.other W q, r⟩
theorem AryR.other {C : String} {u : Nat → Value} (W : Wr h h' b sl v) (F : AryR Z h a C n u) (q : a ≠ b) : AryR Z h' a C n u := by obtain ⟨cl, A, r⟩ := F; exact ⟨cl, A.other W q, r⟩
theorem AryI.keep {u : Nat → Int32} (F : AryI Z h a ty n u) (K : Keep h h' ws) (q : a ∉ ws) : AryI Z h' a ty n u := by obtain ⟨cl, A, r⟩ := F; exact ⟨cl, ⟨K.2.1 a cl A.1 q, A.2⟩, r⟩
theorem AryJ.keep {u : Nat → Int64} (F : AryJ Z h a n u) (K : Keep h h' ws) (q : a ∉ ws) : AryJ Z h' a n u := by obtain ⟨cl, A, r⟩ := F; exact ⟨cl, ⟨K.2.1 a cl A.1 q, A.2⟩, r⟩
theorem AryR.keep {C : String} {u : Nat → Value} (F : AryR Z h a C n u) (K : Keep h h' ws) (q : a ∉ ws) : AryR Z h' a C n u := by obtain ⟨cl, A, r⟩ := F; exact ⟨cl, ⟨K.2.1 a cl A.1 q, A.2⟩, r⟩
theorem AryI.cast {u u' : Nat → Int32} (F : AryI Z h a ty n u) (q : ∀ i, i < n.toNatClampNeg → u i = u' i) : AryI Z h a ty n u' := by obtain ⟨cl, A, r1, r2, r3⟩ := F; exact ⟨cl, A, r1, r2, fun i hi => by rw [r3 i hi, q i hi]⟩
theorem AryJ.cast {u u' : Nat → Int64} (F : AryJ Z h a n u) (q : ∀ i, i < n.toNatClampNeg → u i = u' i) : AryJ Z h a n u' := by obtain ⟨cl, A, r1, r2, r3⟩ := F; exact ⟨cl, A, r1, r2, fun i hi => by rw [r3 i hi, q i hi]⟩
theorem AryI.new {cA : ClassId} (A : Arr Z h a (newA cA ty n) ty) (q : ¬ n < 0) (d : defaultValue ty = .int 0) : AryI Z h a ty n (fun _ => 0) := ⟨_, A, sz_new _ _ _, q, fun i hi => by simp [newA, d, hi]⟩
theorem AryJ.new {cA : ClassId} (A : Arr Z h a (newA cA .long n) .long) (q : ¬ n < 0) : AryJ Z h a n (fun _ => 0) := ⟨_, A, sz_new _ _ _, q, fun i hi => by
  have d : defaultValue .long = .long 0 := rfl
  simp [newA, d, hi]⟩
theorem AryR.new {C : String} {cA : ClassId} (A : Arr Z h a (newA cA (.object C) n) (.object C)) (O : Ovr Z cA C) (q : ¬ n < 0) : AryR Z h a C n (fun _ => .null) := ⟨_, A, sz_new _ _ _, q, O, fun i hi => by
  have d : defaultValue (.object C) = .null := rfl
  simp [newA, d, hi]⟩
theorem set_at {cl : Cell} {k i : Nat} {w : Value} (hk : k < cl.slots.size) : (cl.setSlot k w).slots[i]? = if i = k then some w else cl.slots[i]? := by
  by_cases q : i = k
  · subst q; simp [Cell.setSlot, hk]
  · rw [if_neg q]; simp [Cell.setSlot, Array.getElem?_setIfInBounds_ne (Ne.symm q)]
theorem AryI.len {u : Nat → Int32} (F : AryI Z h a ty n u) (X : Stand p l e R s m args below meth c T locs cells slots) (hx : p.tables.exec = Jvm.exec) (hZ : Z.Warmed39 s.vm) (eT : T.heap = h) (hg : g.method = m) (hs : g.stack = .ref a :: rest) (hd : decode c.code g.pc = .ok (.arraylength, 1)) (hr : Steps p.tables e below (T.setTop { g with pc := g.pc + 1, stack := .int n :: rest }) target) : Steps p.tables e below (T.setTop g) target := by
  obtain ⟨cl, A, S, N, H⟩ := F
  refine X.arraylength hx (by rw [eT]; exact A.1) (State.isArrayOf_alike hZ.alike A.2.1) hg hs hd _ ?_
  rw [len_of S N]; exact hr
theorem AryJ.len {u : Nat → Int64} (F : AryJ Z h a n u) (X : Stand p l e R s m args below meth c T locs cells slots) (hx : p.tables.exec = Jvm.exec) (hZ : Z.Warmed39 s.vm) (eT : T.heap = h) (hg : g.method = m) (hs : g.stack = .ref a :: rest) (hd : decode c.code g.pc = .ok (.arraylength, 1)) (hr : Steps p.tables e below (T.setTop { g with pc := g.pc + 1, stack := .int n :: rest }) target) : Steps p.tables e below (T.setTop g) target := by
  obtain ⟨cl, A, S, N, H⟩ := F
  refine X.arraylength hx (by rw [eT]; exact A.1) (State.isArrayOf_alike hZ.alike A.2.1) hg hs hd _ ?_
  rw [len_of S N]; exact hr
theorem AryI.loadI {u : Nat → Int32} (F : AryI Z h a .int n u) (X : Stand p l e R s m args below meth c T locs cells slots) (hx : p.tables.exec = Jvm.exec) (hZ : Z.Warmed39 s.vm) (eT : T.heap = h) (q : ¬ j < 0 ∧ j < n) (hg : g.method = m) (hs : g.stack = .int j :: .ref a :: rest) (hd : decode c.code g.pc = .ok (.iaload, 1)) (hr : Steps p.tables e below (T.setTop { g with pc := g.pc + 1, stack := .int (u j.toNatClampNeg) :: rest }) target) : Steps p.tables e below (T.setTop g) target := by
  obtain ⟨cl, A, S, N, H⟩ := F
  exact X.iaload hx (by rw [eT]; exact A.1) (State.isArrayOf_alike hZ.alike A.2.1) A.2.2 (inb_of S q) (H _ (nat_lt q)) hg hs hd _ hr
theorem AryI.loadB {u : Nat → Int32} (F : AryI Z h a .byte n u) (X : Stand p l e R s m args below meth c T locs cells slots) (hx : p.tables.exec = Jvm.exec) (hZ : Z.Warmed39 s.vm) (eT : T.heap = h) (q : ¬ j < 0 ∧ j < n) (hg : g.method = m) (hs : g.stack = .int j :: .ref a :: rest) (hd : decode c.code g.pc = .ok (.baload, 1)) (hr : Steps p.tables e below (T.setTop { g with pc := g.pc + 1, stack := .int (u j.toNatClampNeg) :: rest }) target) : Steps p.tables e below (T.setTop g) target := by
  obtain ⟨cl, A, S, N, H⟩ := F
  exact X.baloadBytes hx (by rw [eT]; exact A.1) (State.isArrayOf_alike hZ.alike A.2.1) A.2.2 (inb_of S q) (H _ (nat_lt q)) hg hs hd _ hr
theorem AryI.loadZ {u : Nat → Int32} (F : AryI Z h a .boolean n u) (X : Stand p l e R s m args below meth c T locs cells slots) (hx : p.tables.exec = Jvm.exec) (hZ : Z.Warmed39 s.vm) (eT : T.heap = h) (q : ¬ j < 0 ∧ j < n) (hg : g.method = m) (hs : g.stack = .int j :: .ref a :: rest) (hd : decode c.code g.pc = .ok (.baload, 1)) (hr : Steps p.tables e below (T.setTop { g with pc := g.pc + 1, stack := .int (u j.toNatClampNeg) :: rest }) target) : Steps p.tables e below (T.setTop g) target := by
  obtain ⟨cl, A, S, N, H⟩ := F
  exact X.baloadBooleans hx (by rw [eT]; exact A.1) (State.isArrayOf_alike hZ.alike A.2.1) A.2.2 (inb_of S q) (H _ (nat_lt q)) hg hs hd _ hr
theorem AryJ.load {u : Nat → Int64} (F : AryJ Z h a n u) (X : Stand p l e R s m args below meth c T locs cells slots) (hx : p.tables.exec = Jvm.exec) (hZ : Z.Warmed39 s.vm) (eT : T.heap = h) (q : ¬ j < 0 ∧ j < n) (hg : g.method = m) (hs : g.stack = .int j :: .ref a :: rest) (hd : decode c.code g.pc = .ok (.laload, 1)) (hr : Steps p.tables e below (T.setTop { g with pc := g.pc + 1, stack := .long (u j.toNatClampNeg) :: rest }) target) : Steps p.tables e below (T.setTop g) target := by
  obtain ⟨cl, A, S, N, H⟩ := F
  exact X.laload hx (by rw [eT]; exact A.1) (State.isArrayOf_alike hZ.alike A.2.1) A.2.2 (inb_of S q) (H _ (nat_lt q)) hg hs hd _ hr
theorem AryR.load {C : String} {u : Nat → Value} (F : AryR Z h a C n u) (X : Stand p l e R s m args below meth c T locs cells slots) (hx : p.tables.exec = Jvm.exec) (hZ : Z.Warmed39 s.vm) (eT : T.heap = h) (q : ¬ j < 0 ∧ j < n) (hg : g.method = m) (hs : g.stack = .int j :: .ref a :: rest) (hd : decode c.code g.pc = .ok (.aaload, 1)) (hr : Steps p.tables e below (T.setTop { g with pc := g.pc + 1, stack := u j.toNatClampNeg :: rest }) target) : Steps p.tables e below (T.setTop g) target := by
  obtain ⟨cl, A, S, N, O, H⟩ := F
  exact X.aaload hx (by rw [eT]; exact A.1) (State.isArrayOf_alike hZ.alike A.2.1) rfl A.2.2 (inb_of S q) (H _ (nat_lt q)) hg hs hd _ hr
theorem AryI.put {u : Nat → Int32} {cl : Cell} (A : Arr Z h a cl ty) (S : cl.slots.size = n.toNatClampNeg) (N : ¬ n < 0) (H : ∀ i, i < n.toNatClampNeg → cl.slots[i]? = some (.int (u i))) (q : ¬ j < 0 ∧ j < n) (W : Wr h h' a j.toNatClampNeg (.int x)) : AryI Z h' a ty n (upd u j.toNatClampNeg x) := by
  refine ⟨_, A.same W, by rw [sz_set]; exact S, N, fun i hi => ?_⟩
  rw [set_at (by rw [S]; exact nat_lt q)]
  by_cases r : i = j.toNatClampNeg
  · rw [if_pos r, upd_eq r]
  · rw [if_neg r, upd_ne r]; exact H i hi
theorem AryI.stI {u : Nat → Int32} (F : AryI Z h a .int n u) (X : Stand p l e R s m args below meth c T locs cells slots) (hx : p.tables.exec = Jvm.exec) (hZ : Z.Warmed39 s.vm) (eT : T.heap = h) (q : ¬ j < 0 ∧ j < n) (hg : g.method = m) (hs : g.stack = .int x :: .int j :: .ref a :: rest) (hd : decode c.code g.pc = .ok (.iastore, 1)) :
    ∃ T' h', Stand p l e R s m args below meth c T' (locs ++ [⟨a, j.toNatClampNeg⟩]) cells slots ∧ T'.heap = h' ∧ Wr h h' a j.toNatClampNeg (.int x) ∧ AryI Z h' a .int n (upd u j.toNatClampNeg x) ∧ ∀ target, Steps p.tables e below (T'.setTop { g with pc := g.pc + 1, stack := rest }) target → Steps p.tables e below (T.setTop g) target := by
  obtain ⟨cl, A, S, N, H⟩ := F
  obtain ⟨T', h', X', e', W, st⟩ := Jvm.RoadKit.stI X hx hZ eT A (inb_of S q) hg hs hd
  exact ⟨T', h', X', e', W, AryI.put A S N H q W, st⟩
theorem AryI.stB {u : Nat → Int32} (F : AryI Z h a .byte n u) (X : Stand p l e R s m args below meth c T locs cells slots) (hx : p.tables.exec = Jvm.exec) (hZ : Z.Warmed39 s.vm) (eT : T.heap = h) (q : ¬ j < 0 ∧ j < n) (hg : g.method = m) (hs : g.stack = .int x :: .int j :: .ref a :: rest) (hd : decode c.code g.pc = .ok (.bastore, 1)) :
    ∃ T' h', Stand p l e R s m args below meth c T' (locs ++ [⟨a, j.toNatClampNeg⟩]) cells slots ∧ T'.heap = h' ∧ Wr h h' a j.toNatClampNeg (.int (nar .byte x)) ∧ AryI Z h' a .byte n (upd u j.toNatClampNeg (nar .byte x)) ∧ ∀ target, Steps p.tables e below (T'.setTop { g with pc := g.pc + 1, stack := rest }) target → Steps p.tables e below (T.setTop g) target := by
  obtain ⟨cl, A, S, N, H⟩ := F
  obtain ⟨T', h', X', e', W, st⟩ := Jvm.RoadKit.stB X hx hZ eT A (inb_of S q) hg hs hd
  exact ⟨T', h', X', e', W, AryI.put A S N H q W, st⟩
theorem AryJ.st {u : Nat → Int64} {y : Int64} (F : AryJ Z h a n u) (X : Stand p l e R s m args below meth c T locs cells slots) (hx : p.tables.exec = Jvm.exec) (hZ : Z.Warmed39 s.vm) (eT : T.heap = h) (q : ¬ j < 0 ∧ j < n) (hg : g.method = m) (hs : g.stack = .long y :: .int j :: .ref a :: rest) (hd : decode c.code g.pc = .ok (.lastore, 1)) :
    ∃ T' h', Stand p l e R s m args below meth c T' (locs ++ [⟨a, j.toNatClampNeg⟩]) cells slots ∧ T'.heap = h' ∧ Wr h h' a j.toNatClampNeg (.long y) ∧ AryJ Z h' a n (upd u j.toNatClampNeg y) ∧ ∀ target, Steps p.tables e below (T'.setTop { g with pc := g.pc + 1, stack := rest }) target → Steps p.tables e below (T.setTop g) target := by
  obtain ⟨cl, A, S, N, H⟩ := F
  obtain ⟨T', h', X', e', W, st⟩ := Jvm.RoadKit.stJ X hx hZ eT A (inb_of S q) hg hs hd
  refine ⟨T', h', X', e', W, ⟨_, A.same W, by rw [sz_set]; exact S, N, fun i hi => ?_⟩, st⟩
  rw [set_at (by rw [S]; exact nat_lt q)]
  by_cases r : i = j.toNatClampNeg
  · rw [if_pos r, upd_eq r]
  · rw [if_neg r, upd_ne r]; exact H i hi
theorem AryR.st {C : String} {u : Nat → Value} (F : AryR Z h a C n u) (X : Stand p l e R s m args below meth c T locs cells slots) (hx : p.tables.exec = Jvm.exec) (hZ : Z.Warmed39 s.vm) (eT : T.heap = h) (q : ¬ j < 0 ∧ j < n) (hI : v = .null ∨ ∃ y, v = .ref y ∧ Ins Z h y C true) (hg : g.method = m) (hs : g.stack = v :: .int j :: .ref a :: rest) (hd : decode c.code g.pc = .ok (.aastore, 1)) :
    ∃ T' h', Stand p l e R s m args below meth c T' (locs ++ [⟨a, j.toNatClampNeg⟩]) cells slots ∧ T'.heap = h' ∧ Wr h h' a j.toNatClampNeg v ∧ AryR Z h' a C n (upd u j.toNatClampNeg v) ∧ ∀ target, Steps p.tables e below (T'.setTop { g with pc := g.pc + 1, stack := rest }) target → Steps p.tables e below (T.setTop g) target := by
  obtain ⟨cl, A, S, N, O, H⟩ := F
  have hS : Sto Z h a v := by
    rcases hI with r | ⟨y, rfl, r⟩
    · exact Or.inl r
    · exact Sto.of A O r
  obtain ⟨T', h', X', e', W, st⟩ := Jvm.RoadKit.stR X hx hZ eT A (inb_of S q) rfl hS hg hs hd
  refine ⟨T', h', X', e', W, ⟨_, A.same W, by rw [sz_set]; exact S, N, O, fun i hi => ?_⟩, st⟩
  rw [set_at (by rw [S]; exact nat_lt q)]
  by_cases r : i = j.toNatClampNeg
  · rw [if_pos r, upd_eq r]
  · rw [if_neg r, upd_ne r]; exact H i hi
end Arrays
def own_u (p0 : Int32) : Nat → Int32 := fun i => nar .byte ((p0 * (31 : Int32)) + Int32.ofNat i &&& (255 : Int32)).toInt8.toInt32
theorem d1_0 : decode prog_32_method_5_code 0 = .ok (.bipush 16, 2) := by decide +kernel
theorem d1_2 : decode prog_32_method_5_code 2 = .ok (.newarray .byte, 2) := by decide +kernel
theorem d1_4 : decode prog_32_method_5_code 4 = .ok (.astore_n 1, 1) := by decide +kernel
theorem d1_5 : decode prog_32_method_5_code 5 = .ok (.iconst 0, 1) := by decide +kernel
theorem d1_6 : decode prog_32_method_5_code 6 = .ok (.istore_n 2, 1) := by decide +kernel
theorem d1_7 : decode prog_32_method_5_code 7 = .ok (.iload_n 2, 1) := by decide +kernel
theorem d1_8 : decode prog_32_method_5_code 8 = .ok (.aload_n 1, 1) := by decide +kernel
theorem d1_9 : decode prog_32_method_5_code 9 = .ok (.arraylength, 1) := by decide +kernel
theorem d1_10 : decode prog_32_method_5_code 10 = .ok (.if_icmp .ge 23, 3) := by decide +kernel
theorem d1_13 : decode prog_32_method_5_code 13 = .ok (.aload_n 1, 1) := by decide +kernel
theorem d1_14 : decode prog_32_method_5_code 14 = .ok (.iload_n 2, 1) := by decide +kernel
theorem d1_15 : decode prog_32_method_5_code 15 = .ok (.iload_n 0, 1) := by decide +kernel
theorem d1_16 : decode prog_32_method_5_code 16 = .ok (.bipush 31, 2) := by decide +kernel
theorem d1_18 : decode prog_32_method_5_code 18 = .ok (.imul, 1) := by decide +kernel
theorem d1_19 : decode prog_32_method_5_code 19 = .ok (.iload_n 2, 1) := by decide +kernel
theorem d1_20 : decode prog_32_method_5_code 20 = .ok (.iadd, 1) := by decide +kernel
theorem d1_21 : decode prog_32_method_5_code 21 = .ok (.sipush 255, 3) := by decide +kernel
theorem d1_24 : decode prog_32_method_5_code 24 = .ok (.iand, 1) := by decide +kernel
theorem d1_25 : decode prog_32_method_5_code 25 = .ok (.i2b, 1) := by decide +kernel
theorem d1_26 : decode prog_32_method_5_code 26 = .ok (.bastore, 1) := by decide +kernel
theorem d1_27 : decode prog_32_method_5_code 27 = .ok (.iinc 2 1, 3) := by decide +kernel
theorem d1_30 : decode prog_32_method_5_code 30 = .ok (.goto (-23), 3) := by decide +kernel
theorem d1_33 : decode prog_32_method_5_code 33 = .ok (.aload_n 1, 1) := by decide +kernel
theorem d1_34 : decode prog_32_method_5_code 34 = .ok (.areturn, 1) := by decide +kernel
theorem pn_0 : plainName "com/example/framewire/framewire/bench/JcpStream" = true := by first | (simp [plainName, overriddenIn]; done) | decide +kernel
theorem ef1 (m : MethodId) (x0 : Int32) : entryFrame m #[(.int x0)] 3 = mkF m 0 #[.val (.int x0), .unset, .unset] [] := by first | (simp [entryFrame, mkF, argsToLocals, Value.category]; done) | rfl
set_option maxRecDepth 65536 in
set_option maxHeartbeats 40000000 in
theorem rm1 (l : Launch) (Z : State) (a0 : Array Value) (hw : ∀ d ∈ tables_1, d.before a0 Z = true) (ws : List Jvm.Cond) (p0 : Int32) (h0 : Heap) (n0 : Nat) (Z0 : n0 ≤ h0.size) :
    Cmet l Z (⟨"com/example/framewire/framewire/bench/JcpStream", "id", "(I)[B"⟩ : MethodName) prog_32_method_5_code 3 (some (.array .byte)) ws ({ frames := 0, cells := 1, slots := 16, locals := 0 } : Room) #[(.int p0)] h0 (fun v h' L => ∃ b, v = some (.ref b) ∧ Fr n0 L ∧ n0 ≤ b ∧ Keep h0 h' [] ∧ AryI Z h' b .byte (16 : Int32) (own_u p0)) := by
  refine MetFree.of_bodySF (plainFor_of_name pn_0) hisR ?_
  intro p e s m args below meth c s₁ Bd hml0 hP hK
  obtain ⟨rfl, hZ, hh⟩ := hP
  have hx := Bd.exec
  have hlk : meth.locks = false := BodyLoose.notSynchronized Bd
  have hby := Bd.bytes
  have hml : c.maxLocals = 3 := hml0
  have hown : s.vm.findClass "com/example/framewire/framewire/bench/JcpStream" = some m.cls := findClass_of_methodNamed Bd.named
  have hnm := (name_of_methodNamed Bd.named Bd.method).1
  have X0 : Stand p l e ({ frames := 0, cells := 1, slots := 16, locals := 0 } : Room) s m #[(.int p0)] below meth c s₁ [] 0 0 := Stand.of_body Bd
  have e0 : s₁.heap = h0 := by rw [← hh, Bd.state]; rfl
  have N0 := Fr.nil n0
  show Fini p e below s (fun v h' L => ∃ b, v = some (.ref b) ∧ Fr n0 L ∧ n0 ≤ b ∧ Keep h0 h' [] ∧ AryI Z h' b .byte (16 : Int32) (own_u p0)) _ _ s₁ (entryFrame m #[(.int p0)] 3)
  refine Fini.cast (ef1 m p0) ?_
  show Fini p e below s _ _ _ s₁ (mkF m 0 #[.val (.int p0), .unset, .unset] [])
  refine Fini.st (fun _ k => XS.bipush X0.here hx rfl (hb hby d1_0) k) ?_
  show Fini p e below s _ _ _ s₁ (mkF m 2 #[.val (.int p0), .unset, .unset] [(.int (16 : Int32))])
  obtain ⟨T1, h1, k1, X1, e1, E1, A1, st1⟩ := newP X0 hx hZ (hw _ (List.mem_of_getElem? (i := 4) rfl)) e0 (g := (mkF m 2 #[.val (.int p0), .unset, .unset] [(.int (16 : Int32))])) rfl (hb hby d1_2) rfl (by decide) (cap := 16) (by decide) (by decide) (by decide) (by decide)
  obtain ⟨b1, g1⟩ : ∃ z, z = h0.size := ⟨_, rfl⟩
  rw [← g1] at A1 st1
  have ge_b1 : n0 ≤ b1 := Nat.le_trans Z0 (Nat.le_of_eq g1.symm)
  have sz_b1 : h0.size ≤ b1 := Nat.le_trans (Keep.refl h0 []).1 (Nat.le_of_eq g1.symm)
  have Ar1 : AryI Z h1 b1 .byte (16 : Int32) (fun _ => 0) := AryI.new A1 (by decide) rfl
  refine Fini.st st1 ?_
  show Fini p e below s _ _ _ T1 (mkF m 4 #[.val (.int p0), .unset, .unset] [(.ref b1)])
  refine Fini.st (fun _ k => XS.astoreN X1.here hx rfl (hb hby d1_4) rfl rfl (l' := #[.val (.int p0), .val (.ref b1), .unset]) rfl k) ?_
  show Fini p e below s _ _ _ T1 (mkF m 5 #[.val (.int p0), .val (.ref b1), .unset] [])
  refine Fini.st (fun _ k => XS.iconst X1.here hx rfl (hb hby d1_5) k) ?_
  show Fini p e below s _ _ _ T1 (mkF m 6 #[.val (.int p0), .val (.ref b1), .unset] [(.int (0 : Int32))])
  refine Fini.st (fun _ k => XS.istoreN X1.here hx rfl (hb hby d1_6) rfl (l' := #[.val (.int p0), .val (.ref b1), .val (.int (0 : Int32))]) rfl k) ?_
  show Fini p e below s _ _ _ T1 (mkF m 7 #[.val (.int p0), .val (.ref b1), .val (.int (0 : Int32))] [])
  refine Fini.st (fun _ k => XS.iloadN X1.here hx rfl (hb hby d1_7) rfl k) ?_
  show Fini p e below s _ _ _ T1 (mkF m 8 #[.val (.int p0), .val (.ref b1), .val (.int (0 : Int32))] [(.int (0 : Int32))])
  refine Fini.st (fun _ k => XS.aloadN X1.here hx rfl (hb hby d1_8) rfl rfl k) ?_
  show Fini p e below s _ _ _ T1 (mkF m 9 #[.val (.int p0), .val (.ref b1), .val (.int (0 : Int32))] [(.ref b1), (.int (0 : Int32))])
  refine Fini.st (fun _ k => Ar1.len X1 hx hZ e1 rfl rfl (hb hby d1_9) k) ?_
  show Fini p e below s _ _ _ T1 (mkF m 10 #[.val (.int p0), .val (.ref b1), .val (.int (0 : Int32))] [(.int (16 : Int32)), (.int (0 : Int32))])
  refine Fini.st (fun _ k => XS.icmpNo X1.here hx rfl (hb hby d1_10) rfl (XT.ii_ge_f (by decide : (0 : Int32) < (16 : Int32))) k) ?_
  show Fini p e below s _ _ _ T1 (mkF m 13 #[.val (.int p0), .val (.ref b1), .val (.int (0 : Int32))] [])
  refine Fini.st (fun _ k => XS.aloadN X1.here hx rfl (hb hby d1_13) rfl rfl k) ?_
  show Fini p e below s _ _ _ T1 (mkF m 14 #[.val (.int p0), .val (.ref b1), .val (.int (0 : Int32))] [(.ref b1)])
  refine Fini.st (fun _ k => XS.iloadN X1.here hx rfl (hb hby d1_14) rfl k) ?_
  show Fini p e below s _ _ _ T1 (mkF m 15 #[.val (.int p0), .val (.ref b1), .val (.int (0 : Int32))] [(.int (0 : Int32)), (.ref b1)])
  refine Fini.st (fun _ k => XS.iloadN X1.here hx rfl (hb hby d1_15) rfl k) ?_
  show Fini p e below s _ _ _ T1 (mkF m 16 #[.val (.int p0), .val (.ref b1), .val (.int (0 : Int32))] [(.int p0), (.int (0 : Int32)), (.ref b1)])
  refine Fini.st (fun _ k => XS.bipush X1.here hx rfl (hb hby d1_16) k) ?_
  show Fini p e below s _ _ _ T1 (mkF m 18 #[.val (.int p0), .val (.ref b1), .val (.int (0 : Int32))] [(.int (31 : Int32)), (.int p0), (.int (0 : Int32)), (.ref b1)])
  refine Fini.st (fun _ k => XS.imul X1.here hx rfl (hb hby d1_18) rfl k) ?_
  show Fini p e below s _ _ _ T1 (mkF m 19 #[.val (.int p0), .val (.ref b1), .val (.int (0 : Int32))] [(.int (p0 * (31 : Int32))), (.int (0 : Int32)), (.ref b1)])
  refine Fini.st (fun _ k => XS.iloadN X1.here hx rfl (hb hby d1_19) rfl k) ?_
  show Fini p e below s _ _ _ T1 (mkF m 20 #[.val (.int p0), .val (.ref b1), .val (.int (0 : Int32))] [(.int (0 : Int32)), (.int (p0 * (31 : Int32))), (.int (0 : Int32)), (.ref b1)])
  refine Fini.st (fun _ k => XS.iadd X1.here hx rfl (hb hby d1_20) rfl k) ?_
  show Fini p e below s _ _ _ T1 (mkF m 21 #[.val (.int p0), .val (.ref b1), .val (.int (0 : Int32))] [(.int ((p0 * (31 : Int32)) + (0 : Int32))), (.int (0 : Int32)), (.ref b1)])
  refine Fini.st (fun _ k => XS.sipush X1.here hx rfl (hb hby d1_21) k) ?_
  show Fini p e below s _ _ _ T1 (mkF m 24 #[.val (.int p0), .val (.ref b1), .val (.int (0 : Int32))] [(.int (255 : Int32)), (.int ((p0 * (31 : Int32)) + (0 : Int32))), (.int (0 : Int32)), (.ref b1)])
  refine Fini.st (fun _ k => XS.iand X1.here hx rfl (hb hby d1_24) rfl k) ?_
  show Fini p e below s _ _ _ T1 (mkF m 25 #[.val (.int p0), .val (.ref b1), .val (.int (0 : Int32))] [(.int (((p0 * (31 : Int32)) + (0 : Int32)) &&& (255 : Int32))), (.int (0 : Int32)), (.ref b1)])
  refine Fini.st (fun _ k => XS.i2b X1.here hx rfl (hb hby d1_25) rfl k) ?_
  show Fini p e below s _ _ _ T1 (mkF m 26 #[.val (.int p0), .val (.ref b1), .val (.int (0 : Int32))] [(.int (((p0 * (31 : Int32)) + (0 : Int32)) &&& (255 : Int32)).toInt8.toInt32), (.int (0 : Int32)), (.ref b1)])
  obtain ⟨T2, h2, X2, e2, W2, Ar2, st2⟩ := Ar1.stB X1 hx hZ e1 ⟨by decide, by decide⟩ (g := (mkF m 26 #[.val (.int p0), .val (.ref b1), .val (.int (0 : Int32))] [(.int (((p0 * (31 : Int32)) + (0 : Int32)) &&& (255 : Int32)).toInt8.toInt32), (.int (0 : Int32)), (.ref b1)])) rfl rfl (hb hby d1_26)
  refine Fini.st st2 ?_
  have N2 := Fr.snoc X2 N0 ge_b1
  show Fini p e below s _ _ _ T2 (mkF m 27 #[.val (.int p0), .val (.ref b1), .val (.int (0 : Int32))] [])
  refine Fini.st (fun _ k => XS.iinc X2.here hx rfl (hb hby d1_27) rfl (l' := #[.val (.int p0), .val (.ref b1), .val (.int (1 : Int32))]) rfl k) ?_
  show Fini p e below s _ _ _ T2 (mkF m 30 #[.val (.int p0), .val (.ref b1), .val (.int (1 : Int32))] [])
  refine Fini.st (fun _ k => XS.goto X2.here hx rfl (pc0 := 30) (pc' := 7) rfl (hb hby d1_30) (by decide) (by decide) k) ?_
  show Fini p e below s _ _ _ T2 (mkF m 7 #[.val (.int p0), .val (.ref b1), .val (.int (1 : Int32))] [])
  refine Fini.st (fun _ k => XS.iloadN X2.here hx rfl (hb hby d1_7) rfl k) ?_
  show Fini p e below s _ _ _ T2 (mkF m 8 #[.val (.int p0), .val (.ref b1), .val (.int (1 : Int32))] [(.int (1 : Int32))])
  refine Fini.st (fun _ k => XS.aloadN X2.here hx rfl (hb hby d1_8) rfl rfl k) ?_
  show Fini p e below s _ _ _ T2 (mkF m 9 #[.val (.int p0), .val (.ref b1), .val (.int (1 : Int32))] [(.ref b1), (.int (1 : Int32))])
  refine Fini.st (fun _ k => Ar2.len X2 hx hZ e2 rfl rfl (hb hby d1_9) k) ?_
  show Fini p e below s _ _ _ T2 (mkF m 10 #[.val (.int p0), .val (.ref b1), .val (.int (1 : Int32))] [(.int (16 : Int32)), (.int (1 : Int32))])
  refine Fini.st (fun _ k => XS.icmpNo X2.here hx rfl (hb hby d1_10) rfl (XT.ii_ge_f (by decide : (1 : Int32) < (16 : Int32))) k) ?_
  show Fini p e below s _ _ _ T2 (mkF m 13 #[.val (.int p0), .val (.ref b1), .val (.int (1 : Int32))] [])
  refine Fini.st (fun _ k => XS.aloadN X2.here hx rfl (hb hby d1_13) rfl rfl k) ?_
  show Fini p e below s _ _ _ T2 (mkF m 14 #[.val (.int p0), .val (.ref b1), .val (.int (1 : Int32))] [(.ref b1)])
  refine Fini.st (fun _ k => XS.iloadN X2.here hx rfl (hb hby d1_14) rfl k) ?_
  show Fini p e below s _ _ _ T2 (mkF m 15 #[.val (.int p0), .val (.ref b1), .val (.int (1 : Int32))] [(.int (1 : Int32)), (.ref b1)])
  refine Fini.st (fun _ k => XS.iloadN X2.here hx rfl (hb hby d1_15) rfl k) ?_
  show Fini p e below s _ _ _ T2 (mkF m 16 #[.val (.int p0), .val (.ref b1), .val (.int (1 : Int32))] [(.int p0), (.int (1 : Int32)), (.ref b1)])
  refine Fini.st (fun _ k => XS.bipush X2.here hx rfl (hb hby d1_16) k) ?_
  show Fini p e below s _ _ _ T2 (mkF m 18 #[.val (.int p0), .val (.ref b1), .val (.int (1 : Int32))] [(.int (31 : Int32)), (.int p0), (.int (1 : Int32)), (.ref b1)])
  refine Fini.st (fun _ k => XS.imul X2.here hx rfl (hb hby d1_18) rfl k) ?_
  show Fini p e below s _ _ _ T2 (mkF m 19 #[.val (.int p0), .val (.ref b1), .val (.int (1 : Int32))] [(.int (p0 * (31 : Int32))), (.int (1 : Int32)), (.ref b1)])
  refine Fini.st (fun _ k => XS.iloadN X2.here hx rfl (hb hby d1_19) rfl k) ?_
  show Fini p e below s _ _ _ T2 (mkF m 20 #[.val (.int p0), .val (.ref b1), .val (.int (1 : Int32))] [(.int (1 : Int32)), (.int (p0 * (31 : Int32))), (.int (1 : Int32)), (.ref b1)])
  refine Fini.st (fun _ k => XS.iadd X2.here hx rfl (hb hby d1_20) rfl k) ?_
  show Fini p e below s _ _ _ T2 (mkF m 21 #[.val (.int p0), .val (.ref b1), .val (.int (1 : Int32))] [(.int ((p0 * (31 : Int32)) + (1 : Int32))), (.int (1 : Int32)), (.ref b1)])
  refine Fini.st (fun _ k => XS.sipush X2.here hx rfl (hb hby d1_21) k) ?_
  show Fini p e below s _ _ _ T2 (mkF m 24 #[.val (.int p0), .val (.ref b1), .val (.int (1 : Int32))] [(.int (255 : Int32)), (.int ((p0 * (31 : Int32)) + (1 : Int32))), (.int (1 : Int32)), (.ref b1)])
  refine Fini.st (fun _ k => XS.iand X2.here hx rfl (hb hby d1_24) rfl k) ?_
  show Fini p e below s _ _ _ T2 (mkF m 25 #[.val (.int p0), .val (.ref b1), .val (.int (1 : Int32))] [(.int (((p0 * (31 : Int32)) + (1 : Int32)) &&& (255 : Int32))), (.int (1 : Int32)), (.ref b1)])
  refine Fini.st (fun _ k => XS.i2b X2.here hx rfl (hb hby d1_25) rfl k) ?_
  show Fini p e below s _ _ _ T2 (mkF m 26 #[.val (.int p0), .val (.ref b1), .val (.int (1 : Int32))] [(.int (((p0 * (31 : Int32)) + (1 : Int32)) &&& (255 : Int32)).toInt8.toInt32), (.int (1 : Int32)), (.ref b1)])
  obtain ⟨T3, h3, X3, e3, W3, Ar3, st3⟩ := Ar2.stB X2 hx hZ e2 ⟨by decide, by decide⟩ (g := (mkF m 26 #[.val (.int p0), .val (.ref b1), .val (.int (1 : Int32))] [(.int (((p0 * (31 : Int32)) + (1 : Int32)) &&& (255 : Int32)).toInt8.toInt32), (.int (1 : Int32)), (.ref b1)])) rfl rfl (hb hby d1_26)
  refine Fini.st st3 ?_
  have N3 := Fr.snoc X3 N2 ge_b1
  show Fini p e below s _ _ _ T3 (mkF m 27 #[.val (.int p0), .val (.ref b1), .val (.int (1 : Int32))] [])
  refine Fini.st (fun _ k => XS.iinc X3.here hx rfl (hb hby d1_27) rfl (l' := #[.val (.int p0), .val (.ref b1), .val (.int (2 : Int32))]) rfl k) ?_
  show Fini p e below s _ _ _ T3 (mkF m 30 #[.val (.int p0), .val (.ref b1), .val (.int (2 : Int32))] [])
  refine Fini.st (fun _ k => XS.goto X3.here hx rfl (pc0 := 30) (pc' := 7) rfl (hb hby d1_30) (by decide) (by decide) k) ?_
  show Fini p e below s _ _ _ T3 (mkF m 7 #[.val (.int p0), .val (.ref b1), .val (.int (2 : Int32))] [])
  refine Fini.st (fun _ k => XS.iloadN X3.here hx rfl (hb hby d1_7) rfl k) ?_
  show Fini p e below s _ _ _ T3 (mkF m 8 #[.val (.int p0), .val (.ref b1), .val (.int (2 : Int32))] [(.int (2 : Int32))])
  refine Fini.st (fun _ k => XS.aloadN X3.here hx rfl (hb hby d1_8) rfl rfl k) ?_
  show Fini p e below s _ _ _ T3 (mkF m 9 #[.val (.int p0), .val (.ref b1), .val (.int (2 : Int32))] [(.ref b1), (.int (2 : Int32))])
  refine Fini.st (fun _ k => Ar3.len X3 hx hZ e3 rfl rfl (hb hby d1_9) k) ?_
  show Fini p e below s _ _ _ T3 (mkF m 10 #[.val (.int p0), .val (.ref b1), .val (.int (2 : Int32))] [(.int (16 : Int32)), (.int (2 : Int32))])
  refine Fini.st (fun _ k => XS.icmpNo X3.here hx rfl (hb hby d1_10) rfl (XT.ii_ge_f (by decide : (2 : Int32) < (16 : Int32))) k) ?_
  show Fini p e below s _ _ _ T3 (mkF m 13 #[.val (.int p0), .val (.ref b1), .val (.int (2 : Int32))] [])
  refine Fini.st (fun _ k => XS.aloadN X3.here hx rfl (hb hby d1_13) rfl rfl k) ?_
  show Fini p e below s _ _ _ T3 (mkF m 14 #[.val (.int p0), .val (.ref b1), .val (.int (2 : Int32))] [(.ref b1)])
  refine Fini.st (fun _ k => XS.iloadN X3.here hx rfl (hb hby d1_14) rfl k) ?_
  show Fini p e below s _ _ _ T3 (mkF m 15 #[.val (.int p0), .val (.ref b1), .val (.int (2 : Int32))] [(.int (2 : Int32)), (.ref b1)])
  refine Fini.st (fun _ k => XS.iloadN X3.here hx rfl (hb hby d1_15) rfl k) ?_
  show Fini p e below s _ _ _ T3 (mkF m 16 #[.val (.int p0), .val (.ref b1), .val (.int (2 : Int32))] [(.int p0), (.int (2 : Int32)), (.ref b1)])
  refine Fini.st (fun _ k => XS.bipush X3.here hx rfl (hb hby d1_16) k) ?_
  show Fini p e below s _ _ _ T3 (mkF m 18 #[.val (.int p0), .val (.ref b1), .val (.int (2 : Int32))] [(.int (31 : Int32)), (.int p0), (.int (2 : Int32)), (.ref b1)])
  refine Fini.st (fun _ k => XS.imul X3.here hx rfl (hb hby d1_18) rfl k) ?_
  show Fini p e below s _ _ _ T3 (mkF m 19 #[.val (.int p0), .val (.ref b1), .val (.int (2 : Int32))] [(.int (p0 * (31 : Int32))), (.int (2 : Int32)), (.ref b1)])
  refine Fini.st (fun _ k => XS.iloadN X3.here hx rfl (hb hby d1_19) rfl k) ?_
  show Fini p e below s _ _ _ T3 (mkF m 20 #[.val (.int p0), .val (.ref b1), .val (.int (2 : Int32))] [(.int (2 : Int32)), (.int (p0 * (31 : Int32))), (.int (2 : Int32)), (.ref b1)])
  refine Fini.st (fun _ k => XS.iadd X3.here hx rfl (hb hby d1_20) rfl k) ?_
  show Fini p e below s _ _ _ T3 (mkF m 21 #[.val (.int p0), .val (.ref b1), .val (.int (2 : Int32))] [(.int ((p0 * (31 : Int32)) + (2 : Int32))), (.int (2 : Int32)), (.ref b1)])
  refine Fini.st (fun _ k => XS.sipush X3.here hx rfl (hb hby d1_21) k) ?_
  show Fini p e below s _ _ _ T3 (mkF m 24 #[.val (.int p0), .val (.ref b1), .val (.int (2 : Int32))] [(.int (255 : Int32)), (.int ((p0 * (31 : Int32)) + (2 : Int32))), (.int (2 : Int32)), (.ref b1)])
  refine Fini.st (fun _ k => XS.iand X3.here hx rfl (hb hby d1_24) rfl k) ?_
  show Fini p e below s _ _ _ T3 (mkF m 25 #[.val (.int p0), .val (.ref b1), .val (.int (2 : Int32))] [(.int (((p0 * (31 : Int32)) + (2 : Int32)) &&& (255 : Int32))), (.int (2 : Int32)), (.ref b1)])
  refine Fini.st (fun _ k => XS.i2b X3.here hx rfl (hb hby d1_25) rfl k) ?_
  show Fini p e below s _ _ _ T3 (mkF m 26 #[.val (.int p0), .val (.ref b1), .val (.int (2 : Int32))] [(.int (((p0 * (31 : Int32)) + (2 : Int32)) &&& (255 : Int32)).toInt8.toInt32), (.int (2 : Int32)), (.ref b1)])
  obtain ⟨T4, h4, X4, e4, W4, Ar4, st4⟩ := Ar3.stB X3 hx hZ e3 ⟨by decide, by decide⟩ (g := (mkF m 26 #[.val (.int p0), .val (.ref b1), .val (.int (2 : Int32))] [(.int (((p0 * (31 : Int32)) + (2 : Int32)) &&& (255 : Int32)).toInt8.toInt32), (.int (2 : Int32)), (.ref b1)])) rfl rfl (hb hby d1_26)
  refine Fini.st st4 ?_
  have N4 := Fr.snoc X4 N3 ge_b1
  show Fini p e below s _ _ _ T4 (mkF m 27 #[.val (.int p0), .val (.ref b1), .val (.int (2 : Int32))] [])
  refine Fini.st (fun _ k => XS.iinc X4.here hx rfl (hb hby d1_27) rfl (l' := #[.val (.int p0), .val (.ref b1), .val (.int (3 : Int32))]) rfl k) ?_
  show Fini p e below s _ _ _ T4 (mkF m 30 #[.val (.int p0), .val (.ref b1), .val (.int (3 : Int32))] [])
  refine Fini.st (fun _ k => XS.goto X4.here hx rfl (pc0 := 30) (pc' := 7) rfl (hb hby d1_30) (by decide) (by decide) k) ?_
  show Fini p e below s _ _ _ T4 (mkF m 7 #[.val (.int p0), .val (.ref b1), .val (.int (3 : Int32))] [])
  refine Fini.st (fun _ k => XS.iloadN X4.here hx rfl (hb hby d1_7) rfl k) ?_
  show Fini p e below s _ _ _ T4 (mkF m 8 #[.val (.int p0), .val (.ref b1), .val (.int (3 : Int32))] [(.int (3 : Int32))])
  refine Fini.st (fun _ k => XS.aloadN X4.here hx rfl (hb hby d1_8) rfl rfl k) ?_
  show Fini p e below s _ _ _ T4 (mkF m 9 #[.val (.int p0), .val (.ref b1), .val (.int (3 : Int32))] [(.ref b1), (.int (3 : Int32))])
  refine Fini.st (fun _ k => Ar4.len X4 hx hZ e4 rfl rfl (hb hby d1_9) k) ?_
  show Fini p e below s _ _ _ T4 (mkF m 10 #[.val (.int p0), .val (.ref b1), .val (.int (3 : Int32))] [(.int (16 : Int32)), (.int (3 : Int32))])
  refine Fini.st (fun _ k => XS.icmpNo X4.here hx rfl (hb hby d1_10) rfl (XT.ii_ge_f (by decide : (3 : Int32) < (16 : Int32))) k) ?_
  show Fini p e below s _ _ _ T4 (mkF m 13 #[.val (.int p0), .val (.ref b1), .val (.int (3 : Int32))] [])
  refine Fini.st (fun _ k => XS.aloadN X4.here hx rfl (hb hby d1_13) rfl rfl k) ?_
  show Fini p e below s _ _ _ T4 (mkF m 14 #[.val (.int p0), .val (.ref b1), .val (.int (3 : Int32))] [(.ref b1)])
  refine Fini.st (fun _ k => XS.iloadN X4.here hx rfl (hb hby d1_14) rfl k) ?_
  show Fini p e below s _ _ _ T4 (mkF m 15 #[.val (.int p0), .val (.ref b1), .val (.int (3 : Int32))] [(.int (3 : Int32)), (.ref b1)])
  refine Fini.st (fun _ k => XS.iloadN X4.here hx rfl (hb hby d1_15) rfl k) ?_
  show Fini p e below s _ _ _ T4 (mkF m 16 #[.val (.int p0), .val (.ref b1), .val (.int (3 : Int32))] [(.int p0), (.int (3 : Int32)), (.ref b1)])
  refine Fini.st (fun _ k => XS.bipush X4.here hx rfl (hb hby d1_16) k) ?_
  show Fini p e below s _ _ _ T4 (mkF m 18 #[.val (.int p0), .val (.ref b1), .val (.int (3 : Int32))] [(.int (31 : Int32)), (.int p0), (.int (3 : Int32)), (.ref b1)])
  refine Fini.st (fun _ k => XS.imul X4.here hx rfl (hb hby d1_18) rfl k) ?_
  show Fini p e below s _ _ _ T4 (mkF m 19 #[.val (.int p0), .val (.ref b1), .val (.int (3 : Int32))] [(.int (p0 * (31 : Int32))), (.int (3 : Int32)), (.ref b1)])
  refine Fini.st (fun _ k => XS.iloadN X4.here hx rfl (hb hby d1_19) rfl k) ?_
  show Fini p e below s _ _ _ T4 (mkF m 20 #[.val (.int p0), .val (.ref b1), .val (.int (3 : Int32))] [(.int (3 : Int32)), (.int (p0 * (31 : Int32))), (.int (3 : Int32)), (.ref b1)])
  refine Fini.st (fun _ k => XS.iadd X4.here hx rfl (hb hby d1_20) rfl k) ?_
  show Fini p e below s _ _ _ T4 (mkF m 21 #[.val (.int p0), .val (.ref b1), .val (.int (3 : Int32))] [(.int ((p0 * (31 : Int32)) + (3 : Int32))), (.int (3 : Int32)), (.ref b1)])
  refine Fini.st (fun _ k => XS.sipush X4.here hx rfl (hb hby d1_21) k) ?_
  show Fini p e below s _ _ _ T4 (mkF m 24 #[.val (.int p0), .val (.ref b1), .val (.int (3 : Int32))] [(.int (255 : Int32)), (.int ((p0 * (31 : Int32)) + (3 : Int32))), (.int (3 : Int32)), (.ref b1)])
  refine Fini.st (fun _ k => XS.iand X4.here hx rfl (hb hby d1_24) rfl k) ?_
  show Fini p e below s _ _ _ T4 (mkF m 25 #[.val (.int p0), .val (.ref b1), .val (.int (3 : Int32))] [(.int (((p0 * (31 : Int32)) + (3 : Int32)) &&& (255 : Int32))), (.int (3 : Int32)), (.ref b1)])
  refine Fini.st (fun _ k => XS.i2b X4.here hx rfl (hb hby d1_25) rfl k) ?_
  show Fini p e below s _ _ _ T4 (mkF m 26 #[.val (.int p0), .val (.ref b1), .val (.int (3 : Int32))] [(.int (((p0 * (31 : Int32)) + (3 : Int32)) &&& (255 : Int32)).toInt8.toInt32), (.int (3 : Int32)), (.ref b1)])
  obtain ⟨T5, h5, X5, e5, W5, Ar5, st5⟩ := Ar4.stB X4 hx hZ e4 ⟨by decide, by decide⟩ (g := (mkF m 26 #[.val (.int p0), .val (.ref b1), .val (.int (3 : Int32))] [(.int (((p0 * (31 : Int32)) + (3 : Int32)) &&& (255 : Int32)).toInt8.toInt32), (.int (3 : Int32)), (.ref b1)])) rfl rfl (hb hby d1_26)
  refine Fini.st st5 ?_
  have N5 := Fr.snoc X5 N4 ge_b1
  show Fini p e below s _ _ _ T5 (mkF m 27 #[.val (.int p0), .val (.ref b1), .val (.int (3 : Int32))] [])
  refine Fini.st (fun _ k => XS.iinc X5.here hx rfl (hb hby d1_27) rfl (l' := #[.val (.int p0), .val (.ref b1), .val (.int (4 : Int32))]) rfl k) ?_
  show Fini p e below s _ _ _ T5 (mkF m 30 #[.val (.int p0), .val (.ref b1), .val (.int (4 : Int32))] [])
  refine Fini.st (fun _ k => XS.goto X5.here hx rfl (pc0 := 30) (pc' := 7) rfl (hb hby d1_30) (by decide) (by decide) k) ?_
  show Fini p e below s _ _ _ T5 (mkF m 7 #[.val (.int p0), .val (.ref b1), .val (.int (4 : Int32))] [])
  refine Fini.st (fun _ k => XS.iloadN X5.here hx rfl (hb hby d1_7) rfl k) ?_
  show Fini p e below s _ _ _ T5 (mkF m 8 #[.val (.int p0), .val (.ref b1), .val (.int (4 : Int32))] [(.int (4 : Int32))])
  refine Fini.st (fun _ k => XS.aloadN X5.here hx rfl (hb hby d1_8) rfl rfl k) ?_
  show Fini p e below s _ _ _ T5 (mkF m 9 #[.val (.int p0), .val (.ref b1), .val (.int (4 : Int32))] [(.ref b1), (.int (4 : Int32))])
  refine Fini.st (fun _ k => Ar5.len X5 hx hZ e5 rfl rfl (hb hby d1_9) k) ?_
  show Fini p e below s _ _ _ T5 (mkF m 10 #[.val (.int p0), .val (.ref b1), .val (.int (4 : Int32))] [(.int (16 : Int32)), (.int (4 : Int32))])
  refine Fini.st (fun _ k => XS.icmpNo X5.here hx rfl (hb hby d1_10) rfl (XT.ii_ge_f (by decide : (4 : Int32) < (16 : Int32))) k) ?_
  show Fini p e below s _ _ _ T5 (mkF m 13 #[.val (.int p0), .val (.ref b1), .val (.int (4 : Int32))] [])
  refine Fini.st (fun _ k => XS.aloadN X5.here hx rfl (hb hby d1_13) rfl rfl k) ?_
  show Fini p e below s _ _ _ T5 (mkF m 14 #[.val (.int p0), .val (.ref b1), .val (.int (4 : Int32))] [(.ref b1)])
  refine Fini.st (fun _ k => XS.iloadN X5.here hx rfl (hb hby d1_14) rfl k) ?_
  show Fini p e below s _ _ _ T5 (mkF m 15 #[.val (.int p0), .val (.ref b1), .val (.int (4 : Int32))] [(.int (4 : Int32)), (.ref b1)])
  refine Fini.st (fun _ k => XS.iloadN X5.here hx rfl (hb hby d1_15) rfl k) ?_
  show Fini p e below s _ _ _ T5 (mkF m 16 #[.val (.int p0), .val (.ref b1), .val (.int (4 : Int32))] [(.int p0), (.int (4 : Int32)), (.ref b1)])
  refine Fini.st (fun _ k => XS.bipush X5.here hx rfl (hb hby d1_16) k) ?_
  show Fini p e below s _ _ _ T5 (mkF m 18 #[.val (.int p0), .val (.ref b1), .val (.int (4 : Int32))] [(.int (31 : Int32)), (.int p0), (.int (4 : Int32)), (.ref b1)])
  refine Fini.st (fun _ k => XS.imul X5.here hx rfl (hb hby d1_18) rfl k) ?_
  show Fini p e below s _ _ _ T5 (mkF m 19 #[.val (.int p0), .val (.ref b1), .val (.int (4 : Int32))] [(.int (p0 * (31 : Int32))), (.int (4 : Int32)), (.ref b1)])
  refine Fini.st (fun _ k => XS.iloadN X5.here hx rfl (hb hby d1_19) rfl k) ?_
  show Fini p e below s _ _ _ T5 (mkF m 20 #[.val (.int p0), .val (.ref b1), .val (.int (4 : Int32))] [(.int (4 : Int32)), (.int (p0 * (31 : Int32))), (.int (4 : Int32)), (.ref b1)])
  refine Fini.st (fun _ k => XS.iadd X5.here hx rfl (hb hby d1_20) rfl k) ?_
  show Fini p e below s _ _ _ T5 (mkF m 21 #[.val (.int p0), .val (.ref b1), .val (.int (4 : Int32))] [(.int ((p0 * (31 : Int32)) + (4 : Int32))), (.int (4 : Int32)), (.ref b1)])
  refine Fini.st (fun _ k => XS.sipush X5.here hx rfl (hb hby d1_21) k) ?_
  show Fini p e below s _ _ _ T5 (mkF m 24 #[.val (.int p0), .val (.ref b1), .val (.int (4 : Int32))] [(.int (255 : Int32)), (.int ((p0 * (31 : Int32)) + (4 : Int32))), (.int (4 : Int32)), (.ref b1)])
  refine Fini.st (fun _ k => XS.iand X5.here hx rfl (hb hby d1_24) rfl k) ?_
  show Fini p e below s _ _ _ T5 (mkF m 25 #[.val (.int p0), .val (.ref b1), .val (.int (4 : Int32))] [(.int (((p0 * (31 : Int32)) + (4 : Int32)) &&& (255 : Int32))), (.int (4 : Int32)), (.ref b1)])
  refine Fini.st (fun _ k => XS.i2b X5.here hx rfl (hb hby d1_25) rfl k) ?_
  show Fini p e below s _ _ _ T5 (mkF m 26 #[.val (.int p0), .val (.ref b1), .val (.int (4 : Int32))] [(.int (((p0 * (31 : Int32)) + (4 : Int32)) &&& (255 : Int32)).toInt8.toInt32), (.int (4 : Int32)), (.ref b1)])
  obtain ⟨T6, h6, X6, e6, W6, Ar6, st6⟩ := Ar5.stB X5 hx hZ e5 ⟨by decide, by decide⟩ (g := (mkF m 26 #[.val (.int p0), .val (.ref b1), .val (.int (4 : Int32))] [(.int (((p0 * (31 : Int32)) + (4 : Int32)) &&& (255 : Int32)).toInt8.toInt32), (.int (4 : Int32)), (.ref b1)])) rfl rfl (hb hby d1_26)
  refine Fini.st st6 ?_
  have N6 := Fr.snoc X6 N5 ge_b1
  show Fini p e below s _ _ _ T6 (mkF m 27 #[.val (.int p0), .val (.ref b1), .val (.int (4 : Int32))] [])
  refine Fini.st (fun _ k => XS.iinc X6.here hx rfl (hb hby d1_27) rfl (l' := #[.val (.int p0), .val (.ref b1), .val (.int (5 : Int32))]) rfl k) ?_
  show Fini p e below s _ _ _ T6 (mkF m 30 #[.val (.int p0), .val (.ref b1), .val (.int (5 : Int32))] [])
  refine Fini.st (fun _ k => XS.goto X6.here hx rfl (pc0 := 30) (pc' := 7) rfl (hb hby d1_30) (by decide) (by decide) k) ?_
  show Fini p e below s _ _ _ T6 (mkF m 7 #[.val (.int p0), .val (.ref b1), .val (.int (5 : Int32))] [])
  refine Fini.st (fun _ k => XS.iloadN X6.here hx rfl (hb hby d1_7) rfl k) ?_
  show Fini p e below s _ _ _ T6 (mkF m 8 #[.val (.int p0), .val (.ref b1), .val (.int (5 : Int32))] [(.int (5 : Int32))])
  refine Fini.st (fun _ k => XS.aloadN X6.here hx rfl (hb hby d1_8) rfl rfl k) ?_
  show Fini p e below s _ _ _ T6 (mkF m 9 #[.val (.int p0), .val (.ref b1), .val (.int (5 : Int32))] [(.ref b1), (.int (5 : Int32))])
  refine Fini.st (fun _ k => Ar6.len X6 hx hZ e6 rfl rfl (hb hby d1_9) k) ?_
  show Fini p e below s _ _ _ T6 (mkF m 10 #[.val (.int p0), .val (.ref b1), .val (.int (5 : Int32))] [(.int (16 : Int32)), (.int (5 : Int32))])
  refine Fini.st (fun _ k => XS.icmpNo X6.here hx rfl (hb hby d1_10) rfl (XT.ii_ge_f (by decide : (5 : Int32) < (16 : Int32))) k) ?_
  show Fini p e below s _ _ _ T6 (mkF m 13 #[.val (.int p0), .val (.ref b1), .val (.int (5 : Int32))] [])
  refine Fini.st (fun _ k => XS.aloadN X6.here hx rfl (hb hby d1_13) rfl rfl k) ?_
  show Fini p e below s _ _ _ T6 (mkF m 14 #[.val (.int p0), .val (.ref b1), .val (.int (5 : Int32))] [(.ref b1)])
  refine Fini.st (fun _ k => XS.iloadN X6.here hx rfl (hb hby d1_14) rfl k) ?_
  show Fini p e below s _ _ _ T6 (mkF m 15 #[.val (.int p0), .val (.ref b1), .val (.int (5 : Int32))] [(.int (5 : Int32)), (.ref b1)])
  refine Fini.st (fun _ k => XS.iloadN X6.here hx rfl (hb hby d1_15) rfl k) ?_
  show Fini p e below s _ _ _ T6 (mkF m 16 #[.val (.int p0), .val (.ref b1), .val (.int (5 : Int32))] [(.int p0), (.int (5 : Int32)), (.ref b1)])
  refine Fini.st (fun _ k => XS.bipush X6.here hx rfl (hb hby d1_16) k) ?_
  show Fini p e below s _ _ _ T6 (mkF m 18 #[.val (.int p0), .val (.ref b1), .val (.int (5 : Int32))] [(.int (31 : Int32)), (.int p0), (.int (5 : Int32)), (.ref b1)])
  refine Fini.st (fun _ k => XS.imul X6.here hx rfl (hb hby d1_18) rfl k) ?_
  show Fini p e below s _ _ _ T6 (mkF m 19 #[.val (.int p0), .val (.ref b1), .val (.int (5 : Int32))] [(.int (p0 * (31 : Int32))), (.int (5 : Int32)), (.ref b1)])
  refine Fini.st (fun _ k => XS.iloadN X6.here hx rfl (hb hby d1_19) rfl k) ?_
  show Fini p e below s _ _ _ T6 (mkF m 20 #[.val (.int p0), .val (.ref b1), .val (.int (5 : Int32))] [(.int (5 : Int32)), (.int (p0 * (31 : Int32))), (.int (5 : Int32)), (.ref b1)])
  refine Fini.st (fun _ k => XS.iadd X6.here hx rfl (hb hby d1_20) rfl k) ?_
  show Fini p e below s _ _ _ T6 (mkF m 21 #[.val (.int p0), .val (.ref b1), .val (.int (5 : Int32))] [(.int ((p0 * (31 : Int32)) + (5 : Int32))), (.int (5 : Int32)), (.ref b1)])
  refine Fini.st (fun _ k => XS.sipush X6.here hx rfl (hb hby d1_21) k) ?_
  show Fini p e below s _ _ _ T6 (mkF m 24 #[.val (.int p0), .val (.ref b1), .val (.int (5 : Int32))] [(.int (255 : Int32)), (.int ((p0 * (31 : Int32)) + (5 : Int32))), (.int (5 : Int32)), (.ref b1)])
  refine Fini.st (fun _ k => XS.iand X6.here hx rfl (hb hby d1_24) rfl k) ?_
  show Fini p e below s _ _ _ T6 (mkF m 25 #[.val (.int p0), .val (.ref b1), .val (.int (5 : Int32))] [(.int (((p0 * (31 : Int32)) + (5 : Int32)) &&& (255 : Int32))), (.int (5 : Int32)), (.ref b1)])
  refine Fini.st (fun _ k => XS.i2b X6.here hx rfl (hb hby d1_25) rfl k) ?_
  show Fini p e below s _ _ _ T6 (mkF m 26 #[.val (.int p0), .val (.ref b1), .val (.int (5 : Int32))] [(.int (((p0 * (31 : Int32)) + (5 : Int32)) &&& (255 : Int32)).toInt8.toInt32), (.int (5 : Int32)), (.ref b1)])
  obtain ⟨T7, h7, X7, e7, W7, Ar7, st7⟩ := Ar6.stB X6 hx hZ e6 ⟨by decide, by decide⟩ (g := (mkF m 26 #[.val (.int p0), .val (.ref b1), .val (.int (5 : Int32))] [(.int (((p0 * (31 : Int32)) + (5 : Int32)) &&& (255 : Int32)).toInt8.toInt32), (.int (5 : Int32)), (.ref b1)])) rfl rfl (hb hby d1_26)
  refine Fini.st st7 ?_
  have N7 := Fr.snoc X7 N6 ge_b1
  show Fini p e below s _ _ _ T7 (mkF m 27 #[.val (.int p0), .val (.ref b1), .val (.int (5 : Int32))] [])
  refine Fini.st (fun _ k => XS.iinc X7.here hx rfl (hb hby d1_27) rfl (l' := #[.val (.int p0), .val (.ref b1), .val (.int (6 : Int32))]) rfl k) ?_
  show Fini p e below s _ _ _ T7 (mkF m 30 #[.val (.int p0), .val (.ref b1), .val (.int (6 : Int32))] [])
  refine Fini.st (fun _ k => XS.goto X7.here hx rfl (pc0 := 30) (pc' := 7) rfl (hb hby d1_30) (by decide) (by decide) k) ?_
  show Fini p e below s _ _ _ T7 (mkF m 7 #[.val (.int p0), .val (.ref b1), .val (.int (6 : Int32))] [])
  refine Fini.st (fun _ k => XS.iloadN X7.here hx rfl (hb hby d1_7) rfl k) ?_
  show Fini p e below s _ _ _ T7 (mkF m 8 #[.val (.int p0), .val (.ref b1), .val (.int (6 : Int32))] [(.int (6 : Int32))])
  refine Fini.st (fun _ k => XS.aloadN X7.here hx rfl (hb hby d1_8) rfl rfl k) ?_
  show Fini p e below s _ _ _ T7 (mkF m 9 #[.val (.int p0), .val (.ref b1), .val (.int (6 : Int32))] [(.ref b1), (.int (6 : Int32))])
  refine Fini.st (fun _ k => Ar7.len X7 hx hZ e7 rfl rfl (hb hby d1_9) k) ?_
  show Fini p e below s _ _ _ T7 (mkF m 10 #[.val (.int p0), .val (.ref b1), .val (.int (6 : Int32))] [(.int (16 : Int32)), (.int (6 : Int32))])
  refine Fini.st (fun _ k => XS.icmpNo X7.here hx rfl (hb hby d1_10) rfl (XT.ii_ge_f (by decide : (6 : Int32) < (16 : Int32))) k) ?_
  show Fini p e below s _ _ _ T7 (mkF m 13 #[.val (.int p0), .val (.ref b1), .val (.int (6 : Int32))] [])
  refine Fini.st (fun _ k => XS.aloadN X7.here hx rfl (hb hby d1_13) rfl rfl k) ?_
  show Fini p e below s _ _ _ T7 (mkF m 14 #[.val (.int p0), .val (.ref b1), .val (.int (6 : Int32))] [(.ref b1)])
  refine Fini.st (fun _ k => XS.iloadN X7.here hx rfl (hb hby d1_14) rfl k) ?_
  show Fini p e below s _ _ _ T7 (mkF m 15 #[.val (.int p0), .val (.ref b1), .val (.int (6 : Int32))] [(.int (6 : Int32)), (.ref b1)])
  refine Fini.st (fun _ k => XS.iloadN X7.here hx rfl (hb hby d1_15) rfl k) ?_
  show Fini p e below s _ _ _ T7 (mkF m 16 #[.val (.int p0), .val (.ref b1), .val (.int (6 : Int32))] [(.int p0), (.int (6 : Int32)), (.ref b1)])
  refine Fini.st (fun _ k => XS.bipush X7.here hx rfl (hb hby d1_16) k) ?_
  show Fini p e below s _ _ _ T7 (mkF m 18 #[.val (.int p0), .val (.ref b1), .val (.int (6 : Int32))] [(.int (31 : Int32)), (.int p0), (.int (6 : Int32)), (.ref b1)])
  refine Fini.st (fun _ k => XS.imul X7.here hx rfl (hb hby d1_18) rfl k) ?_
  show Fini p e below s _ _ _ T7 (mkF m 19 #[.val (.int p0), .val (.ref b1), .val (.int (6 : Int32))] [(.int (p0 * (31 : Int32))), (.int (6 : Int32)), (.ref b1)])
  refine Fini.st (fun _ k => XS.iloadN X7.here hx rfl (hb hby d1_19) rfl k) ?_
  show Fini p e below s _ _ _ T7 (mkF m 20 #[.val (.int p0), .val (.ref b1), .val (.int (6 : Int32))] [(.int (6 : Int32)), (.int (p0 * (31 : Int32))), (.int (6 : Int32)), (.ref b1)])
  refine Fini.st (fun _ k => XS.iadd X7.here hx rfl (hb hby d1_20) rfl k) ?_
  show Fini p e below s _ _ _ T7 (mkF m 21 #[.val (.int p0), .val (.ref b1), .val (.int (6 : Int32))] [(.int ((p0 * (31 : Int32)) + (6 : Int32))), (.int (6 : Int32)), (.ref b1)])
  refine Fini.st (fun _ k => XS.sipush X7.here hx rfl (hb hby d1_21) k) ?_
  show Fini p e below s _ _ _ T7 (mkF m 24 #[.val (.int p0), .val (.ref b1), .val (.int (6 : Int32))] [(.int (255 : Int32)), (.int ((p0 * (31 : Int32)) + (6 : Int32))), (.int (6 : Int32)), (.ref b1)])
  refine Fini.st (fun _ k => XS.iand X7.here hx rfl (hb hby d1_24) rfl k) ?_
  show Fini p e below s _ _ _ T7 (mkF m 25 #[.val (.int p0), .val (.ref b1), .val (.int (6 : Int32))] [(.int (((p0 * (31 : Int32)) + (6 : Int32)) &&& (255 : Int32))), (.int (6 : Int32)), (.ref b1)])
  refine Fini.st (fun _ k => XS.i2b X7.here hx rfl (hb hby d1_25) rfl k) ?_
  show Fini p e below s _ _ _ T7 (mkF m 26 #[.val (.int p0), .val (.ref b1), .val (.int (6 : Int32))] [(.int (((p0 * (31 : Int32)) + (6 : Int32)) &&& (255 : Int32)).toInt8.toInt32), (.int (6 : Int32)), (.ref b1)])
  obtain ⟨T8, h8, X8, e8, W8, Ar8, st8⟩ := Ar7.stB X7 hx hZ e7 ⟨by decide, by decide⟩ (g := (mkF m 26 #[.val (.int p0), .val (.ref b1), .val (.int (6 : Int32))] [(.int (((p0 * (31 : Int32)) + (6 : Int32)) &&& (255 : Int32)).toInt8.toInt32), (.int (6 : Int32)), (.ref b1)])) rfl rfl (hb hby d1_26)
  refine Fini.st st8 ?_
  have N8 := Fr.snoc X8 N7 ge_b1
  show Fini p e below s _ _ _ T8 (mkF m 27 #[.val (.int p0), .val (.ref b1), .val (.int (6 : Int32))] [])
  refine Fini.st (fun _ k => XS.iinc X8.here hx rfl (hb hby d1_27) rfl (l' := #[.val (.int p0), .val (.ref b1), .val (.int (7 : Int32))]) rfl k) ?_
  show Fini p e below s _ _ _ T8 (mkF m 30 #[.val (.int p0), .val (.ref b1), .val (.int (7 : Int32))] [])
  refine Fini.st (fun _ k => XS.goto X8.here hx rfl (pc0 := 30) (pc' := 7) rfl (hb hby d1_30) (by decide) (by decide) k) ?_
  show Fini p e below s _ _ _ T8 (mkF m 7 #[.val (.int p0), .val (.ref b1), .val (.int (7 : Int32))] [])
  refine Fini.st (fun _ k => XS.iloadN X8.here hx rfl (hb hby d1_7) rfl k) ?_
  show Fini p e below s _ _ _ T8 (mkF m 8 #[.val (.int p0), .val (.ref b1), .val (.int (7 : Int32))] [(.int (7 : Int32))])
  refine Fini.st (fun _ k => XS.aloadN X8.here hx rfl (hb hby d1_8) rfl rfl k) ?_
  show Fini p e below s _ _ _ T8 (mkF m 9 #[.val (.int p0), .val (.ref b1), .val (.int (7 : Int32))] [(.ref b1), (.int (7 : Int32))])
  refine Fini.st (fun _ k => Ar8.len X8 hx hZ e8 rfl rfl (hb hby d1_9) k) ?_
  show Fini p e below s _ _ _ T8 (mkF m 10 #[.val (.int p0), .val (.ref b1), .val (.int (7 : Int32))] [(.int (16 : Int32)), (.int (7 : Int32))])
  refine Fini.st (fun _ k => XS.icmpNo X8.here hx rfl (hb hby d1_10) rfl (XT.ii_ge_f (by decide : (7 : Int32) < (16 : Int32))) k) ?_
  show Fini p e below s _ _ _ T8 (mkF m 13 #[.val (.int p0), .val (.ref b1), .val (.int (7 : Int32))] [])
  refine Fini.st (fun _ k => XS.aloadN X8.here hx rfl (hb hby d1_13) rfl rfl k) ?_
  show Fini p e below s _ _ _ T8 (mkF m 14 #[.val (.int p0), .val (.ref b1), .val (.int (7 : Int32))] [(.ref b1)])
  refine Fini.st (fun _ k => XS.iloadN X8.here hx rfl (hb hby d1_14) rfl k) ?_
  show Fini p e below s _ _ _ T8 (mkF m 15 #[.val (.int p0), .val (.ref b1), .val (.int (7 : Int32))] [(.int (7 : Int32)), (.ref b1)])
  refine Fini.st (fun _ k => XS.iloadN X8.here hx rfl (hb hby d1_15) rfl k) ?_
  show Fini p e below s _ _ _ T8 (mkF m 16 #[.val (.int p0), .val (.ref b1), .val (.int (7 : Int32))] [(.int p0), (.int (7 : Int32)), (.ref b1)])
  refine Fini.st (fun _ k => XS.bipush X8.here hx rfl (hb hby d1_16) k) ?_
  show Fini p e below s _ _ _ T8 (mkF m 18 #[.val (.int p0), .val (.ref b1), .val (.int (7 : Int32))] [(.int (31 : Int32)), (.int p0), (.int (7 : Int32)), (.ref b1)])
  refine Fini.st (fun _ k => XS.imul X8.here hx rfl (hb hby d1_18) rfl k) ?_
  show Fini p e below s _ _ _ T8 (mkF m 19 #[.val (.int p0), .val (.ref b1), .val (.int (7 : Int32))] [(.int (p0 * (31 : Int32))), (.int (7 : Int32)), (.ref b1)])
  refine Fini.st (fun _ k => XS.iloadN X8.here hx rfl (hb hby d1_19) rfl k) ?_
  show Fini p e below s _ _ _ T8 (mkF m 20 #[.val (.int p0), .val (.ref b1), .val (.int (7 : Int32))] [(.int (7 : Int32)), (.int (p0 * (31 : Int32))), (.int (7 : Int32)), (.ref b1)])
  refine Fini.st (fun _ k => XS.iadd X8.here hx rfl (hb hby d1_20) rfl k) ?_
  show Fini p e below s _ _ _ T8 (mkF m 21 #[.val (.int p0), .val (.ref b1), .val (.int (7 : Int32))] [(.int ((p0 * (31 : Int32)) + (7 : Int32))), (.int (7 : Int32)), (.ref b1)])
  refine Fini.st (fun _ k => XS.sipush X8.here hx rfl (hb hby d1_21) k) ?_
  show Fini p e below s _ _ _ T8 (mkF m 24 #[.val (.int p0), .val (.ref b1), .val (.int (7 : Int32))] [(.int (255 : Int32)), (.int ((p0 * (31 : Int32)) + (7 : Int32))), (.int (7 : Int32)), (.ref b1)])
  refine Fini.st (fun _ k => XS.iand X8.here hx rfl (hb hby d1_24) rfl k) ?_
  show Fini p e below s _ _ _ T8 (mkF m 25 #[.val (.int p0), .val (.ref b1), .val (.int (7 : Int32))] [(.int (((p0 * (31 : Int32)) + (7 : Int32)) &&& (255 : Int32))), (.int (7 : Int32)), (.ref b1)])
  refine Fini.st (fun _ k => XS.i2b X8.here hx rfl (hb hby d1_25) rfl k) ?_
  show Fini p e below s _ _ _ T8 (mkF m 26 #[.val (.int p0), .val (.ref b1), .val (.int (7 : Int32))] [(.int (((p0 * (31 : Int32)) + (7 : Int32)) &&& (255 : Int32)).toInt8.toInt32), (.int (7 : Int32)), (.ref b1)])
  obtain ⟨T9, h9, X9, e9, W9, Ar9, st9⟩ := Ar8.stB X8 hx hZ e8 ⟨by decide, by decide⟩ (g := (mkF m 26 #[.val (.int p0), .val (.ref b1), .val (.int (7 : Int32))] [(.int (((p0 * (31 : Int32)) + (7 : Int32)) &&& (255 : Int32)).toInt8.toInt32), (.int (7 : Int32)), (.ref b1)])) rfl rfl (hb hby d1_26)
  refine Fini.st st9 ?_
  have N9 := Fr.snoc X9 N8 ge_b1
  show Fini p e below s _ _ _ T9 (mkF m 27 #[.val (.int p0), .val (.ref b1), .val (.int (7 : Int32))] [])
  refine Fini.st (fun _ k => XS.iinc X9.here hx rfl (hb hby d1_27) rfl (l' := #[.val (.int p0), .val (.ref b1), .val (.int (8 : Int32))]) rfl k) ?_
  show Fini p e below s _ _ _ T9 (mkF m 30 #[.val (.int p0), .val (.ref b1), .val (.int (8 : Int32))] [])
  refine Fini.st (fun _ k => XS.goto X9.here hx rfl (pc0 := 30) (pc' := 7) rfl (hb hby d1_30) (by decide) (by decide) k) ?_
  show Fini p e below s _ _ _ T9 (mkF m 7 #[.val (.int p0), .val (.ref b1), .val (.int (8 : Int32))] [])
  refine Fini.st (fun _ k => XS.iloadN X9.here hx rfl (hb hby d1_7) rfl k) ?_
  show Fini p e below s _ _ _ T9 (mkF m 8 #[.val (.int p0), .val (.ref b1), .val (.int (8 : Int32))] [(.int (8 : Int32))])
  refine Fini.st (fun _ k => XS.aloadN X9.here hx rfl (hb hby d1_8) rfl rfl k) ?_
  show Fini p e below s _ _ _ T9 (mkF m 9 #[.val (.int p0), .val (.ref b1), .val (.int (8 : Int32))] [(.ref b1), (.int (8 : Int32))])
  refine Fini.st (fun _ k => Ar9.len X9 hx hZ e9 rfl rfl (hb hby d1_9) k) ?_
  show Fini p e below s _ _ _ T9 (mkF m 10 #[.val (.int p0), .val (.ref b1), .val (.int (8 : Int32))] [(.int (16 : Int32)), (.int (8 : Int32))])
  refine Fini.st (fun _ k => XS.icmpNo X9.here hx rfl (hb hby d1_10) rfl (XT.ii_ge_f (by decide : (8 : Int32) < (16 : Int32))) k) ?_
  show Fini p e below s _ _ _ T9 (mkF m 13 #[.val (.int p0), .val (.ref b1), .val (.int (8 : Int32))] [])
  refine Fini.st (fun _ k => XS.aloadN X9.here hx rfl (hb hby d1_13) rfl rfl k) ?_
  show Fini p e below s _ _ _ T9 (mkF m 14 #[.val (.int p0), .val (.ref b1), .val (.int (8 : Int32))] [(.ref b1)])
  refine Fini.st (fun _ k => XS.iloadN X9.here hx rfl (hb hby d1_14) rfl k) ?_
  show Fini p e below s _ _ _ T9 (mkF m 15 #[.val (.int p0), .val (.ref b1), .val (.int (8 : Int32))] [(.int (8 : Int32)), (.ref b1)])
  refine Fini.st (fun _ k => XS.iloadN X9.here hx rfl (hb hby d1_15) rfl k) ?_
  show Fini p e below s _ _ _ T9 (mkF m 16 #[.val (.int p0), .val (.ref b1), .val (.int (8 : Int32))] [(.int p0), (.int (8 : Int32)), (.ref b1)])
  refine Fini.st (fun _ k => XS.bipush X9.here hx rfl (hb hby d1_16) k) ?_
  show Fini p e below s _ _ _ T9 (mkF m 18 #[.val (.int p0), .val (.ref b1), .val (.int (8 : Int32))] [(.int (31 : Int32)), (.int p0), (.int (8 : Int32)), (.ref b1)])
  refine Fini.st (fun _ k => XS.imul X9.here hx rfl (hb hby d1_18) rfl k) ?_
  show Fini p e below s _ _ _ T9 (mkF m 19 #[.val (.int p0), .val (.ref b1), .val (.int (8 : Int32))] [(.int (p0 * (31 : Int32))), (.int (8 : Int32)), (.ref b1)])
  refine Fini.st (fun _ k => XS.iloadN X9.here hx rfl (hb hby d1_19) rfl k) ?_
  show Fini p e below s _ _ _ T9 (mkF m 20 #[.val (.int p0), .val (.ref b1), .val (.int (8 : Int32))] [(.int (8 : Int32)), (.int (p0 * (31 : Int32))), (.int (8 : Int32)), (.ref b1)])
  refine Fini.st (fun _ k => XS.iadd X9.here hx rfl (hb hby d1_20) rfl k) ?_
  show Fini p e below s _ _ _ T9 (mkF m 21 #[.val (.int p0), .val (.ref b1), .val (.int (8 : Int32))] [(.int ((p0 * (31 : Int32)) + (8 : Int32))), (.int (8 : Int32)), (.ref b1)])
  refine Fini.st (fun _ k => XS.sipush X9.here hx rfl (hb hby d1_21) k) ?_
  show Fini p e below s _ _ _ T9 (mkF m 24 #[.val (.int p0), .val (.ref b1), .val (.int (8 : Int32))] [(.int (255 : Int32)), (.int ((p0 * (31 : Int32)) + (8 : Int32))), (.int (8 : Int32)), (.ref b1)])
  refine Fini.st (fun _ k => XS.iand X9.here hx rfl (hb hby d1_24) rfl k) ?_
  show Fini p e below s _ _ _ T9 (mkF m 25 #[.val (.int p0), .val (.ref b1), .val (.int (8 : Int32))] [(.int (((p0 * (31 : Int32)) + (8 : Int32)) &&& (255 : Int32))), (.int (8 : Int32)), (.ref b1)])
  refine Fini.st (fun _ k => XS.i2b X9.here hx rfl (hb hby d1_25) rfl k) ?_
  show Fini p e below s _ _ _ T9 (mkF m 26 #[.val (.int p0), .val (.ref b1), .val (.int (8 : Int32))] [(.int (((p0 * (31 : Int32)) + (8 : Int32)) &&& (255 : Int32)).toInt8.toInt32), (.int (8 : Int32)), (.ref b1)])
  obtain ⟨T10, h10, X10, e10, W10, Ar10, st10⟩ := Ar9.stB X9 hx hZ e9 ⟨by decide, by decide⟩ (g := (mkF m 26 #[.val (.int p0), .val (.ref b1), .val (.int (8 : Int32))] [(.int (((p0 * (31 : Int32)) + (8 : Int32)) &&& (255 : Int32)).toInt8.toInt32), (.int (8 : Int32)), (.ref b1)])) rfl rfl (hb hby d1_26)
  refine Fini.st st10 ?_
  have N10 := Fr.snoc X10 N9 ge_b1
  show Fini p e below s _ _ _ T10 (mkF m 27 #[.val (.int p0), .val (.ref b1), .val (.int (8 : Int32))] [])
  refine Fini.st (fun _ k => XS.iinc X10.here hx rfl (hb hby d1_27) rfl (l' := #[.val (.int p0), .val (.ref b1), .val (.int (9 : Int32))]) rfl k) ?_
  show Fini p e below s _ _ _ T10 (mkF m 30 #[.val (.int p0), .val (.ref b1), .val (.int (9 : Int32))] [])
  refine Fini.st (fun _ k => XS.goto X10.here hx rfl (pc0 := 30) (pc' := 7) rfl (hb hby d1_30) (by decide) (by decide) k) ?_
  show Fini p e below s _ _ _ T10 (mkF m 7 #[.val (.int p0), .val (.ref b1), .val (.int (9 : Int32))] [])
  refine Fini.st (fun _ k => XS.iloadN X10.here hx rfl (hb hby d1_7) rfl k) ?_
  show Fini p e below s _ _ _ T10 (mkF m 8 #[.val (.int p0), .val (.ref b1), .val (.int (9 : Int32))] [(.int (9 : Int32))])
  refine Fini.st (fun _ k => XS.aloadN X10.here hx rfl (hb hby d1_8) rfl rfl k) ?_
  show Fini p e below s _ _ _ T10 (mkF m 9 #[.val (.int p0), .val (.ref b1), .val (.int (9 : Int32))] [(.ref b1), (.int (9 : Int32))])
  refine Fini.st (fun _ k => Ar10.len X10 hx hZ e10 rfl rfl (hb hby d1_9) k) ?_
  show Fini p e below s _ _ _ T10 (mkF m 10 #[.val (.int p0), .val (.ref b1), .val (.int (9 : Int32))] [(.int (16 : Int32)), (.int (9 : Int32))])
  refine Fini.st (fun _ k => XS.icmpNo X10.here hx rfl (hb hby d1_10) rfl (XT.ii_ge_f (by decide : (9 : Int32) < (16 : Int32))) k) ?_
  show Fini p e below s _ _ _ T10 (mkF m 13 #[.val (.int p0), .val (.ref b1), .val (.int (9 : Int32))] [])
  refine Fini.st (fun _ k => XS.aloadN X10.here hx rfl (hb hby d1_13) rfl rfl k) ?_
  show Fini p e below s _ _ _ T10 (mkF m 14 #[.val (.int p0), .val (.ref b1), .val (.int (9 : Int32))] [(.ref b1)])
  refine Fini.st (fun _ k => XS.iloadN X10.here hx rfl (hb hby d1_14) rfl k) ?_
  show Fini p e below s _ _ _ T10 (mkF m 15 #[.val (.int p0), .val (.ref b1), .val (.int (9 : Int32))] [(.int (9 : Int32)), (.ref b1)])
  refine Fini.st (fun _ k => XS.iloadN X10.here hx rfl (hb hby d1_15) rfl k) ?_
  show Fini p e below s _ _ _ T10 (mkF m 16 #[.val (.int p0), .val (.ref b1), .val (.int (9 : Int32))] [(.int p0), (.int (9 : Int32)), (.ref b1)])
  refine Fini.st (fun _ k => XS.bipush X10.here hx rfl (hb hby d1_16) k) ?_
  show Fini p e below s _ _ _ T10 (mkF m 18 #[.val (.int p0), .val (.ref b1), .val (.int (9 : Int32))] [(.int (31 : Int32)), (.int p0), (.int (9 : Int32)), (.ref b1)])
  refine Fini.st (fun _ k => XS.imul X10.here hx rfl (hb hby d1_18) rfl k) ?_
  show Fini p e below s _ _ _ T10 (mkF m 19 #[.val (.int p0), .val (.ref b1), .val (.int (9 : Int32))] [(.int (p0 * (31 : Int32))), (.int (9 : Int32)), (.ref b1)])
  refine Fini.st (fun _ k => XS.iloadN X10.here hx rfl (hb hby d1_19) rfl k) ?_
  show Fini p e below s _ _ _ T10 (mkF m 20 #[.val (.int p0), .val (.ref b1), .val (.int (9 : Int32))] [(.int (9 : Int32)), (.int (p0 * (31 : Int32))), (.int (9 : Int32)), (.ref b1)])
  refine Fini.st (fun _ k => XS.iadd X10.here hx rfl (hb hby d1_20) rfl k) ?_
  show Fini p e below s _ _ _ T10 (mkF m 21 #[.val (.int p0), .val (.ref b1), .val (.int (9 : Int32))] [(.int ((p0 * (31 : Int32)) + (9 : Int32))), (.int (9 : Int32)), (.ref b1)])
  refine Fini.st (fun _ k => XS.sipush X10.here hx rfl (hb hby d1_21) k) ?_
  show Fini p e below s _ _ _ T10 (mkF m 24 #[.val (.int p0), .val (.ref b1), .val (.int (9 : Int32))] [(.int (255 : Int32)), (.int ((p0 * (31 : Int32)) + (9 : Int32))), (.int (9 : Int32)), (.ref b1)])
  refine Fini.st (fun _ k => XS.iand X10.here hx rfl (hb hby d1_24) rfl k) ?_
  show Fini p e below s _ _ _ T10 (mkF m 25 #[.val (.int p0), .val (.ref b1), .val (.int (9 : Int32))] [(.int (((p0 * (31 : Int32)) + (9 : Int32)) &&& (255 : Int32))), (.int (9 : Int32)), (.ref b1)])
  refine Fini.st (fun _ k => XS.i2b X10.here hx rfl (hb hby d1_25) rfl k) ?_
  show Fini p e below s _ _ _ T10 (mkF m 26 #[.val (.int p0), .val (.ref b1), .val (.int (9 : Int32))] [(.int (((p0 * (31 : Int32)) + (9 : Int32)) &&& (255 : Int32)).toInt8.toInt32), (.int (9 : Int32)), (.ref b1)])
  obtain ⟨T11, h11, X11, e11, W11, Ar11, st11⟩ := Ar10.stB X10 hx hZ e10 ⟨by decide, by decide⟩ (g := (mkF m 26 #[.val (.int p0), .val (.ref b1), .val (.int (9 : Int32))] [(.int (((p0 * (31 : Int32)) + (9 : Int32)) &&& (255 : Int32)).toInt8.toInt32), (.int (9 : Int32)), (.ref b1)])) rfl rfl (hb hby d1_26)
  refine Fini.st st11 ?_
  have N11 := Fr.snoc X11 N10 ge_b1
  show Fini p e below s _ _ _ T11 (mkF m 27 #[.val (.int p0), .val (.ref b1), .val (.int (9 : Int32))] [])
  refine Fini.st (fun _ k => XS.iinc X11.here hx rfl (hb hby d1_27) rfl (l' := #[.val (.int p0), .val (.ref b1), .val (.int (10 : Int32))]) rfl k) ?_
  show Fini p e below s _ _ _ T11 (mkF m 30 #[.val (.int p0), .val (.ref b1), .val (.int (10 : Int32))] [])
  refine Fini.st (fun _ k => XS.goto X11.here hx rfl (pc0 := 30) (pc' := 7) rfl (hb hby d1_30) (by decide) (by decide) k) ?_
  show Fini p e below s _ _ _ T11 (mkF m 7 #[.val (.int p0), .val (.ref b1), .val (.int (10 : Int32))] [])
  refine Fini.st (fun _ k => XS.iloadN X11.here hx rfl (hb hby d1_7) rfl k) ?_
  show Fini p e below s _ _ _ T11 (mkF m 8 #[.val (.int p0), .val (.ref b1), .val (.int (10 : Int32))] [(.int (10 : Int32))])
  refine Fini.st (fun _ k => XS.aloadN X11.here hx rfl (hb hby d1_8) rfl rfl k) ?_
  show Fini p e below s _ _ _ T11 (mkF m 9 #[.val (.int p0), .val (.ref b1), .val (.int (10 : Int32))] [(.ref b1), (.int (10 : Int32))])
  refine Fini.st (fun _ k => Ar11.len X11 hx hZ e11 rfl rfl (hb hby d1_9) k) ?_
  show Fini p e below s _ _ _ T11 (mkF m 10 #[.val (.int p0), .val (.ref b1), .val (.int (10 : Int32))] [(.int (16 : Int32)), (.int (10 : Int32))])
  refine Fini.st (fun _ k => XS.icmpNo X11.here hx rfl (hb hby d1_10) rfl (XT.ii_ge_f (by decide : (10 : Int32) < (16 : Int32))) k) ?_
  show Fini p e below s _ _ _ T11 (mkF m 13 #[.val (.int p0), .val (.ref b1), .val (.int (10 : Int32))] [])
  refine Fini.st (fun _ k => XS.aloadN X11.here hx rfl (hb hby d1_13) rfl rfl k) ?_
  show Fini p e below s _ _ _ T11 (mkF m 14 #[.val (.int p0), .val (.ref b1), .val (.int (10 : Int32))] [(.ref b1)])
  refine Fini.st (fun _ k => XS.iloadN X11.here hx rfl (hb hby d1_14) rfl k) ?_
  show Fini p e below s _ _ _ T11 (mkF m 15 #[.val (.int p0), .val (.ref b1), .val (.int (10 : Int32))] [(.int (10 : Int32)), (.ref b1)])
  refine Fini.st (fun _ k => XS.iloadN X11.here hx rfl (hb hby d1_15) rfl k) ?_
  show Fini p e below s _ _ _ T11 (mkF m 16 #[.val (.int p0), .val (.ref b1), .val (.int (10 : Int32))] [(.int p0), (.int (10 : Int32)), (.ref b1)])
  refine Fini.st (fun _ k => XS.bipush X11.here hx rfl (hb hby d1_16) k) ?_
  show Fini p e below s _ _ _ T11 (mkF m 18 #[.val (.int p0), .val (.ref b1), .val (.int (10 : Int32))] [(.int (31 : Int32)), (.int p0), (.int (10 : Int32)), (.ref b1)])
  refine Fini.st (fun _ k => XS.imul X11.here hx rfl (hb hby d1_18) rfl k) ?_
  show Fini p e below s _ _ _ T11 (mkF m 19 #[.val (.int p0), .val (.ref b1), .val (.int (10 : Int32))] [(.int (p0 * (31 : Int32))), (.int (10 : Int32)), (.ref b1)])
  refine Fini.st (fun _ k => XS.iloadN X11.here hx rfl (hb hby d1_19) rfl k) ?_
  show Fini p e below s _ _ _ T11 (mkF m 20 #[.val (.int p0), .val (.ref b1), .val (.int (10 : Int32))] [(.int (10 : Int32)), (.int (p0 * (31 : Int32))), (.int (10 : Int32)), (.ref b1)])
  refine Fini.st (fun _ k => XS.iadd X11.here hx rfl (hb hby d1_20) rfl k) ?_
  show Fini p e below s _ _ _ T11 (mkF m 21 #[.val (.int p0), .val (.ref b1), .val (.int (10 : Int32))] [(.int ((p0 * (31 : Int32)) + (10 : Int32))), (.int (10 : Int32)), (.ref b1)])
  refine Fini.st (fun _ k => XS.sipush X11.here hx rfl (hb hby d1_21) k) ?_
  show Fini p e below s _ _ _ T11 (mkF m 24 #[.val (.int p0), .val (.ref b1), .val (.int (10 : Int32))] [(.int (255 : Int32)), (.int ((p0 * (31 : Int32)) + (10 : Int32))), (.int (10 : Int32)), (.ref b1)])
  refine Fini.st (fun _ k => XS.iand X11.here hx rfl (hb hby d1_24) rfl k) ?_
  show Fini p e below s _ _ _ T11 (mkF m 25 #[.val (.int p0), .val (.ref b1), .val (.int (10 : Int32))] [(.int (((p0 * (31 : Int32)) + (10 : Int32)) &&& (255 : Int32))), (.int (10 : Int32)), (.ref b1)])
  refine Fini.st (fun _ k => XS.i2b X11.here hx rfl (hb hby d1_25) rfl k) ?_
  show Fini p e below s _ _ _ T11 (mkF m 26 #[.val (.int p0), .val (.ref b1), .val (.int (10 : Int32))] [(.int (((p0 * (31 : Int32)) + (10 : Int32)) &&& (255 : Int32)).toInt8.toInt32), (.int (10 : Int32)), (.ref b1)])
  obtain ⟨T12, h12, X12, e12, W12, Ar12, st12⟩ := Ar11.stB X11 hx hZ e11 ⟨by decide, by decide⟩ (g := (mkF m 26 #[.val (.int p0), .val (.ref b1), .val (.int (10 : Int32))] [(.int (((p0 * (31 : Int32)) + (10 : Int32)) &&& (255 : Int32)).toInt8.toInt32), (.int (10 : Int32)), (.ref b1)])) rfl rfl (hb hby d1_26)
  refine Fini.st st12 ?_
  have N12 := Fr.snoc X12 N11 ge_b1
  show Fini p e below s _ _ _ T12 (mkF m 27 #[.val (.int p0), .val (.ref b1), .val (.int (10 : Int32))] [])
  refine Fini.st (fun _ k => XS.iinc X12.here hx rfl (hb hby d1_27) rfl (l' := #[.val (.int p0), .val (.ref b1), .val (.int (11 : Int32))]) rfl k) ?_
  show Fini p e below s _ _ _ T12 (mkF m 30 #[.val (.int p0), .val (.ref b1), .val (.int (11 : Int32))] [])
  refine Fini.st (fun _ k => XS.goto X12.here hx rfl (pc0 := 30) (pc' := 7) rfl (hb hby d1_30) (by decide) (by decide) k) ?_
  show Fini p e below s _ _ _ T12 (mkF m 7 #[.val (.int p0), .val (.ref b1), .val (.int (11 : Int32))] [])
  refine Fini.st (fun _ k => XS.iloadN X12.here hx rfl (hb hby d1_7) rfl k) ?_
  show Fini p e below s _ _ _ T12 (mkF m 8 #[.val (.int p0), .val (.ref b1), .val (.int (11 : Int32))] [(.int (11 : Int32))])
  refine Fini.st (fun _ k => XS.aloadN X12.here hx rfl (hb hby d1_8) rfl rfl k) ?_
  show Fini p e below s _ _ _ T12 (mkF m 9 #[.val (.int p0), .val (.ref b1), .val (.int (11 : Int32))] [(.ref b1), (.int (11 : Int32))])
  refine Fini.st (fun _ k => Ar12.len X12 hx hZ e12 rfl rfl (hb hby d1_9) k) ?_
  show Fini p e below s _ _ _ T12 (mkF m 10 #[.val (.int p0), .val (.ref b1), .val (.int (11 : Int32))] [(.int (16 : Int32)), (.int (11 : Int32))])
  refine Fini.st (fun _ k => XS.icmpNo X12.here hx rfl (hb hby d1_10) rfl (XT.ii_ge_f (by decide : (11 : Int32) < (16 : Int32))) k) ?_
  show Fini p e below s _ _ _ T12 (mkF m 13 #[.val (.int p0), .val (.ref b1), .val (.int (11 : Int32))] [])
  refine Fini.st (fun _ k => XS.aloadN X12.here hx rfl (hb hby d1_13) rfl rfl k) ?_
  show Fini p e below s _ _ _ T12 (mkF m 14 #[.val (.int p0), .val (.ref b1), .val (.int (11 : Int32))] [(.ref b1)])
  refine Fini.st (fun _ k => XS.iloadN X12.here hx rfl (hb hby d1_14) rfl k) ?_
  show Fini p e below s _ _ _ T12 (mkF m 15 #[.val (.int p0), .val (.ref b1), .val (.int (11 : Int32))] [(.int (11 : Int32)), (.ref b1)])
  refine Fini.st (fun _ k => XS.iloadN X12.here hx rfl (hb hby d1_15) rfl k) ?_
  show Fini p e below s _ _ _ T12 (mkF m 16 #[.val (.int p0), .val (.ref b1), .val (.int (11 : Int32))] [(.int p0), (.int (11 : Int32)), (.ref b1)])
  refine Fini.st (fun _ k => XS.bipush X12.here hx rfl (hb hby d1_16) k) ?_
  show Fini p e below s _ _ _ T12 (mkF m 18 #[.val (.int p0), .val (.ref b1), .val (.int (11 : Int32))] [(.int (31 : Int32)), (.int p0), (.int (11 : Int32)), (.ref b1)])
  refine Fini.st (fun _ k => XS.imul X12.here hx rfl (hb hby d1_18) rfl k) ?_
  show Fini p e below s _ _ _ T12 (mkF m 19 #[.val (.int p0), .val (.ref b1), .val (.int (11 : Int32))] [(.int (p0 * (31 : Int32))), (.int (11 : Int32)), (.ref b1)])
  refine Fini.st (fun _ k => XS.iloadN X12.here hx rfl (hb hby d1_19) rfl k) ?_
  show Fini p e below s _ _ _ T12 (mkF m 20 #[.val (.int p0), .val (.ref b1), .val (.int (11 : Int32))] [(.int (11 : Int32)), (.int (p0 * (31 : Int32))), (.int (11 : Int32)), (.ref b1)])
  refine Fini.st (fun _ k => XS.iadd X12.here hx rfl (hb hby d1_20) rfl k) ?_
  show Fini p e below s _ _ _ T12 (mkF m 21 #[.val (.int p0), .val (.ref b1), .val (.int (11 : Int32))] [(.int ((p0 * (31 : Int32)) + (11 : Int32))), (.int (11 : Int32)), (.ref b1)])
  refine Fini.st (fun _ k => XS.sipush X12.here hx rfl (hb hby d1_21) k) ?_
  show Fini p e below s _ _ _ T12 (mkF m 24 #[.val (.int p0), .val (.ref b1), .val (.int (11 : Int32))] [(.int (255 : Int32)), (.int ((p0 * (31 : Int32)) + (11 : Int32))), (.int (11 : Int32)), (.ref b1)])
  refine Fini.st (fun _ k => XS.iand X12.here hx rfl (hb hby d1_24) rfl k) ?_
  show Fini p e below s _ _ _ T12 (mkF m 25 #[.val (.int p0), .val (.ref b1), .val (.int (11 : Int32))] [(.int (((p0 * (31 : Int32)) + (11 : Int32)) &&& (255 : Int32))), (.int (11 : Int32)), (.ref b1)])
  refine Fini.st (fun _ k => XS.i2b X12.here hx rfl (hb hby d1_25) rfl k) ?_
  show Fini p e below s _ _ _ T12 (mkF m 26 #[.val (.int p0), .val (.ref b1), .val (.int (11 : Int32))] [(.int (((p0 * (31 : Int32)) + (11 : Int32)) &&& (255 : Int32)).toInt8.toInt32), (.int (11 : Int32)), (.ref b1)])
  obtain ⟨T13, h13, X13, e13, W13, Ar13, st13⟩ := Ar12.stB X12 hx hZ e12 ⟨by decide, by decide⟩ (g := (mkF m 26 #[.val (.int p0), .val (.ref b1), .val (.int (11 : Int32))] [(.int (((p0 * (31 : Int32)) + (11 : Int32)) &&& (255 : Int32)).toInt8.toInt32), (.int (11 : Int32)), (.ref b1)])) rfl rfl (hb hby d1_26)
  refine Fini.st st13 ?_
  have N13 := Fr.snoc X13 N12 ge_b1
  show Fini p e below s _ _ _ T13 (mkF m 27 #[.val (.int p0), .val (.ref b1), .val (.int (11 : Int32))] [])
  refine Fini.st (fun _ k => XS.iinc X13.here hx rfl (hb hby d1_27) rfl (l' := #[.val (.int p0), .val (.ref b1), .val (.int (12 : Int32))]) rfl k) ?_
  show Fini p e below s _ _ _ T13 (mkF m 30 #[.val (.int p0), .val (.ref b1), .val (.int (12 : Int32))] [])
  refine Fini.st (fun _ k => XS.goto X13.here hx rfl (pc0 := 30) (pc' := 7) rfl (hb hby d1_30) (by decide) (by decide) k) ?_
  show Fini p e below s _ _ _ T13 (mkF m 7 #[.val (.int p0), .val (.ref b1), .val (.int (12 : Int32))] [])
  refine Fini.st (fun _ k => XS.iloadN X13.here hx rfl (hb hby d1_7) rfl k) ?_
  show Fini p e below s _ _ _ T13 (mkF m 8 #[.val (.int p0), .val (.ref b1), .val (.int (12 : Int32))] [(.int (12 : Int32))])
  refine Fini.st (fun _ k => XS.aloadN X13.here hx rfl (hb hby d1_8) rfl rfl k) ?_
  show Fini p e below s _ _ _ T13 (mkF m 9 #[.val (.int p0), .val (.ref b1), .val (.int (12 : Int32))] [(.ref b1), (.int (12 : Int32))])
  refine Fini.st (fun _ k => Ar13.len X13 hx hZ e13 rfl rfl (hb hby d1_9) k) ?_
  show Fini p e below s _ _ _ T13 (mkF m 10 #[.val (.int p0), .val (.ref b1), .val (.int (12 : Int32))] [(.int (16 : Int32)), (.int (12 : Int32))])
  refine Fini.st (fun _ k => XS.icmpNo X13.here hx rfl (hb hby d1_10) rfl (XT.ii_ge_f (by decide : (12 : Int32) < (16 : Int32))) k) ?_
  show Fini p e below s _ _ _ T13 (mkF m 13 #[.val (.int p0), .val (.ref b1), .val (.int (12 : Int32))] [])
  refine Fini.st (fun _ k => XS.aloadN X13.here hx rfl (hb hby d1_13) rfl rfl k) ?_
  show Fini p e below s _ _ _ T13 (mkF m 14 #[.val (.int p0), .val (.ref b1), .val (.int (12 : Int32))] [(.ref b1)])
  refine Fini.st (fun _ k => XS.iloadN X13.here hx rfl (hb hby d1_14) rfl k) ?_
  show Fini p e below s _ _ _ T13 (mkF m 15 #[.val (.int p0), .val (.ref b1), .val (.int (12 : Int32))] [(.int (12 : Int32)), (.ref b1)])
  refine Fini.st (fun _ k => XS.iloadN X13.here hx rfl (hb hby d1_15) rfl k) ?_
  show Fini p e below s _ _ _ T13 (mkF m 16 #[.val (.int p0), .val (.ref b1), .val (.int (12 : Int32))] [(.int p0), (.int (12 : Int32)), (.ref b1)])
  refine Fini.st (fun _ k => XS.bipush X13.here hx rfl (hb hby d1_16) k) ?_
  show Fini p e below s _ _ _ T13 (mkF m 18 #[.val (.int p0), .val (.ref b1), .val (.int (12 : Int32))] [(.int (31 : Int32)), (.int p0), (.int (12 : Int32)), (.ref b1)])
  refine Fini.st (fun _ k => XS.imul X13.here hx rfl (hb hby d1_18) rfl k) ?_
  show Fini p e below s _ _ _ T13 (mkF m 19 #[.val (.int p0), .val (.ref b1), .val (.int (12 : Int32))] [(.int (p0 * (31 : Int32))), (.int (12 : Int32)), (.ref b1)])
  refine Fini.st (fun _ k => XS.iloadN X13.here hx rfl (hb hby d1_19) rfl k) ?_
  show Fini p e below s _ _ _ T13 (mkF m 20 #[.val (.int p0), .val (.ref b1), .val (.int (12 : Int32))] [(.int (12 : Int32)), (.int (p0 * (31 : Int32))), (.int (12 : Int32)), (.ref b1)])
  refine Fini.st (fun _ k => XS.iadd X13.here hx rfl (hb hby d1_20) rfl k) ?_
  show Fini p e below s _ _ _ T13 (mkF m 21 #[.val (.int p0), .val (.ref b1), .val (.int (12 : Int32))] [(.int ((p0 * (31 : Int32)) + (12 : Int32))), (.int (12 : Int32)), (.ref b1)])
  refine Fini.st (fun _ k => XS.sipush X13.here hx rfl (hb hby d1_21) k) ?_
  show Fini p e below s _ _ _ T13 (mkF m 24 #[.val (.int p0), .val (.ref b1), .val (.int (12 : Int32))] [(.int (255 : Int32)), (.int ((p0 * (31 : Int32)) + (12 : Int32))), (.int (12 : Int32)), (.ref b1)])
  refine Fini.st (fun _ k => XS.iand X13.here hx rfl (hb hby d1_24) rfl k) ?_
  show Fini p e below s _ _ _ T13 (mkF m 25 #[.val (.int p0), .val (.ref b1), .val (.int (12 : Int32))] [(.int (((p0 * (31 : Int32)) + (12 : Int32)) &&& (255 : Int32))), (.int (12 : Int32)), (.ref b1)])
  refine Fini.st (fun _ k => XS.i2b X13.here hx rfl (hb hby d1_25) rfl k) ?_
  show Fini p e below s _ _ _ T13 (mkF m 26 #[.val (.int p0), .val (.ref b1), .val (.int (12 : Int32))] [(.int (((p0 * (31 : Int32)) + (12 : Int32)) &&& (255 : Int32)).toInt8.toInt32), (.int (12 : Int32)), (.ref b1)])
  obtain ⟨T14, h14, X14, e14, W14, Ar14, st14⟩ := Ar13.stB X13 hx hZ e13 ⟨by decide, by decide⟩ (g := (mkF m 26 #[.val (.int p0), .val (.ref b1), .val (.int (12 : Int32))] [(.int (((p0 * (31 : Int32)) + (12 : Int32)) &&& (255 : Int32)).toInt8.toInt32), (.int (12 : Int32)), (.ref b1)])) rfl rfl (hb hby d1_26)
  refine Fini.st st14 ?_
  have N14 := Fr.snoc X14 N13 ge_b1
  show Fini p e below s _ _ _ T14 (mkF m 27 #[.val (.int p0), .val (.ref b1), .val (.int (12 : Int32))] [])
  refine Fini.st (fun _ k => XS.iinc X14.here hx rfl (hb hby d1_27) rfl (l' := #[.val (.int p0), .val (.ref b1), .val (.int (13 : Int32))]) rfl k) ?_
  show Fini p e below s _ _ _ T14 (mkF m 30 #[.val (.int p0), .val (.ref b1), .val (.int (13 : Int32))] [])
  refine Fini.st (fun _ k => XS.goto X14.here hx rfl (pc0 := 30) (pc' := 7) rfl (hb hby d1_30) (by decide) (by decide) k) ?_
  show Fini p e below s _ _ _ T14 (mkF m 7 #[.val (.int p0), .val (.ref b1), .val (.int (13 : Int32))] [])
  refine Fini.st (fun _ k => XS.iloadN X14.here hx rfl (hb hby d1_7) rfl k) ?_
  show Fini p e below s _ _ _ T14 (mkF m 8 #[.val (.int p0), .val (.ref b1), .val (.int (13 : Int32))] [(.int (13 : Int32))])
  refine Fini.st (fun _ k => XS.aloadN X14.here hx rfl (hb hby d1_8) rfl rfl k) ?_
  show Fini p e below s _ _ _ T14 (mkF m 9 #[.val (.int p0), .val (.ref b1), .val (.int (13 : Int32))] [(.ref b1), (.int (13 : Int32))])
  refine Fini.st (fun _ k => Ar14.len X14 hx hZ e14 rfl rfl (hb hby d1_9) k) ?_
  show Fini p e below s _ _ _ T14 (mkF m 10 #[.val (.int p0), .val (.ref b1), .val (.int (13 : Int32))] [(.int (16 : Int32)), (.int (13 : Int32))])
  refine Fini.st (fun _ k => XS.icmpNo X14.here hx rfl (hb hby d1_10) rfl (XT.ii_ge_f (by decide : (13 : Int32) < (16 : Int32))) k) ?_
  show Fini p e below s _ _ _ T14 (mkF m 13 #[.val (.int p0), .val (.ref b1), .val (.int (13 : Int32))] [])
  refine Fini.st (fun _ k => XS.aloadN X14.here hx rfl (hb hby d1_13) rfl rfl k) ?_
  show Fini p e below s _ _ _ T14 (mkF m 14 #[.val (.int p0), .val (.ref b1), .val (.int (13 : Int32))] [(.ref b1)])
  refine Fini.st (fun _ k => XS.iloadN X14.here hx rfl (hb hby d1_14) rfl k) ?_
  show Fini p e below s _ _ _ T14 (mkF m 15 #[.val (.int p0), .val (.ref b1), .val (.int (13 : Int32))] [(.int (13 : Int32)), (.ref b1)])
  refine Fini.st (fun _ k => XS.iloadN X14.here hx rfl (hb hby d1_15) rfl k) ?_
  show Fini p e below s _ _ _ T14 (mkF m 16 #[.val (.int p0), .val (.ref b1), .val (.int (13 : Int32))] [(.int p0), (.int (13 : Int32)), (.ref b1)])
  refine Fini.st (fun _ k => XS.bipush X14.here hx rfl (hb hby d1_16) k) ?_
  show Fini p e below s _ _ _ T14 (mkF m 18 #[.val (.int p0), .val (.ref b1), .val (.int (13 : Int32))] [(.int (31 : Int32)), (.int p0), (.int (13 : Int32)), (.ref b1)])
  refine Fini.st (fun _ k => XS.imul X14.here hx rfl (hb hby d1_18) rfl k) ?_
  show Fini p e below s _ _ _ T14 (mkF m 19 #[.val (.int p0), .val (.ref b1), .val (.int (13 : Int32))] [(.int (p0 * (31 : Int32))), (.int (13 : Int32)), (.ref b1)])
  refine Fini.st (fun _ k => XS.iloadN X14.here hx rfl (hb hby d1_19) rfl k) ?_
  show Fini p e below s _ _ _ T14 (mkF m 20 #[.val (.int p0), .val (.ref b1), .val (.int (13 : Int32))] [(.int (13 : Int32)), (.int (p0 * (31 : Int32))), (.int (13 : Int32)), (.ref b1)])
  refine Fini.st (fun _ k => XS.iadd X14.here hx rfl (hb hby d1_20) rfl k) ?_
  show Fini p e below s _ _ _ T14 (mkF m 21 #[.val (.int p0), .val (.ref b1), .val (.int (13 : Int32))] [(.int ((p0 * (31 : Int32)) + (13 : Int32))), (.int (13 : Int32)), (.ref b1)])
  refine Fini.st (fun _ k => XS.sipush X14.here hx rfl (hb hby d1_21) k) ?_
  show Fini p e below s _ _ _ T14 (mkF m 24 #[.val (.int p0), .val (.ref b1), .val (.int (13 : Int32))] [(.int (255 : Int32)), (.int ((p0 * (31 : Int32)) + (13 : Int32))), (.int (13 : Int32)), (.ref b1)])
  refine Fini.st (fun _ k => XS.iand X14.here hx rfl (hb hby d1_24) rfl k) ?_
  show Fini p e below s _ _ _ T14 (mkF m 25 #[.val (.int p0), .val (.ref b1), .val (.int (13 : Int32))] [(.int (((p0 * (31 : Int32)) + (13 : Int32)) &&& (255 : Int32))), (.int (13 : Int32)), (.ref b1)])
  refine Fini.st (fun _ k => XS.i2b X14.here hx rfl (hb hby d1_25) rfl k) ?_
  show Fini p e below s _ _ _ T14 (mkF m 26 #[.val (.int p0), .val (.ref b1), .val (.int (13 : Int32))] [(.int (((p0 * (31 : Int32)) + (13 : Int32)) &&& (255 : Int32)).toInt8.toInt32), (.int (13 : Int32)), (.ref b1)])
  obtain ⟨T15, h15, X15, e15, W15, Ar15, st15⟩ := Ar14.stB X14 hx hZ e14 ⟨by decide, by decide⟩ (g := (mkF m 26 #[.val (.int p0), .val (.ref b1), .val (.int (13 : Int32))] [(.int (((p0 * (31 : Int32)) + (13 : Int32)) &&& (255 : Int32)).toInt8.toInt32), (.int (13 : Int32)), (.ref b1)])) rfl rfl (hb hby d1_26)
  refine Fini.st st15 ?_
  have N15 := Fr.snoc X15 N14 ge_b1
  show Fini p e below s _ _ _ T15 (mkF m 27 #[.val (.int p0), .val (.ref b1), .val (.int (13 : Int32))] [])
  refine Fini.st (fun _ k => XS.iinc X15.here hx rfl (hb hby d1_27) rfl (l' := #[.val (.int p0), .val (.ref b1), .val (.int (14 : Int32))]) rfl k) ?_
  show Fini p e below s _ _ _ T15 (mkF m 30 #[.val (.int p0), .val (.ref b1), .val (.int (14 : Int32))] [])
  refine Fini.st (fun _ k => XS.goto X15.here hx rfl (pc0 := 30) (pc' := 7) rfl (hb hby d1_30) (by decide) (by decide) k) ?_
  show Fini p e below s _ _ _ T15 (mkF m 7 #[.val (.int p0), .val (.ref b1), .val (.int (14 : Int32))] [])
  refine Fini.st (fun _ k => XS.iloadN X15.here hx rfl (hb hby d1_7) rfl k) ?_
  show Fini p e below s _ _ _ T15 (mkF m 8 #[.val (.int p0), .val (.ref b1), .val (.int (14 : Int32))] [(.int (14 : Int32))])
  refine Fini.st (fun _ k => XS.aloadN X15.here hx rfl (hb hby d1_8) rfl rfl k) ?_
  show Fini p e below s _ _ _ T15 (mkF m 9 #[.val (.int p0), .val (.ref b1), .val (.int (14 : Int32))] [(.ref b1), (.int (14 : Int32))])
  refine Fini.st (fun _ k => Ar15.len X15 hx hZ e15 rfl rfl (hb hby d1_9) k) ?_
  show Fini p e below s _ _ _ T15 (mkF m 10 #[.val (.int p0), .val (.ref b1), .val (.int (14 : Int32))] [(.int (16 : Int32)), (.int (14 : Int32))])
  refine Fini.st (fun _ k => XS.icmpNo X15.here hx rfl (hb hby d1_10) rfl (XT.ii_ge_f (by decide : (14 : Int32) < (16 : Int32))) k) ?_
  show Fini p e below s _ _ _ T15 (mkF m 13 #[.val (.int p0), .val (.ref b1), .val (.int (14 : Int32))] [])
  refine Fini.st (fun _ k => XS.aloadN X15.here hx rfl (hb hby d1_13) rfl rfl k) ?_
  show Fini p e below s _ _ _ T15 (mkF m 14 #[.val (.int p0), .val (.ref b1), .val (.int (14 : Int32))] [(.ref b1)])
  refine Fini.st (fun _ k => XS.iloadN X15.here hx rfl (hb hby d1_14) rfl k) ?_
  show Fini p e below s _ _ _ T15 (mkF m 15 #[.val (.int p0), .val (.ref b1), .val (.int (14 : Int32))] [(.int (14 : Int32)), (.ref b1)])
  refine Fini.st (fun _ k => XS.iloadN X15.here hx rfl (hb hby d1_15) rfl k) ?_
  show Fini p e below s _ _ _ T15 (mkF m 16 #[.val (.int p0), .val (.ref b1), .val (.int (14 : Int32))] [(.int p0), (.int (14 : Int32)), (.ref b1)])
  refine Fini.st (fun _ k => XS.bipush X15.here hx rfl (hb hby d1_16) k) ?_
  show Fini p e below s _ _ _ T15 (mkF m 18 #[.val (.int p0), .val (.ref b1), .val (.int (14 : Int32))] [(.int (31 : Int32)), (.int p0), (.int (14 : Int32)), (.ref b1)])
  refine Fini.st (fun _ k => XS.imul X15.here hx rfl (hb hby d1_18) rfl k) ?_
  show Fini p e below s _ _ _ T15 (mkF m 19 #[.val (.int p0), .val (.ref b1), .val (.int (14 : Int32))] [(.int (p0 * (31 : Int32))), (.int (14 : Int32)), (.ref b1)])
  refine Fini.st (fun _ k => XS.iloadN X15.here hx rfl (hb hby d1_19) rfl k) ?_
  show Fini p e below s _ _ _ T15 (mkF m 20 #[.val (.int p0), .val (.ref b1), .val (.int (14 : Int32))] [(.int (14 : Int32)), (.int (p0 * (31 : Int32))), (.int (14 : Int32)), (.ref b1)])
  refine Fini.st (fun _ k => XS.iadd X15.here hx rfl (hb hby d1_20) rfl k) ?_
  show Fini p e below s _ _ _ T15 (mkF m 21 #[.val (.int p0), .val (.ref b1), .val (.int (14 : Int32))] [(.int ((p0 * (31 : Int32)) + (14 : Int32))), (.int (14 : Int32)), (.ref b1)])
  refine Fini.st (fun _ k => XS.sipush X15.here hx rfl (hb hby d1_21) k) ?_
  show Fini p e below s _ _ _ T15 (mkF m 24 #[.val (.int p0), .val (.ref b1), .val (.int (14 : Int32))] [(.int (255 : Int32)), (.int ((p0 * (31 : Int32)) + (14 : Int32))), (.int (14 : Int32)), (.ref b1)])
  refine Fini.st (fun _ k => XS.iand X15.here hx rfl (hb hby d1_24) rfl k) ?_
  show Fini p e below s _ _ _ T15 (mkF m 25 #[.val (.int p0), .val (.ref b1), .val (.int (14 : Int32))] [(.int (((p0 * (31 : Int32)) + (14 : Int32)) &&& (255 : Int32))), (.int (14 : Int32)), (.ref b1)])
  refine Fini.st (fun _ k => XS.i2b X15.here hx rfl (hb hby d1_25) rfl k) ?_
  show Fini p e below s _ _ _ T15 (mkF m 26 #[.val (.int p0), .val (.ref b1), .val (.int (14 : Int32))] [(.int (((p0 * (31 : Int32)) + (14 : Int32)) &&& (255 : Int32)).toInt8.toInt32), (.int (14 : Int32)), (.ref b1)])
  obtain ⟨T16, h16, X16, e16, W16, Ar16, st16⟩ := Ar15.stB X15 hx hZ e15 ⟨by decide, by decide⟩ (g := (mkF m 26 #[.val (.int p0), .val (.ref b1), .val (.int (14 : Int32))] [(.int (((p0 * (31 : Int32)) + (14 : Int32)) &&& (255 : Int32)).toInt8.toInt32), (.int (14 : Int32)), (.ref b1)])) rfl rfl (hb hby d1_26)
  refine Fini.st st16 ?_
  have N16 := Fr.snoc X16 N15 ge_b1
  show Fini p e below s _ _ _ T16 (mkF m 27 #[.val (.int p0), .val (.ref b1), .val (.int (14 : Int32))] [])
  refine Fini.st (fun _ k => XS.iinc X16.here hx rfl (hb hby d1_27) rfl (l' := #[.val (.int p0), .val (.ref b1), .val (.int (15 : Int32))]) rfl k) ?_
  show Fini p e below s _ _ _ T16 (mkF m 30 #[.val (.int p0), .val (.ref b1), .val (.int (15 : Int32))] [])
  refine Fini.st (fun _ k => XS.goto X16.here hx rfl (pc0 := 30) (pc' := 7) rfl (hb hby d1_30) (by decide) (by decide) k) ?_
  show Fini p e below s _ _ _ T16 (mkF m 7 #[.val (.int p0), .val (.ref b1), .val (.int (15 : Int32))] [])
  refine Fini.st (fun _ k => XS.iloadN X16.here hx rfl (hb hby d1_7) rfl k) ?_
  show Fini p e below s _ _ _ T16 (mkF m 8 #[.val (.int p0), .val (.ref b1), .val (.int (15 : Int32))] [(.int (15 : Int32))])
  refine Fini.st (fun _ k => XS.aloadN X16.here hx rfl (hb hby d1_8) rfl rfl k) ?_
  show Fini p e below s _ _ _ T16 (mkF m 9 #[.val (.int p0), .val (.ref b1), .val (.int (15 : Int32))] [(.ref b1), (.int (15 : Int32))])
  refine Fini.st (fun _ k => Ar16.len X16 hx hZ e16 rfl rfl (hb hby d1_9) k) ?_
  show Fini p e below s _ _ _ T16 (mkF m 10 #[.val (.int p0), .val (.ref b1), .val (.int (15 : Int32))] [(.int (16 : Int32)), (.int (15 : Int32))])
  refine Fini.st (fun _ k => XS.icmpNo X16.here hx rfl (hb hby d1_10) rfl (XT.ii_ge_f (by decide : (15 : Int32) < (16 : Int32))) k) ?_
  show Fini p e below s _ _ _ T16 (mkF m 13 #[.val (.int p0), .val (.ref b1), .val (.int (15 : Int32))] [])
  refine Fini.st (fun _ k => XS.aloadN X16.here hx rfl (hb hby d1_13) rfl rfl k) ?_
  show Fini p e below s _ _ _ T16 (mkF m 14 #[.val (.int p0), .val (.ref b1), .val (.int (15 : Int32))] [(.ref b1)])
  refine Fini.st (fun _ k => XS.iloadN X16.here hx rfl (hb hby d1_14) rfl k) ?_
  show Fini p e below s _ _ _ T16 (mkF m 15 #[.val (.int p0), .val (.ref b1), .val (.int (15 : Int32))] [(.int (15 : Int32)), (.ref b1)])
  refine Fini.st (fun _ k => XS.iloadN X16.here hx rfl (hb hby d1_15) rfl k) ?_
  show Fini p e below s _ _ _ T16 (mkF m 16 #[.val (.int p0), .val (.ref b1), .val (.int (15 : Int32))] [(.int p0), (.int (15 : Int32)), (.ref b1)])
  refine Fini.st (fun _ k => XS.bipush X16.here hx rfl (hb hby d1_16) k) ?_
  show Fini p e below s _ _ _ T16 (mkF m 18 #[.val (.int p0), .val (.ref b1), .val (.int (15 : Int32))] [(.int (31 : Int32)), (.int p0), (.int (15 : Int32)), (.ref b1)])
  refine Fini.st (fun _ k => XS.imul X16.here hx rfl (hb hby d1_18) rfl k) ?_
  show Fini p e below s _ _ _ T16 (mkF m 19 #[.val (.int p0), .val (.ref b1), .val (.int (15 : Int32))] [(.int (p0 * (31 : Int32))), (.int (15 : Int32)), (.ref b1)])
  refine Fini.st (fun _ k => XS.iloadN X16.here hx rfl (hb hby d1_19) rfl k) ?_
  show Fini p e below s _ _ _ T16 (mkF m 20 #[.val (.int p0), .val (.ref b1), .val (.int (15 : Int32))] [(.int (15 : Int32)), (.int (p0 * (31 : Int32))), (.int (15 : Int32)), (.ref b1)])
  refine Fini.st (fun _ k => XS.iadd X16.here hx rfl (hb hby d1_20) rfl k) ?_
  show Fini p e below s _ _ _ T16 (mkF m 21 #[.val (.int p0), .val (.ref b1), .val (.int (15 : Int32))] [(.int ((p0 * (31 : Int32)) + (15 : Int32))), (.int (15 : Int32)), (.ref b1)])
  refine Fini.st (fun _ k => XS.sipush X16.here hx rfl (hb hby d1_21) k) ?_
  show Fini p e below s _ _ _ T16 (mkF m 24 #[.val (.int p0), .val (.ref b1), .val (.int (15 : Int32))] [(.int (255 : Int32)), (.int ((p0 * (31 : Int32)) + (15 : Int32))), (.int (15 : Int32)), (.ref b1)])
  refine Fini.st (fun _ k => XS.iand X16.here hx rfl (hb hby d1_24) rfl k) ?_
  show Fini p e below s _ _ _ T16 (mkF m 25 #[.val (.int p0), .val (.ref b1), .val (.int (15 : Int32))] [(.int (((p0 * (31 : Int32)) + (15 : Int32)) &&& (255 : Int32))), (.int (15 : Int32)), (.ref b1)])
  refine Fini.st (fun _ k => XS.i2b X16.here hx rfl (hb hby d1_25) rfl k) ?_
  show Fini p e below s _ _ _ T16 (mkF m 26 #[.val (.int p0), .val (.ref b1), .val (.int (15 : Int32))] [(.int (((p0 * (31 : Int32)) + (15 : Int32)) &&& (255 : Int32)).toInt8.toInt32), (.int (15 : Int32)), (.ref b1)])
  obtain ⟨T17, h17, X17, e17, W17, Ar17, st17⟩ := Ar16.stB X16 hx hZ e16 ⟨by decide, by decide⟩ (g := (mkF m 26 #[.val (.int p0), .val (.ref b1), .val (.int (15 : Int32))] [(.int (((p0 * (31 : Int32)) + (15 : Int32)) &&& (255 : Int32)).toInt8.toInt32), (.int (15 : Int32)), (.ref b1)])) rfl rfl (hb hby d1_26)
  refine Fini.st st17 ?_
  have N17 := Fr.snoc X17 N16 ge_b1
  show Fini p e below s _ _ _ T17 (mkF m 27 #[.val (.int p0), .val (.ref b1), .val (.int (15 : Int32))] [])
  refine Fini.st (fun _ k => XS.iinc X17.here hx rfl (hb hby d1_27) rfl (l' := #[.val (.int p0), .val (.ref b1), .val (.int (16 : Int32))]) rfl k) ?_
  show Fini p e below s _ _ _ T17 (mkF m 30 #[.val (.int p0), .val (.ref b1), .val (.int (16 : Int32))] [])
  refine Fini.st (fun _ k => XS.goto X17.here hx rfl (pc0 := 30) (pc' := 7) rfl (hb hby d1_30) (by decide) (by decide) k) ?_
  show Fini p e below s _ _ _ T17 (mkF m 7 #[.val (.int p0), .val (.ref b1), .val (.int (16 : Int32))] [])
  refine Fini.st (fun _ k => XS.iloadN X17.here hx rfl (hb hby d1_7) rfl k) ?_
  show Fini p e below s _ _ _ T17 (mkF m 8 #[.val (.int p0), .val (.ref b1), .val (.int (16 : Int32))] [(.int (16 : Int32))])
  refine Fini.st (fun _ k => XS.aloadN X17.here hx rfl (hb hby d1_8) rfl rfl k) ?_
  show Fini p e below s _ _ _ T17 (mkF m 9 #[.val (.int p0), .val (.ref b1), .val (.int (16 : Int32))] [(.ref b1), (.int (16 : Int32))])
  refine Fini.st (fun _ k => Ar17.len X17 hx hZ e17 rfl rfl (hb hby d1_9) k) ?_
  show Fini p e below s _ _ _ T17 (mkF m 10 #[.val (.int p0), .val (.ref b1), .val (.int (16 : Int32))] [(.int (16 : Int32)), (.int (16 : Int32))])
  refine Fini.st (fun _ k => XS.icmpYes X17.here hx rfl (pc0 := 10) (pc' := 33) rfl (hb hby d1_10) rfl (XT.ii_ge_t (by decide : ¬ (16 : Int32) < (16 : Int32))) (by decide) (by decide) k) ?_
  show Fini p e below s _ _ _ T17 (mkF m 33 #[.val (.int p0), .val (.ref b1), .val (.int (16 : Int32))] [])
  refine Fini.st (fun _ k => XS.aloadN X17.here hx rfl (hb hby d1_33) rfl rfl k) ?_
  show Fini p e below s _ _ _ T17 (mkF m 34 #[.val (.int p0), .val (.ref b1), .val (.int (16 : Int32))] [(.ref b1)])
  have Kp_18 : Keep h0 h17 [] := (Keep.wr (Keep.wr (Keep.wr (Keep.wr (Keep.wr (Keep.wr (Keep.wr (Keep.wr (Keep.wr (Keep.wr (Keep.wr (Keep.wr (Keep.wr (Keep.wr (Keep.wr (Keep.wr (Keep.ext (Keep.refl h0 []) E1) W2 (Or.inr sz_b1)) W3 (Or.inr sz_b1)) W4 (Or.inr sz_b1)) W5 (Or.inr sz_b1)) W6 (Or.inr sz_b1)) W7 (Or.inr sz_b1)) W8 (Or.inr sz_b1)) W9 (Or.inr sz_b1)) W10 (Or.inr sz_b1)) W11 (Or.inr sz_b1)) W12 (Or.inr sz_b1)) W13 (Or.inr sz_b1)) W14 (Or.inr sz_b1)) W15 (Or.inr sz_b1)) W16 (Or.inr sz_b1)) W17 (Or.inr sz_b1))
  have hc : AryI Z h17 b1 .byte (16 : Int32) (own_u p0) := Ar17.cast (by
    intro i hi
    have hi' : i < 16 := hi
    obtain rfl | rfl | rfl | rfl | rfl | rfl | rfl | rfl | rfl | rfl | rfl | rfl | rfl | rfl | rfl | rfl : i = 0 ∨ i = 1 ∨ i = 2 ∨ i = 3 ∨ i = 4 ∨ i = 5 ∨ i = 6 ∨ i = 7 ∨ i = 8 ∨ i = 9 ∨ i = 10 ∨ i = 11 ∨ i = 12 ∨ i = 13 ∨ i = 14 ∨ i = 15 := by omega
    all_goals rfl)
  exact Fini.retA X17 hx hlk Bd.returns rfl (hb hby d1_34) rfl rfl (by decide) (by decide) ⟨_, rfl, N17, ge_b1, (by rw [e17]; exact Kp_18), (by rw [e17]; exact hc)⟩
theorem own_k (x : Int32) : ¬ (x &&& (15 : Int32)) < 0 ∧ (x &&& (15 : Int32)) < (16 : Int32) := by
  have m := c_mask x 15 4 (by decide) (by decide)
  have t0 : (0 : Int32).toInt = 0 := rfl
  have t1 : (16 : Int32).toInt = 16 := rfl
  rw [Int32.lt_iff_toInt_lt, Int32.lt_iff_toInt_lt]
  omega
theorem pd_0 : parseMethodDescriptor "(I)[B" = some ⟨[.int], some (.array .byte)⟩ := by decide +kernel
theorem pn_1 : plainName "com/example/framewire/framewire/bench/JcpStreamIdPinLaw" = true := by first | (simp [plainName, overriddenIn]; done) | decide +kernel
theorem ef0 (m : MethodId) (x0 : Int32) (x1 : Int32) : entryFrame m #[(.int x0), (.int x1)] maxLocals = mkF m 0 #[.val (.int x0), .val (.int x1), .unset, .unset, .unset, .unset] [] := by first | (simp [entryFrame, mkF, argsToLocals, Value.category, maxLocals]; done) | rfl
def g0_40 (p0 : Int32) (p1 : Int32) : Int32 := (((((p0 &&& (255 : Int32)) * (32 : Int32)) - (p0 &&& (255 : Int32))) + (p1 &&& (15 : Int32))) &&& (255 : Int32))
def f0 (p0 : Int32) (p1 : Int32) : Int32 := (if (((own_u p0) ((p1 &&& (15 : Int32))).toNatClampNeg) &&& (255 : Int32)) = (g0_40 p0 p1) then (1 : Int32) else (0 : Int32))
set_option maxRecDepth 65536 in
set_option maxHeartbeats 40000000 in
theorem rm0 (l : Launch) (Z : State) (a0 : Array Value) (hw : ∀ d ∈ tables_1, d.before a0 Z = true) (ws : List Jvm.Cond) (p0 : Int32) (p1 : Int32) (h0 : Heap) (n0 : Nat) (Z0 : n0 ≤ h0.size) :
    Cmet l Z x code maxLocals ret ws room_1 #[(.int p0), (.int p1)] h0 (fun v h' L => v = some (.int (f0 p0 p1)) ∧ Fr n0 L) := by
  refine MetFree.of_bodySF (plainFor_of_name pn_1) hisR ?_
  intro p e s m args below meth c s₁ Bd hml0 hP hK
  obtain ⟨rfl, hZ, hh⟩ := hP
  have hx := Bd.exec
  have hlk : meth.locks = false := BodyLoose.notSynchronized Bd
  have hby := Bd.bytes
  have hml : c.maxLocals = 6 := hml0
  have hown : s.vm.findClass "com/example/framewire/framewire/bench/JcpStreamIdPinLaw" = some m.cls := findClass_of_methodNamed Bd.named
  have hnm := (name_of_methodNamed Bd.named Bd.method).1
  have X0 : Stand p l e room_1 s m #[(.int p0), (.int p1)] below meth c s₁ [] 0 0 := Stand.of_body Bd
  have e0 : s₁.heap = h0 := by rw [← hh, Bd.state]; rfl
  have N0 := Fr.nil n0
  have hv0 : f0 p0 p1 = f0 p0 p1 := rfl
  show Fini p e below s (fun v h' L => v = some (.int (f0 p0 p1)) ∧ Fr n0 L) _ _ s₁ (entryFrame m #[(.int p0), (.int p1)] maxLocals)
  refine Fini.cast (ef0 m p0 p1) ?_
  show Fini p e below s _ _ _ s₁ (mkF m 0 #[.val (.int p0), .val (.int p1), .unset, .unset, .unset, .unset] [])
  refine Fini.st (fun _ k => XS.iloadN X0.here hx rfl (hb hby at_0) rfl k) ?_
  show Fini p e below s _ _ _ s₁ (mkF m 1 #[.val (.int p0), .val (.int p1), .unset, .unset, .unset, .unset] [(.int p0)])
  obtain ⟨v1, T1, L1, X1, hQ1, st1⟩ := callQ X0 hx hZ hown (hw _ (List.mem_of_getElem? (i := 0) rfl)) (hw _ (List.mem_of_getElem? (i := 1) rfl)) (hw _ (List.mem_of_getElem? (i := 2) rfl)) (hw _ (List.mem_of_getElem? (i := 3) rfl)) (by decide) (rm1 l Z a0 hw [] p0 h0 n0 Z0) e0 (W := 0) (by decide) (by decide) (by decide) (by decide) (g := (mkF m 1 #[.val (.int p0), .val (.int p1), .unset, .unset, .unset, .unset] [(.int p0)])) rfl (by rw [hml]; rfl) (argsL := [(.int p0)]) (rest := []) rfl (lenOf pd_0 rfl) rfl (by show 2 * 0 + _ ≤ _; exact Nat.le_of_eq rfl) (hb hby at_1)
  obtain ⟨b1, rfl, Nq1, ge_b1, K1, Ar1⟩ := hQ1
  have N1 := Fr.app N0 Nq1
  refine Fini.st st1 ?_
  show Fini p e below s _ _ _ T1 (mkF m 4 #[.val (.int p0), .val (.int p1), .unset, .unset, .unset, .unset] [(.ref b1)])
  refine Fini.st (fun _ k => XS.astoreN X1.here hx rfl (hb hby at_4) rfl rfl (l' := #[.val (.int p0), .val (.int p1), .val (.ref b1), .unset, .unset, .unset]) rfl k) ?_
  show Fini p e below s _ _ _ T1 (mkF m 5 #[.val (.int p0), .val (.int p1), .val (.ref b1), .unset, .unset, .unset] [])
  refine Fini.st (fun _ k => XS.aloadN X1.here hx rfl (hb hby at_5) rfl rfl k) ?_
  show Fini p e below s _ _ _ T1 (mkF m 6 #[.val (.int p0), .val (.int p1), .val (.ref b1), .unset, .unset, .unset] [(.ref b1)])
  refine Fini.st (fun _ k => Ar1.len X1 hx hZ rfl rfl rfl (hb hby at_6) k) ?_
  show Fini p e below s _ _ _ T1 (mkF m 7 #[.val (.int p0), .val (.int p1), .val (.ref b1), .unset, .unset, .unset] [(.int (16 : Int32))])
  refine Fini.st (fun _ k => XS.bipush X1.here hx rfl (hb hby at_7) k) ?_
  show Fini p e below s _ _ _ T1 (mkF m 9 #[.val (.int p0), .val (.int p1), .val (.ref b1), .unset, .unset, .unset] [(.int (16 : Int32)), (.int (16 : Int32))])
  refine Fini.st (fun _ k => XS.icmpYes X1.here hx rfl (pc0 := 9) (pc' := 14) rfl (hb hby at_9) rfl (XT.ii_eq_t (by decide : (16 : Int32) = (16 : Int32))) (by decide) (by decide) k) ?_
  show Fini p e below s _ _ _ T1 (mkF m 14 #[.val (.int p0), .val (.int p1), .val (.ref b1), .unset, .unset, .unset] [])
  refine Fini.st (fun _ k => XS.iloadN X1.here hx rfl (hb hby at_14) rfl k) ?_
  show Fini p e below s _ _ _ T1 (mkF m 15 #[.val (.int p0), .val (.int p1), .val (.ref b1), .unset, .unset, .unset] [(.int p1)])
  refine Fini.st (fun _ k => XS.bipush X1.here hx rfl (hb hby at_15) k) ?_
  show Fini p e below s _ _ _ T1 (mkF m 17 #[.val (.int p0), .val (.int p1), .val (.ref b1), .unset, .unset, .unset] [(.int (15 : Int32)), (.int p1)])
  refine Fini.st (fun _ k => XS.iand X1.here hx rfl (hb hby at_17) rfl k) ?_
  show Fini p e below s _ _ _ T1 (mkF m 18 #[.val (.int p0), .val (.int p1), .val (.ref b1), .unset, .unset, .unset] [(.int (p1 &&& (15 : Int32)))])
  refine Fini.st (fun _ k => XS.istoreN X1.here hx rfl (hb hby at_18) rfl (l' := #[.val (.int p0), .val (.int p1), .val (.ref b1), .val (.int (p1 &&& (15 : Int32))), .unset, .unset]) rfl k) ?_
  show Fini p e below s _ _ _ T1 (mkF m 19 #[.val (.int p0), .val (.int p1), .val (.ref b1), .val (.int (p1 &&& (15 : Int32))), .unset, .unset] [])
  refine Fini.st (fun _ k => XS.iloadN X1.here hx rfl (hb hby at_19) rfl k) ?_
  show Fini p e below s _ _ _ T1 (mkF m 20 #[.val (.int p0), .val (.int p1), .val (.ref b1), .val (.int (p1 &&& (15 : Int32))), .unset, .unset] [(.int p0)])
  refine Fini.st (fun _ k => XS.sipush X1.here hx rfl (hb hby at_20) k) ?_
  show Fini p e below s _ _ _ T1 (mkF m 23 #[.val (.int p0), .val (.int p1), .val (.ref b1), .val (.int (p1 &&& (15 : Int32))), .unset, .unset] [(.int (255 : Int32)), (.int p0)])
  refine Fini.st (fun _ k => XS.iand X1.here hx rfl (hb hby at_23) rfl k) ?_
  show Fini p e below s _ _ _ T1 (mkF m 24 #[.val (.int p0), .val (.int p1), .val (.ref b1), .val (.int (p1 &&& (15 : Int32))), .unset, .unset] [(.int (p0 &&& (255 : Int32)))])
  refine Fini.st (fun _ k => XS.istore X1.here hx rfl (hb hby at_24) rfl (l' := #[.val (.int p0), .val (.int p1), .val (.ref b1), .val (.int (p1 &&& (15 : Int32))), .val (.int (p0 &&& (255 : Int32))), .unset]) rfl k) ?_
  show Fini p e below s _ _ _ T1 (mkF m 26 #[.val (.int p0), .val (.int p1), .val (.ref b1), .val (.int (p1 &&& (15 : Int32))), .val (.int (p0 &&& (255 : Int32))), .unset] [])
  refine Fini.st (fun _ k => XS.iload X1.here hx rfl (hb hby at_26) rfl k) ?_
  show Fini p e below s _ _ _ T1 (mkF m 28 #[.val (.int p0), .val (.int p1), .val (.ref b1), .val (.int (p1 &&& (15 : Int32))), .val (.int (p0 &&& (255 : Int32))), .unset] [(.int (p0 &&& (255 : Int32)))])
  refine Fini.st (fun _ k => XS.bipush X1.here hx rfl (hb hby at_28) k) ?_
  show Fini p e below s _ _ _ T1 (mkF m 30 #[.val (.int p0), .val (.int p1), .val (.ref b1), .val (.int (p1 &&& (15 : Int32))), .val (.int (p0 &&& (255 : Int32))), .unset] [(.int (32 : Int32)), (.int (p0 &&& (255 : Int32)))])
  refine Fini.st (fun _ k => XS.imul X1.here hx rfl (hb hby at_30) rfl k) ?_
  show Fini p e below s _ _ _ T1 (mkF m 31 #[.val (.int p0), .val (.int p1), .val (.ref b1), .val (.int (p1 &&& (15 : Int32))), .val (.int (p0 &&& (255 : Int32))), .unset] [(.int ((p0 &&& (255 : Int32)) * (32 : Int32)))])
  refine Fini.st (fun _ k => XS.iload X1.here hx rfl (hb hby at_31) rfl k) ?_
  show Fini p e below s _ _ _ T1 (mkF m 33 #[.val (.int p0), .val (.int p1), .val (.ref b1), .val (.int (p1 &&& (15 : Int32))), .val (.int (p0 &&& (255 : Int32))), .unset] [(.int (p0 &&& (255 : Int32))), (.int ((p0 &&& (255 : Int32)) * (32 : Int32)))])
  refine Fini.st (fun _ k => XS.isub X1.here hx rfl (hb hby at_33) rfl k) ?_
  show Fini p e below s _ _ _ T1 (mkF m 34 #[.val (.int p0), .val (.int p1), .val (.ref b1), .val (.int (p1 &&& (15 : Int32))), .val (.int (p0 &&& (255 : Int32))), .unset] [(.int (((p0 &&& (255 : Int32)) * (32 : Int32)) - (p0 &&& (255 : Int32))))])
  refine Fini.st (fun _ k => XS.iloadN X1.here hx rfl (hb hby at_34) rfl k) ?_
  show Fini p e below s _ _ _ T1 (mkF m 35 #[.val (.int p0), .val (.int p1), .val (.ref b1), .val (.int (p1 &&& (15 : Int32))), .val (.int (p0 &&& (255 : Int32))), .unset] [(.int (p1 &&& (15 : Int32))), (.int (((p0 &&& (255 : Int32)) * (32 : Int32)) - (p0 &&& (255 : Int32))))])
  refine Fini.st (fun _ k => XS.iadd X1.here hx rfl (hb hby at_35) rfl k) ?_
  show Fini p e below s _ _ _ T1 (mkF m 36 #[.val (.int p0), .val (.int p1), .val (.ref b1), .val (.int (p1 &&& (15 : Int32))), .val (.int (p0 &&& (255 : Int32))), .unset] [(.int ((((p0 &&& (255 : Int32)) * (32 : Int32)) - (p0 &&& (255 : Int32))) + (p1 &&& (15 : Int32))))])
  refine Fini.st (fun _ k => XS.sipush X1.here hx rfl (hb hby at_36) k) ?_
  show Fini p e below s _ _ _ T1 (mkF m 39 #[.val (.int p0), .val (.int p1), .val (.ref b1), .val (.int (p1 &&& (15 : Int32))), .val (.int (p0 &&& (255 : Int32))), .unset] [(.int (255 : Int32)), (.int ((((p0 &&& (255 : Int32)) * (32 : Int32)) - (p0 &&& (255 : Int32))) + (p1 &&& (15 : Int32))))])
  refine Fini.st (fun _ k => XS.iand X1.here hx rfl (hb hby at_39) rfl k) ?_
  show Fini p e below s _ _ _ T1 (mkF m 40 #[.val (.int p0), .val (.int p1), .val (.ref b1), .val (.int (p1 &&& (15 : Int32))), .val (.int (p0 &&& (255 : Int32))), .unset] [(.int (((((p0 &&& (255 : Int32)) * (32 : Int32)) - (p0 &&& (255 : Int32))) + (p1 &&& (15 : Int32))) &&& (255 : Int32)))])
  refine Fini.st (fun _ k => XS.istore X1.here hx rfl (hb hby at_40) rfl (l' := #[.val (.int p0), .val (.int p1), .val (.ref b1), .val (.int (p1 &&& (15 : Int32))), .val (.int (p0 &&& (255 : Int32))), .val (.int (g0_40 p0 p1))]) rfl k) ?_
  show Fini p e below s _ _ _ T1 (mkF m 42 #[.val (.int p0), .val (.int p1), .val (.ref b1), .val (.int (p1 &&& (15 : Int32))), .val (.int (p0 &&& (255 : Int32))), .val (.int (g0_40 p0 p1))] [])
  refine Fini.st (fun _ k => XS.aloadN X1.here hx rfl (hb hby at_42) rfl rfl k) ?_
  show Fini p e below s _ _ _ T1 (mkF m 43 #[.val (.int p0), .val (.int p1), .val (.ref b1), .val (.int (p1 &&& (15 : Int32))), .val (.int (p0 &&& (255 : Int32))), .val (.int (g0_40 p0 p1))] [(.ref b1)])
  refine Fini.st (fun _ k => XS.iloadN X1.here hx rfl (hb hby at_43) rfl k) ?_
  show Fini p e below s _ _ _ T1 (mkF m 44 #[.val (.int p0), .val (.int p1), .val (.ref b1), .val (.int (p1 &&& (15 : Int32))), .val (.int (p0 &&& (255 : Int32))), .val (.int (g0_40 p0 p1))] [(.int (p1 &&& (15 : Int32))), (.ref b1)])
  refine Fini.st (fun _ k => Ar1.loadB X1 hx hZ rfl (own_k p1) rfl rfl (hb hby at_44) k) ?_
  show Fini p e below s _ _ _ T1 (mkF m 45 #[.val (.int p0), .val (.int p1), .val (.ref b1), .val (.int (p1 &&& (15 : Int32))), .val (.int (p0 &&& (255 : Int32))), .val (.int (g0_40 p0 p1))] [(.int ((own_u p0) ((p1 &&& (15 : Int32))).toNatClampNeg))])
  refine Fini.st (fun _ k => XS.sipush X1.here hx rfl (hb hby at_45) k) ?_
  show Fini p e below s _ _ _ T1 (mkF m 48 #[.val (.int p0), .val (.int p1), .val (.ref b1), .val (.int (p1 &&& (15 : Int32))), .val (.int (p0 &&& (255 : Int32))), .val (.int (g0_40 p0 p1))] [(.int (255 : Int32)), (.int ((own_u p0) ((p1 &&& (15 : Int32))).toNatClampNeg))])
  refine Fini.st (fun _ k => XS.iand X1.here hx rfl (hb hby at_48) rfl k) ?_
  show Fini p e below s _ _ _ T1 (mkF m 49 #[.val (.int p0), .val (.int p1), .val (.ref b1), .val (.int (p1 &&& (15 : Int32))), .val (.int (p0 &&& (255 : Int32))), .val (.int (g0_40 p0 p1))] [(.int (((own_u p0) ((p1 &&& (15 : Int32))).toNatClampNeg) &&& (255 : Int32)))])
  refine Fini.st (fun _ k => XS.iload X1.here hx rfl (hb hby at_49) rfl k) ?_
  show Fini p e below s _ _ _ T1 (mkF m 51 #[.val (.int p0), .val (.int p1), .val (.ref b1), .val (.int (p1 &&& (15 : Int32))), .val (.int (p0 &&& (255 : Int32))), .val (.int (g0_40 p0 p1))] [(.int (g0_40 p0 p1)), (.int (((own_u p0) ((p1 &&& (15 : Int32))).toNatClampNeg) &&& (255 : Int32)))])
  by_cases c2 : (((own_u p0) ((p1 &&& (15 : Int32))).toNatClampNeg) &&& (255 : Int32)) = (g0_40 p0 p1)
  · have hv3 := hv0.trans (if_pos c2)
    refine Fini.st (fun _ k => XS.icmpNo X1.here hx rfl (hb hby at_51) rfl (XT.ii_ne_f c2) k) ?_
    show Fini p e below s _ _ _ T1 (mkF m 54 #[.val (.int p0), .val (.int p1), .val (.ref b1), .val (.int (p1 &&& (15 : Int32))), .val (.int (p0 &&& (255 : Int32))), .val (.int (g0_40 p0 p1))] [])
    refine Fini.st (fun _ k => XS.iconst X1.here hx rfl (hb hby at_54) k) ?_
    show Fini p e below s _ _ _ T1 (mkF m 55 #[.val (.int p0), .val (.int p1), .val (.ref b1), .val (.int (p1 &&& (15 : Int32))), .val (.int (p0 &&& (255 : Int32))), .val (.int (g0_40 p0 p1))] [(.int (1 : Int32))])
    refine Fini.st (fun _ k => XS.goto X1.here hx rfl (pc0 := 55) (pc' := 59) rfl (hb hby at_55) (by decide) (by decide) k) ?_
    show Fini p e below s _ _ _ T1 (mkF m 59 #[.val (.int p0), .val (.int p1), .val (.ref b1), .val (.int (p1 &&& (15 : Int32))), .val (.int (p0 &&& (255 : Int32))), .val (.int (g0_40 p0 p1))] [(.int (1 : Int32))])
    exact Fini.retN X1 hx hlk (t := .boolean) Bd.returns (by simp) (hb hby at_59) nb1 (by decide) (by decide) ⟨congrArg (fun z => some (Value.int z)) hv3.symm, N1⟩
  · have hv4 := hv0.trans (if_neg c2)
    refine Fini.st (fun _ k => XS.icmpYes X1.here hx rfl (pc0 := 51) (pc' := 58) rfl (hb hby at_51) rfl (XT.ii_ne_t c2) (by decide) (by decide) k) ?_
    show Fini p e below s _ _ _ T1 (mkF m 58 #[.val (.int p0), .val (.int p1), .val (.ref b1), .val (.int (p1 &&& (15 : Int32))), .val (.int (p0 &&& (255 : Int32))), .val (.int (g0_40 p0 p1))] [])
    refine Fini.st (fun _ k => XS.iconst X1.here hx rfl (hb hby at_58) k) ?_
    show Fini p e below s _ _ _ T1 (mkF m 59 #[.val (.int p0), .val (.int p1), .val (.ref b1), .val (.int (p1 &&& (15 : Int32))), .val (.int (p0 &&& (255 : Int32))), .val (.int (g0_40 p0 p1))] [(.int (0 : Int32))])
    exact Fini.retN X1 hx hlk (t := .boolean) Bd.returns (by simp) (hb hby at_59) nb0 (by decide) (by decide) ⟨congrArg (fun z => some (Value.int z)) hv4.symm, N1⟩
theorem own_nn (x : Int32) (h : ¬ x < 0) : Int32.ofNat x.toNatClampNeg = x := by
  have h1 := back32 h
  exact h1.1
theorem own_law (i0 i1 : Int32) : f0 i0 i1 = 1 := by
  have k := own_k i1
  have e := own_nn _ k.1
  unfold f0
  refine if_pos ?_
  unfold own_u g0_40
  simp only [e]
  generalize (i1 &&& (15 : Int32)) = j at *
  have t31 : (31 : Int32).toInt = 31 := rfl
  have t32 : (32 : Int32).toInt = 32 := rfl
  have m1 := c_imul i0 31
  have m2 := c_iadd (i0 * 31) j
  have m3 := c_mask (i0 * 31 + j) 255 8 (by decide) (by decide)
  have m4 := c_i2b (i0 * 31 + j &&& 255)
  have m5 := c_i2b ((i0 * 31 + j &&& 255).toInt8.toInt32)
  have m6 := c_mask (nar .byte ((i0 * 31 + j &&& 255).toInt8.toInt32)) 255 8 (by decide) (by decide)
  have l0 := c_mask i0 255 8 (by decide) (by decide)
  have l1 := c_imul (i0 &&& 255) 32
  have l2 := c_isub ((i0 &&& 255) * 32) (i0 &&& 255)
  have l3 := c_iadd ((i0 &&& 255) * 32 - (i0 &&& 255)) j
  have l4 := c_mask ((i0 &&& 255) * 32 - (i0 &&& 255) + j) 255 8 (by decide) (by decide)
  have nb : ∀ z : Int32, nar .byte z = z.toInt8.toInt32 := fun z => rfl
  rw [nb] at m6
  rw [nb]
  rw [t31] at m1
  rw [t32] at l1
  refine Int32.toInt_inj.mp ?_
  rw [m6, l4]
  omega

set_option maxRecDepth 65536 in
set_option maxHeartbeats 40000000 in
theorem comes_1 {Post : Tables → Env → Array Value → State → Outcome → State → Prop} (hpost : ∀ tb e args s v u, (limb_1_1.after args s (.returned v) u = true ∧ limb_1_2.after args s (.returned v) u = true ∧ True) → FrameEnd s (.returned v) u (Jvm.fieldLocs frame_1_writes args s ++ Jvm.arrayLocs frame_1_arrays args s ++ Jvm.staticLocs frame_1_statics s) 16 128 → Post tb e args s (.returned v) u) :
    ArmFor flags0 classFile x code maxLocals ret World_1 tables_1 room_1 Calls_1 rest_1 Pre_1 Post := by
  intro l hfl _ _ p e ha hc hk s m args below hf hA hF happ hP
  obtain ⟨hcalls, hrest, hpre⟩ := hP
  obtain ⟨-, -, -, hnamed, -, -, -, hat⟩ := (Spec.applies_iff hf).mp happ
  obtain ⟨hg, hn⟩ := and_e (Cond.before_iff.mp (show (Jvm.Cond.and given_1 narrow_1).before args s = true from hpre))
  obtain ⟨g1, g2⟩ := and_e hg
  obtain ⟨g3, g4⟩ := and_e g2
  obtain ⟨w0, w1, rfl⟩ : ∃ w0 w1 : Value, args = #[w0, w1] := by
    have hs : args.size = 2 := by simpa [Cond.value, given_1] using g1
    obtain ⟨L⟩ := args
    match L, hs with
    | [w0, w1], _ => exact ⟨w0, w1, rfl⟩
  have hw := fun d (hd : d ∈ tables_1) => atoms_spec (ws := Jvm.Cond.code x code maxLocals ret :: tables_1) hat d (List.mem_cons_of_mem _ hd)
  have hfit : Fit s := fun {y c} hc i hi => by
    obtain ⟨ha, rfl⟩ := Array.getElem?_eq_some_iff.mp hc
    have q := List.all_eq_true.mp ((Array.all_eq_true_iff_forall_mem.mp hF) _ (Array.getElem_mem ha)) i (List.mem_range.mpr hi)
    simpa [Array.getElem?_eq_getElem hi] using q
  obtain ⟨i0, ei0⟩ := is_v g3
  obtain rfl : w0 = (.int i0) := Option.some.inj ei0
  obtain ⟨i1, ei1⟩ := is_v g4
  obtain rfl : w1 = (.int i1) := Option.some.inj ei1
  obtain ⟨n, o, h1, h2, h3, v, L, rfl, ⟨rfl, N⟩, hq⟩ := rm0 l s _ hw tables_1 i0 i1 s.heap s.heap.size (Nat.le_refl _) p e ha hc hk s m _ below hf ((Spec.applies_iff_loose hf).mp happ).1 ⟨rfl, State.Warmed39.refl s, rfl⟩ trivial
  refine ⟨n, _, h1, h2, h3, hpost _ _ _ _ _ _ ⟨Cond.after_iff.mpr rfl, Cond.after_iff.mpr (eq_i res_at (Term.int_eval (1)) (congrArg Value.int (own_law i0 i1))), trivial⟩ ⟨hq.1, hq.2.1, (hq.2.2.sift fun y hy => Or.inr (N y hy)).mono (by decide) (by decide)⟩⟩
theorem main_1_1 : Claimed_1_1 := comes_1 fun _ _ _ _ _ _ h hF => ⟨h.1, hF⟩
theorem main_1_2 : Claimed_1_2 := comes_1 fun _ _ _ _ _ _ h hF => ⟨h.2.1, hF⟩
end Jvm.Pilot.@@N@@
namespace Jvm.Pilot.@@N@@
open Jvm Jvm.ClassFile Sem Op Lib Jvm.Free Jvm.Stand Jvm.Pilot.@@N@@.Jvm.D
/-! MADE BY PROGRAM (witnessworld.py) out of the Statement's table words and the real class files: 9 classes; the members and pool entries that the words name. The judged class is class 1, her method 1. -/
namespace start1
open Jvm.ClassFile
def u (s : String) : CpInfo := .utf8 (stringToUtf16 s)
/-- a pool by its gaps: so many unusable entries, then the entry; so many at the end -/
def gap : Nat → List CpInfo → List CpInfo
  | 0, r => r
  | n + 1, r => .unusable :: gap n r
def poolList (es : List (Nat × CpInfo)) (last : Nat) : List CpInfo := es.foldr (fun e r => gap e.1 (e.2 :: r)) (gap last [])
def pool (es : List (Nat × CpInfo)) (last : Nat) : Array CpInfo := ⟨poolList es last⟩
def fileOf (pool : Array CpInfo) (this : Nat) (attrs : Array Attribute := #[]) (ms : Array MethodInfo := #[]) (fl : Nat := 33) (sup : Nat := 0) (ifs : Array Nat := #[]) (fds : Array FieldInfo := #[]) : ClassFile where
  minorVersion := 0
  majorVersion := 65
  constantPool := pool
  accessFlags := fl
  thisClass := this
  superClass := sup
  interfaces := ifs
  fields := fds
  methods := ms
  attributes := attrs
def plain (name : String) (sup : Option ClassId) : Class where
  name := name
  kind := .ordinary
  loader := none
  accessFlags := 33
  super := sup
  interfaces := #[]
  cf := none
  fields := #[]
  methods := #[]
  instanceTypes := #[]
  staticTypes := #[]
  resolved := #[]
  callSites := []
  init := .initialized
  statics := none
  mirror := none

def pool0 : Array CpInfo := pool [(5, u "<init>"), (0, u "()V"), (1, .class_ 10), (1, u "java/lang/Object")] 113

def k0m0 : Method := { name := "<init>", desc := "()V", sig := { parameters := [], returnType := none }, accessFlags := 1, code := none }
/-- java/lang/Object -/
def k0 : Class := { plain "java/lang/Object" none with
  accessFlags := 33
  interfaces := #[]
  cf := some (fileOf pool0 8 #[] #[{ accessFlags := 1, nameIndex := 5, descriptorIndex := 6, attributes := #[] }] 33 0 #[] #[])
  fields := #[]
  methods := #[k0m0]
  instanceTypes := #[]
  staticTypes := #[]
  resolved := Array.replicate 124 none
  statics := none }

def pool1 : Array CpInfo := pool [(2, .class_ 4), (1, u "java/lang/Object"), (0, u "<init>"), (0, u "()V"), (0, .methodref 8 9), (0, .class_ 10), (0, .nameAndType 11 12), (0, u "com/example/framewire/framewire/bench/JcpStream"), (0, u "id"), (0, u "(I)[B"), (0, .class_ 14), (0, u "com/example/framewire/framewire/bench/JcpStreamIdPinLaw"), (2, u "law"), (0, u "(II)Z")] 5

def k1m0 : Method := { name := "<init>", desc := "()V", sig := { parameters := [], returnType := none }, accessFlags := 2, code := none }
def k1c1 : Code := { maxStack := 2, maxLocals := 6, code := code, exceptionTable := #[], attributes := #[] }
def k1m1 : Method := { name := "law", desc := "(II)Z", sig := { parameters := [.int, .int], returnType := some .boolean }, accessFlags := 9, code := some k1c1 }
/-- com/example/framewire/framewire/bench/JcpStreamIdPinLaw -/
def k1 : Class := { plain "com/example/framewire/framewire/bench/JcpStreamIdPinLaw" (some 0) with
  accessFlags := 49
  interfaces := #[]
  cf := some (fileOf pool1 13 #[] #[{ accessFlags := 2, nameIndex := 5, descriptorIndex := 6, attributes := #[] }, { accessFlags := 9, nameIndex := 17, descriptorIndex := 18, attributes := #[] }] 49 2 #[] #[])
  fields := #[]
  methods := #[k1m0, k1m1]
  instanceTypes := #[]
  staticTypes := #[]
  resolved := Array.replicate 24 none
  statics := none }

def pool2 : Array CpInfo := pool [(2, .class_ 4), (1, u "java/lang/Object"), (0, u "<init>"), (0, u "()V"), (4, .class_ 13), (1, u "com/example/framewire/framewire/bench/JcpStream"), (21, u "id"), (0, u "(I)[B"), (19, u "FRAMES"), (0, u "I"), (2, u "LENGTH"), (0, u "J"), (2, u "NOTICE"), (1, u "REQUEST"), (1, u "NOTICE_NAME"), (0, u "Ljava/lang/String;"), (0, u "REQUEST_NAME")] 29

def k2m0 : Method := { name := "<init>", desc := "()V", sig := { parameters := [], returnType := none }, accessFlags := 2, code := none }
def k2c1 : Code := { maxStack := 4, maxLocals := 3, code := prog_32_method_5_code, exceptionTable := #[], attributes := #[] }
def k2m1 : Method := { name := "id", desc := "(I)[B", sig := { parameters := [.int], returnType := some (.array .byte) }, accessFlags := 8, code := some k2c1 }
/-- com/example/framewire/framewire/bench/JcpStream -/
def k2 : Class := { plain "com/example/framewire/framewire/bench/JcpStream" (some 0) with
  accessFlags := 48
  interfaces := #[]
  cf := some (fileOf pool2 11 #[] #[{ accessFlags := 2, nameIndex := 5, descriptorIndex := 6, attributes := #[] }, { accessFlags := 8, nameIndex := 35, descriptorIndex := 36, attributes := #[] }] 48 2 #[] #[{ accessFlags := 24, nameIndex := 56, descriptorIndex := 57, attributes := #[] }, { accessFlags := 24, nameIndex := 60, descriptorIndex := 61, attributes := #[] }, { accessFlags := 24, nameIndex := 64, descriptorIndex := 57, attributes := #[] }, { accessFlags := 24, nameIndex := 66, descriptorIndex := 57, attributes := #[] }, { accessFlags := 24, nameIndex := 68, descriptorIndex := 69, attributes := #[] }, { accessFlags := 24, nameIndex := 70, descriptorIndex := 69, attributes := #[] }])
  fields := #[{ name := "FRAMES", type := .int, accessFlags := 24, slot := 0, constantValue := 0 }, { name := "LENGTH", type := .long, accessFlags := 24, slot := 1, constantValue := 0 }, { name := "NOTICE", type := .int, accessFlags := 24, slot := 2, constantValue := 0 }, { name := "REQUEST", type := .int, accessFlags := 24, slot := 3, constantValue := 0 }, { name := "NOTICE_NAME", type := (.object "java/lang/String"), accessFlags := 24, slot := 4, constantValue := 0 }, { name := "REQUEST_NAME", type := (.object "java/lang/String"), accessFlags := 24, slot := 5, constantValue := 0 }]
  methods := #[k2m0, k2m1]
  instanceTypes := #[]
  staticTypes := #[.int, .long, .int, .int, (.object "java/lang/String"), (.object "java/lang/String")]
  resolved := Array.replicate 100 none
  statics := none }

def pool3 : Array CpInfo := pool [(1, u "java/lang/Cloneable"), (0, .class_ 1), (0, u "java/lang/Object"), (0, .class_ 3)] 3

/-- java/lang/Cloneable -/
def k3 : Class := { plain "java/lang/Cloneable" (some 0) with
  accessFlags := 1537
  interfaces := #[]
  cf := some (fileOf pool3 2 #[] #[] 1537 4 #[] #[])
  fields := #[]
  methods := #[]
  instanceTypes := #[]
  staticTypes := #[]
  resolved := Array.replicate 8 none
  statics := none }

def pool4 : Array CpInfo := pool [(1, u "java/io/Serializable"), (0, .class_ 1), (0, u "java/lang/Object"), (0, .class_ 3)] 3

/-- java/io/Serializable -/
def k4 : Class := { plain "java/io/Serializable" (some 0) with
  accessFlags := 1537
  interfaces := #[]
  cf := some (fileOf pool4 2 #[] #[] 1537 4 #[] #[])
  fields := #[]
  methods := #[]
  instanceTypes := #[]
  staticTypes := #[]
  resolved := Array.replicate 8 none
  statics := none }

/-- the primitive byte -/
def k5 : Class := { plain "byte" none with kind := .primitive 'B', accessFlags := 0x411 }
/-- [B -/
def k6 : Class := { plain "[B" (some 0) with kind := .array 5 .byte, interfaces := #[3, 4], accessFlags := 1041 }

/-- the primitive int -/
def k7 : Class := { plain "int" none with kind := .primitive 'I', accessFlags := 0x411 }
/-- [I -/
def k8 : Class := { plain "[I" (some 0) with kind := .array 7 .int, interfaces := #[3, 4], accessFlags := 1041 }

def heap : Heap := #[]
def classes : Array Class := #[k0, k1, k2, k3, k4, k5, k6, k7, k8]
def interned : List (Array UInt16 × Addr) := []
def slotsUsed : Nat := 0
def theMethod : MethodId := ⟨1, 1⟩
def args0 : Array Value := #[.int 5, .int 7]
def aboutOver (below : List Frame) : State where
  vm := { classes := classes, interned := interned.toArray }
  heap := heap
  slotsUsed := slotsUsed
  threads := #[{ frames := .invoking theMethod args0 :: below }]
def below0 : List Frame := [.native { method := ⟨0, 0⟩, args := #[] }]
def about1 : State := aboutOver below0
def p0 : Program := .bare "" "" ""
def e0 : Env := launch0.env 0 0 0
theorem w_frames : about1.frames = Frame.invoking theMethod args0 :: below0 := rfl
set_option maxRecDepth 65536 in
theorem w_args : argsFit about1.vm theMethod args0 = true := by decide +kernel
set_option maxRecDepth 65536 in
theorem w_heap : heapFits about1 = true := by decide +kernel
set_option maxRecDepth 65536 in
theorem w_runnable : about1.curStatus? = some .runnable := by decide +kernel
set_option maxRecDepth 65536 in
theorem w_alone : about1.alone = true := by decide +kernel
set_option maxRecDepth 65536 in
theorem w_named : about1.methodNamed? x = some theMethod := by decide +kernel
set_option maxRecDepth 65536 in
theorem w_hears : about1.hears theMethod below0 = true := by decide +kernel
set_option maxRecDepth 65536 in
theorem w_ripe : about1.ripe theMethod args0 below0 = true := by decide +kernel
theorem w_running : about1.status = .running := rfl
set_option maxRecDepth 65536 in
theorem w_room : about1.hasRoom e0.platform room_1 = true :=
  launch0.hasRoom_least _ room_1 (by decide +kernel) (by decide +kernel) (by decide +kernel) (by decide +kernel) (by decide +kernel) (by decide +kernel)
theorem allAtoms_all (ts : List Jvm.Cond) (a : Array Jvm.Value) (st : Jvm.State) : (allAtoms ts).before a st = ts.all (fun c => c.before a st) := by
  induction ts with
  | nil => rfl
  | cons c t ih =>
    show (Jvm.Cond.and c (allAtoms t)).before a st = _
    rw [Jvm.Cond.before_and, ih, List.all_cons]
def words1 : List Jvm.Cond := Jvm.Cond.code x code maxLocals ret :: tables_1
/-- a 'code' word, met by the world's own term for the bytes: nothing is compared byte by byte -/
theorem code_word {y : MethodName} {bytes : ByteArray} {mx : Nat} {rt : Option FieldType} {a : Array Value} {s : State} {m : MethodId} {meth : Method} {c : Code} (h1 : s.methodNamed? y = some m) (h2 : s.vm.method? m = some meth) (h3 : meth.code = some c) (h4 : c.code = bytes)
    (h5 : (c.maxLocals == mx && c.exceptionTable.isEmpty && decide (c.maxStack ≤ mostOperands) && decide (meth.sig.returnType = rt) && !meth.locks && decide (parseMethodDescriptor y.desc = some meth.sig)) = true) : (Jvm.Cond.code y bytes mx rt).before a s = true := by
  simp only [Bool.and_eq_true, beq_iff_eq, Bool.not_eq_true', decide_eq_true_eq] at h5
  obtain ⟨⟨⟨⟨⟨g1, g2⟩, g3⟩, g4⟩, g5⟩, g6⟩ := h5
  simp [Cond.before, Cond.holds, Cond.value, h1, h2, h3, h4, g1, g2, g3, g4, g5, g6]
def isCode : Jvm.Cond → Bool
  | .code _ _ _ _ => true
  | _ => false
theorem all_split {L : List Jvm.Cond} {P : Jvm.Cond → Bool} (h1 : L.all (fun c => isCode c || P c) = true) (h2 : ∀ c ∈ L.filter isCode, P c = true) : L.all P = true := by
  refine List.all_eq_true.mpr fun c hc => ?_
  have h := List.all_eq_true.mp h1 c hc
  rcases Bool.eq_false_or_eq_true (isCode c) with hi | hi
  · exact h2 c (List.mem_filter.mpr ⟨hc, hi⟩)
  · simpa [hi] using h
set_option maxRecDepth 65536 in
theorem w_c0 : (Jvm.Cond.code x code maxLocals ret).before args0 about1 = true := code_word (m := ⟨1, 1⟩) (meth := k1m1) (c := k1c1) (by decide +kernel) rfl rfl rfl (by decide +kernel)
set_option maxRecDepth 65536 in
theorem w_c1 : (Jvm.Cond.code ({ cls := "com/example/framewire/framewire/bench/JcpStream", name := "id", desc := "(I)[B" } : Jvm.MethodName) prog_32_method_5_code (3 : Nat) (Option.some (Jvm.ClassFile.FieldType.array Jvm.ClassFile.FieldType.byte))).before args0 about1 = true := code_word (m := ⟨2, 1⟩) (meth := k2m1) (c := k2c1) (by decide +kernel) rfl rfl rfl (by decide +kernel)
def codes1 : List Jvm.Cond := [Jvm.Cond.code x code maxLocals ret, Jvm.Cond.code ({ cls := "com/example/framewire/framewire/bench/JcpStream", name := "id", desc := "(I)[B" } : Jvm.MethodName) prog_32_method_5_code (3 : Nat) (Option.some (Jvm.ClassFile.FieldType.array Jvm.ClassFile.FieldType.byte))]
set_option maxRecDepth 65536 in
theorem codes_eq : words1.filter isCode = codes1 := rfl
theorem w_codes : ∀ c ∈ words1.filter isCode, c.before args0 about1 = true := by
  rw [codes_eq]
  intro c hc
  simp only [codes1, List.mem_cons, List.not_mem_nil, or_false] at hc
  rcases hc with rfl | rfl
  · exact w_c0
  · exact w_c1
set_option maxRecDepth 65536 in
theorem w_t1 : words1.all (fun c => isCode c || c.before args0 about1) = true := by decide +kernel
theorem w_tables : (allAtoms (Jvm.Cond.code x code maxLocals ret :: tables_1)).before args0 about1 = true := by
  rw [allAtoms_all]
  show words1.all (fun c => c.before args0 about1) = true
  refine all_split ?_ w_codes
  rw [w_t1]
set_option maxRecDepth 65536 in
theorem w_case : (Jvm.Cond.and given_1 narrow_1).before args0 about1 = true := by decide +kernel
theorem w_applies : (headSpec (Jvm.Cond.code x code maxLocals ret :: tables_1) room_1).applies x e0.platform about1 = true :=
  (Spec.applies_iff w_frames).mpr ⟨w_running, w_runnable, w_alone, w_named, w_hears, w_ripe, w_room, w_tables⟩
theorem atStart : AtStart classFile x code maxLocals ret World_1 tables_1 room_1 Calls_1 rest_1 Pre_1 launch0 p0 e0 about1 theMethod args0 below0 :=
  ⟨lists_1, trivial, launch0.admits_env _ _ _, launch0.least_env, fairChoices_fair.cas, fairChoices_fair.clock, w_frames, w_args, w_heap, w_applies, trivial, trivial, w_case⟩
end start1
theorem witness_1 : WitnessClaimed_1 := ⟨start1.p0, start1.e0, start1.about1, start1.theMethod, start1.args0, start1.below0, start1.atStart⟩
end Jvm.Pilot.@@N@@
