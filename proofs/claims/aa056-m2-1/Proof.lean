import JvmDerived
import JvmDerived.Pilot.@@N@@Statement
import JvmDerived.Pilot.@@N@@Code
set_option linter.unusedVariables false
set_option linter.unusedSimpArgs false
namespace Jvm.RoadKit
open Sem ClassFile Op Lib Jvm.Stand Jvm.Free Jvm.LawKit
section New
variable {p : Program} {l : Launch} {e : Env} {R : Room} {s : State} {m : MethodId} {args : Array Value} {below : List Frame} {meth : Method} {c : Code} {T : State} {locs : List Loc} {cells slots : Nat}
theorem retI (X : Stand p l e R s m args below meth c T locs cells slots) (hx : p.tables.exec = Jvm.exec) {pc : Nat} {Ls : Array Slot} {z : Int32} {rest : List Value} (hret : meth.sig.returnType = some .int) (hd : decode c.code pc = .ok (.ireturn, 1)) {fs : List Frame}
    (hl : ∀ (f : JFrame) (acts : List Action), f.method = m → f.locked = none → f.entered = [] → (doReturn e (T.setTop f) acts (some (.int z))).1 = T.setFrames fs) : Steps p.tables e below (T.setTop (mkF m pc Ls (.int z :: rest))) (T.setFrames fs) := by
  have hm' : T.vm.method? m = some meth := X.method'
  have hn : narrow .int (.int z) = .int z := rfl
  show Steps p.tables e below (T.setTop { method := m, pc := pc, locals := Ls, stack := _ :: rest, locked := none }) _
  jvm_step X.here [X.here.top, hx, hd, hm', hret, hn]
  first | (intro acts; rw [hl _ acts rfl rfl rfl]) | rw [hl _ _ rfl rfl rfl]
  exact Steps.refl _
end New
end Jvm.RoadKit
namespace Jvm.Pilot.@@N@@
open Jvm Jvm.ClassFile Sem Op Lib Jvm.Free Jvm.Stand Jvm.LawKit Jvm.RoadKit Bundle Jvm.Pilot.@@N@@.Jvm.D

/-! the walk's goal: from this frame the run comes to its end, and Q holds of what it returns, of the heap and of the places written -/
def Fini (p : Program) (e : Env) (below : List Frame) (s : State) (Q : Option Value → Heap → List Loc → Prop) (C S : Nat) (T : State) (g : JFrame) : Prop :=
  ∃ s₂ o, Steps p.tables e below (T.setTop g) s₂ ∧ s₂.status = .running ∧ Ended s₂ below o ∧ ∃ v L, o = .returned v ∧ Q v s₂.heap L ∧ FrameEnd s o s₂ L C S
abbrev Cmet (l : Launch) (Z : State) (y : MethodName) (bytes : ByteArray) (ml : Nat) (ret : Option FieldType) (ws : List Jvm.Cond) (rm : Room) (as : Array Value) (h0 : Heap) (Q : Option Value → Heap → List Loc → Prop) : Prop :=
  MetFree l y (head1 (Jvm.Cond.code y bytes ml ret :: ws) rm) (fun a U => a = as ∧ Z.Warmed39 U.vm ∧ U.heap = h0) (fun _ _ _ _ _ => True) (fun _ U o U' => ∃ v L, o = .returned v ∧ Q v U'.heap L ∧ FrameEnd U o U' L rm.cells rm.slots)
section Own
variable {p : Program} {l : Launch} {e : Env} {R : Room} {s : State} {m : MethodId} {args : Array Value} {below : List Frame} {meth : Method} {c : Code} {T T' : State} {locs : List Loc} {cells slots : Nat} {Q : Option Value → Heap → List Loc → Prop} {C S : Nat} {g g' : JFrame} {Z : State} {a0 : Array Value} {h : Heap}
theorem Fini.st (k : ∀ t, Steps p.tables e below (T'.setTop g') t → Steps p.tables e below (T.setTop g) t) (f : Fini p e below s Q C S T' g') : Fini p e below s Q C S T g := by
  obtain ⟨s2, o, h1, r⟩ := f
  exact ⟨s2, o, k _ h1, r⟩
theorem Fini.cast (q : g = g') (f : Fini p e below s Q C S T g') : Fini p e below s Q C S T g := q ▸ f
theorem Fini.retI (X : Stand p l e R s m args below meth c T locs cells slots) (hx : p.tables.exec = Jvm.exec) (hl : meth.locks = false) (hret : meth.sig.returnType = some .int) {pc : Nat} {Ls : Array Slot} {z : Int32} {rest : List Value} (hd : decode c.code pc = .ok (.ireturn, 1))
    (hC : cells ≤ C) (hS : slots ≤ S) (hQ : Q (some (.int z)) T.heap locs) : Fini p e below s Q C S T (mkF m pc Ls (.int z :: rest)) := by
  obtain ⟨fs, hr, hrun, hended, hW, hsame⟩ := X.leave (v := some (.int z)) (fun h => by rw [hret] at h; cases h) hl
  exact ⟨_, _, Jvm.RoadKit.retI X hx hret hd hr, hrun, hended, _, _, rfl, hQ, ⟨_, rfl⟩, hW, hsame.mono hC hS⟩
theorem Fini.retN (X : Stand p l e R s m args below meth c T locs cells slots) (hx : p.tables.exec = Jvm.exec) (hl : meth.locks = false) {t : FieldType} (hret : meth.sig.returnType = some t) (ht : t = .boolean ∨ t = .byte ∨ t = .char ∨ t = .short) {pc : Nat} {Ls : Array Slot} {z z' : Int32} {rest : List Value} (hd : decode c.code pc = .ok (.ireturn, 1))
    (hz : nar t z = z') (hC : cells ≤ C) (hS : slots ≤ S) (hQ : Q (some (.int z')) T.heap locs) : Fini p e below s Q C S T (mkF m pc Ls (.int z :: rest)) := by
  subst hz
  obtain ⟨fs, hr, hrun, hended, hW, hsame⟩ := X.leave (v := some (.int (nar t z))) (fun h => by rw [hret] at h; cases h) hl
  exact ⟨_, _, Jvm.RoadKit.retN X hx hret ht hd hr, hrun, hended, _, _, rfl, hQ, ⟨_, rfl⟩, hW, hsame.mono hC hS⟩
theorem Fini.retJ (X : Stand p l e R s m args below meth c T locs cells slots) (hx : p.tables.exec = Jvm.exec) (hl : meth.locks = false) (hret : meth.sig.returnType = some .long) {pc : Nat} {Ls : Array Slot} {z : Int64} {rest : List Value} (hd : decode c.code pc = .ok (.lreturn, 1))
    (hC : cells ≤ C) (hS : slots ≤ S) (hQ : Q (some (.long z)) T.heap locs) : Fini p e below s Q C S T (mkF m pc Ls (.long z :: rest)) := by
  obtain ⟨fs, hr, hrun, hended, hW, hsame⟩ := X.leave (v := some (.long z)) (fun h => by rw [hret] at h; cases h) hl
  exact ⟨_, _, retOut X hx hret rfl (Or.inr (Or.inl ⟨rfl, rfl, z, rfl⟩)) hd hr, hrun, hended, _, _, rfl, hQ, ⟨_, rfl⟩, hW, hsame.mono hC hS⟩
theorem Fini.retA (X : Stand p l e R s m args below meth c T locs cells slots) (hx : p.tables.exec = Jvm.exec) (hl : meth.locks = false) {t : FieldType} (hret : meth.sig.returnType = some t) (ht : t.isReference = true) {pc : Nat} {Ls : Array Slot} {w : Value} {rest : List Value} (hd : decode c.code pc = .ok (.areturn, 1)) (hw : w.isRef = true) (hn : narrow t w = w)
    (hC : cells ≤ C) (hS : slots ≤ S) (hQ : Q (some w) T.heap locs) : Fini p e below s Q C S T (mkF m pc Ls (w :: rest)) := by
  obtain ⟨fs, hr, hrun, hended, hW, hsame⟩ := X.leave (v := some w) (fun h => by rw [hret] at h; cases h) hl
  exact ⟨_, _, retOut X hx hret hn (Or.inr (Or.inr (Or.inr (Or.inr ⟨rfl, ht, hw⟩)))) hd hr, hrun, hended, _, _, rfl, hQ, ⟨_, rfl⟩, hW, hsame.mono hC hS⟩
theorem Fini.ret0 (X : Stand p l e R s m args below meth c T locs cells slots) (hx : p.tables.exec = Jvm.exec) (hl : meth.locks = false) (hret : meth.sig.returnType = none) {pc : Nat} {Ls : Array Slot} (hd : decode c.code pc = .ok (.return_, 1))
    (hC : cells ≤ C) (hS : slots ≤ S) (hQ : Q none T.heap locs) : Fini p e below s Q C S T (mkF m pc Ls []) := by
  obtain ⟨fs, hr, hrun, hended, hW, hsame⟩ := X.leave (v := none) (fun _ => rfl) hl
  exact ⟨_, _, X.returnOut hx hret hd hr, hrun, hended, _, _, rfl, hQ, ⟨_, rfl⟩, hW, hsame.mono hC hS⟩
/-- a static call by its contract -/
theorem callQ (X : Stand p l e R s m args below meth c T locs cells slots) (hx : p.tables.exec = Jvm.exec) (hZ : Z.Warmed39 s.vm) {own : String} {index : Nat} {y : MethodName} {bytes : ByteArray} {maxL : Nat} {ret : Option FieldType} {rm : Room} {as : Array Value}
    (hown : s.vm.findClass own = some m.cls) (w1 : (Cond.methodLink own index y).before a0 Z = true) (w2 : (Cond.static y).before a0 Z = true) (w3 : (Cond.initialized y.cls).before a0 Z = true) (w4 : (Cond.code y bytes maxL ret).before a0 Z = true)
    (hy : y.cls ≠ "java/lang/invoke/MethodHandle" ∧ y.cls ≠ "java/lang/invoke/VarHandle") (M : Cmet l Z y bytes maxL ret [] rm as h Q) (eT : T.heap = h) {W : Nat} (hf : rm.frames + 1 ≤ R.frames) (hl : W + (maxL + 11) + rm.locals ≤ R.locals) (hc : cells + rm.cells ≤ R.cells) (hs : slots + rm.slots ≤ R.slots)
    (hg : g.method = m) (hsize : g.locals.size = c.maxLocals) {argsL rest : List Value} (has : argsL.toArray = as) (hlen : ∀ sig, parseMethodDescriptor y.desc = some sig → argsL.length = sig.parameters.length)
    (hstack : g.stack = argsL.reverse ++ rest) (hW : 2 * g.monitorRoom + (rest.map fun v => v.category).sum ≤ W) (hdg : decode c.code g.pc = .ok (.invokestatic index, 3)) :
    ∃ (v : Option Value) (T' : State) (L : List Loc), Stand p l e R s m args below meth c T' (locs ++ L) (cells + rm.cells) (slots + rm.slots) ∧ Q v T'.heap L ∧
      ∀ target, Steps p.tables e below (T'.setTop { g with pc := g.pc + 3, stack := v.toList ++ rest }) target → Steps p.tables e below (T.setTop g) target := by
  obtain ⟨v, vm1, ⟨T', L', c', n'⟩, -, X', ⟨L, hQ, q1, q2, q3⟩, st⟩ := Jvm.LawKit.callS X hx hown (mvT hZ w1) (mvT hZ w2) (mvT hZ w3) (mvT hZ w4) hy (backOf (W := W) M hZ w4 w3 hf hl) hg hsize hlen hstack hW hdg (fun _ _ => ⟨has, eT, hc, hs⟩)
  dsimp only [Pt.U, Pt.locs, Pt.cells, Pt.slots] at X' q1 q2 q3 st hQ
  subst q1 q2 q3
  exact ⟨v, T', L, X', hQ, st⟩
/-- a static call that leaves the heap as it was -/
theorem pureS (X : Stand p l e R s m args below meth c T locs cells slots) (hx : p.tables.exec = Jvm.exec) (hZ : Z.Warmed39 s.vm) {own : String} {index : Nat} {y : MethodName} {bytes : ByteArray} {maxL : Nat} {ret : Option FieldType} {fr lo : Nat} {as : Array Value} {w : Option Value}
    (hown : s.vm.findClass own = some m.cls) (w1 : (Cond.methodLink own index y).before a0 Z = true) (w2 : (Cond.static y).before a0 Z = true) (w3 : (Cond.initialized y.cls).before a0 Z = true) (w4 : (Cond.code y bytes maxL ret).before a0 Z = true)
    (hy : y.cls ≠ "java/lang/invoke/MethodHandle" ∧ y.cls ≠ "java/lang/invoke/VarHandle") (M : Cmet l Z y bytes maxL ret [] ({ frames := fr, cells := 0, slots := 0, locals := lo } : Room) as h (fun v h' L => v = w ∧ h' = h ∧ L = [])) (eT : T.heap = h) {W : Nat} (hf : fr + 1 ≤ R.frames) (hl : W + (maxL + 11) + lo ≤ R.locals) (hc : cells ≤ R.cells) (hs : slots ≤ R.slots)
    (hg : g.method = m) (hsize : g.locals.size = c.maxLocals) {argsL rest : List Value} (has : argsL.toArray = as) (hlen : ∀ sig, parseMethodDescriptor y.desc = some sig → argsL.length = sig.parameters.length)
    (hstack : g.stack = argsL.reverse ++ rest) (hW : 2 * g.monitorRoom + (rest.map fun v => v.category).sum ≤ W) (hdg : decode c.code g.pc = .ok (.invokestatic index, 3)) :
    ∃ (T' : State), Stand p l e R s m args below meth c T' locs cells slots ∧ T'.heap = h ∧
      ∀ target, Steps p.tables e below (T'.setTop { g with pc := g.pc + 3, stack := w.toList ++ rest }) target → Steps p.tables e below (T.setTop g) target := by
  obtain ⟨v, T', L, X', ⟨rfl, q, rfl⟩, st⟩ := callQ X hx hZ hown w1 w2 w3 w4 hy M eT (W := W) hf hl hc hs hg hsize has hlen hstack hW hdg
  rw [List.append_nil] at X'
  exact ⟨T', X', q, st⟩
/-- an instance method by the contract of the body that the receiver's class selects -/
theorem callV (X : Stand p l e R s m args below meth c T locs cells slots) (hx : p.tables.exec = Jvm.exec) (hZ : Z.Warmed39 s.vm) {own C' : String} {index : Nat} {y z : MethodName} {bytes : ByteArray} {maxL : Nat} {ret : Option FieldType} {rm : Room} {as : Array Value} {b : Addr}
    (hown : s.vm.findClass own = some m.cls) (w1 : (Cond.methodLink own index y).before a0 Z = true) (w2 : (Cond.declares y).before a0 Z = true) (w3 : (Cond.selects C' y z).before a0 Z = true) (w4 : (Cond.instanceMethod z).before a0 Z = true) (w5 : (Cond.initialized z.cls).before a0 Z = true) (w6 : (Cond.code z bytes maxL ret).before a0 Z = true)
    (nf : NotFace s y) (E : Exa Z h b C') (hy : y.cls ≠ "java/lang/invoke/MethodHandle" ∧ y.cls ≠ "java/lang/invoke/VarHandle") (M : Cmet l Z z bytes maxL ret [] rm as h Q) (eT : T.heap = h) {W : Nat} (hf : rm.frames + 1 ≤ R.frames) (hl : W + (maxL + 11) + rm.locals ≤ R.locals) (hc : cells + rm.cells ≤ R.cells) (hs : slots + rm.slots ≤ R.slots)
    (hg : g.method = m) (hsize : g.locals.size = c.maxLocals) {argsL rest : List Value} (has : (Value.ref b :: argsL).toArray = as) (hlen : ∀ sig, parseMethodDescriptor y.desc = some sig → argsL.length = sig.parameters.length)
    (hstack : g.stack = argsL.reverse ++ .ref b :: rest) (hW : 2 * g.monitorRoom + (rest.map fun v => v.category).sum ≤ W) (hdg : decode c.code g.pc = .ok (.invokevirtual index, 3)) :
    ∃ (v : Option Value) (T' : State) (L : List Loc), Stand p l e R s m args below meth c T' (locs ++ L) (cells + rm.cells) (slots + rm.slots) ∧ Q v T'.heap L ∧
      ∀ target, Steps p.tables e below (T'.setTop { g with pc := g.pc + 3, stack := v.toList ++ rest }) target → Steps p.tables e below (T.setTop g) target := by
  obtain ⟨cB, kB, q1, q2, q3⟩ := isOf hZ eT E
  obtain ⟨v, vm1, ⟨T', L', c', n'⟩, -, X', ⟨L, hQ, r1, r2, r3⟩, st⟩ := X.virtualBack hx hown (mvT hZ w1) (mvT hZ w2) nf (mvT hZ w3) (mvT hZ w4) hy (backOf (W := W) M hZ w6 w5 hf hl) q1 q3 hg hsize (Steps.refl _) hlen hstack hW hdg (fun _ _ => ⟨has, eT, hc, hs⟩)
  dsimp only [Pt.U, Pt.locs, Pt.cells, Pt.slots] at X' r1 r2 r3 st hQ
  subst r1 r2 r3
  exact ⟨v, T', L, X', hQ, fun _ k => st.trans k⟩
theorem pureV (X : Stand p l e R s m args below meth c T locs cells slots) (hx : p.tables.exec = Jvm.exec) (hZ : Z.Warmed39 s.vm) {own C' : String} {index : Nat} {y z : MethodName} {bytes : ByteArray} {maxL : Nat} {ret : Option FieldType} {fr lo : Nat} {as : Array Value} {b : Addr} {w : Option Value}
    (hown : s.vm.findClass own = some m.cls) (w1 : (Cond.methodLink own index y).before a0 Z = true) (w2 : (Cond.declares y).before a0 Z = true) (w3 : (Cond.selects C' y z).before a0 Z = true) (w4 : (Cond.instanceMethod z).before a0 Z = true) (w5 : (Cond.initialized z.cls).before a0 Z = true) (w6 : (Cond.code z bytes maxL ret).before a0 Z = true)
    (nf : NotFace s y) (E : Exa Z h b C') (hy : y.cls ≠ "java/lang/invoke/MethodHandle" ∧ y.cls ≠ "java/lang/invoke/VarHandle") (M : Cmet l Z z bytes maxL ret [] ({ frames := fr, cells := 0, slots := 0, locals := lo } : Room) as h (fun v h' L => v = w ∧ h' = h ∧ L = [])) (eT : T.heap = h) {W : Nat} (hf : fr + 1 ≤ R.frames) (hl : W + (maxL + 11) + lo ≤ R.locals) (hc : cells ≤ R.cells) (hs : slots ≤ R.slots)
    (hg : g.method = m) (hsize : g.locals.size = c.maxLocals) {argsL rest : List Value} (has : (Value.ref b :: argsL).toArray = as) (hlen : ∀ sig, parseMethodDescriptor y.desc = some sig → argsL.length = sig.parameters.length)
    (hstack : g.stack = argsL.reverse ++ .ref b :: rest) (hW : 2 * g.monitorRoom + (rest.map fun v => v.category).sum ≤ W) (hdg : decode c.code g.pc = .ok (.invokevirtual index, 3)) :
    ∃ (T' : State), Stand p l e R s m args below meth c T' locs cells slots ∧ T'.heap = h ∧
      ∀ target, Steps p.tables e below (T'.setTop { g with pc := g.pc + 3, stack := w.toList ++ rest }) target → Steps p.tables e below (T.setTop g) target := by
  obtain ⟨v, T', L, X', ⟨rfl, q, rfl⟩, st⟩ := callV X hx hZ hown w1 w2 w3 w4 w5 w6 nf E hy M eT (W := W) hf hl hc hs hg hsize has hlen hstack hW hdg
  rw [List.append_nil] at X'
  exact ⟨T', X', q, st⟩
/-- a constructor by its contract -/
theorem callNew (X : Stand p l e R s m args below meth c T locs cells slots) (hx : p.tables.exec = Jvm.exec) (hZ : Z.Warmed39 s.vm) {own : String} {index : Nat} {y : MethodName} {bytes : ByteArray} {maxL : Nat} {rm : Room} {as : Array Value} {b : Addr}
    (hown : s.vm.findClass own = some m.cls) (hy1 : y.name = "<init>") (w1 : (Cond.methodLink own index y).before a0 Z = true) (w2 : (Cond.instanceMethod y).before a0 Z = true) (w3 : (Cond.initialized y.cls).before a0 Z = true) (w4 : (Cond.code y bytes maxL none).before a0 Z = true)
    (hy : y.cls ≠ "java/lang/invoke/MethodHandle" ∧ y.cls ≠ "java/lang/invoke/VarHandle") (M : Cmet l Z y bytes maxL none [] rm as h Q) (eT : T.heap = h) {W : Nat} (hf : rm.frames + 1 ≤ R.frames) (hl : W + (maxL + 11) + rm.locals ≤ R.locals) (hc : cells + rm.cells ≤ R.cells) (hs : slots + rm.slots ≤ R.slots)
    (hg : g.method = m) (hsize : g.locals.size = c.maxLocals) {argsL rest : List Value} (has : (Value.ref b :: argsL).toArray = as) (hlen : ∀ sig, parseMethodDescriptor y.desc = some sig → argsL.length = sig.parameters.length)
    (hstack : g.stack = argsL.reverse ++ .ref b :: rest) (hW : 2 * g.monitorRoom + (rest.map fun v => v.category).sum ≤ W) (hdg : decode c.code g.pc = .ok (.invokespecial index, 3)) :
    ∃ (v : Option Value) (T' : State) (L : List Loc), Stand p l e R s m args below meth c T' (locs ++ L) (cells + rm.cells) (slots + rm.slots) ∧ Q v T'.heap L ∧
      ∀ target, Steps p.tables e below (T'.setTop { g with pc := g.pc + 3, stack := v.toList ++ rest }) target → Steps p.tables e below (T.setTop g) target := by
  obtain ⟨v, vm1, ⟨T', L', c', n'⟩, -, X', ⟨L, hQ, r1, r2, r3⟩, st⟩ := X.specialBack hx hy1 hown (mvT hZ w1) (mvT hZ w2) (mvT hZ w4) hy (backOf (W := W) M hZ w4 w3 hf hl) hg hsize (Steps.refl _) hlen hstack hW hdg (fun _ _ => ⟨has, eT, hc, hs⟩)
  dsimp only [Pt.U, Pt.locs, Pt.cells, Pt.slots] at X' r1 r2 r3 st hQ
  subst r1 r2 r3
  exact ⟨v, T', L, X', hQ, fun _ k => st.trans k⟩
theorem nb0 : nar .boolean (0 : Int32) = 0 := by decide
theorem nb1 : nar .boolean (1 : Int32) = 1 := by decide
end Own
theorem d1_0 : decode prog_9_method_5_code 0 = .ok (.lload_n 0, 1) := by decide +kernel
theorem d1_1 : decode prog_9_method_5_code 1 = .ok (.ldc2_w 29, 3) := by decide +kernel
theorem d1_4 : decode prog_9_method_5_code 4 = .ok (.iload_n 2, 1) := by decide +kernel
theorem d1_5 : decode prog_9_method_5_code 5 = .ok (.i2l, 1) := by decide +kernel
theorem d1_6 : decode prog_9_method_5_code 6 = .ok (.lmul, 1) := by decide +kernel
theorem d1_7 : decode prog_9_method_5_code 7 = .ok (.lsub, 1) := by decide +kernel
theorem d1_8 : decode prog_9_method_5_code 8 = .ok (.lload_n 0, 1) := by decide +kernel
theorem d1_9 : decode prog_9_method_5_code 9 = .ok (.ldc2_w 31, 3) := by decide +kernel
theorem d1_12 : decode prog_9_method_5_code 12 = .ok (.lxor, 1) := by decide +kernel
theorem d1_13 : decode prog_9_method_5_code 13 = .ok (.land, 1) := by decide +kernel
theorem d1_14 : decode prog_9_method_5_code 14 = .ok (.ldc2_w 33, 3) := by decide +kernel
theorem d1_17 : decode prog_9_method_5_code 17 = .ok (.land, 1) := by decide +kernel
theorem d1_18 : decode prog_9_method_5_code 18 = .ok (.lreturn, 1) := by decide +kernel
theorem pn_0 : plainName "com/example/bounds/bounds/json/Words" = true := by first | (simp [plainName, overriddenIn]; done) | decide +kernel
theorem ef1 (m : MethodId) (x0 : Int64) (x1 : Int32) : entryFrame m #[(.long x0), (.int x1)] 3 = mkF m 0 #[.val (.long x0), .second, .val (.int x1)] [] := by first | (simp [entryFrame, mkF, argsToLocals, Value.category]; done) | rfl
def f1 (q0 : Int64) (p1 : Int32) : Int64 := (((q0 - ((72340172838076673 : Int64) * p1.toInt64)) &&& (q0 ^^^ (-1 : Int64))) &&& (-9187201950435737472 : Int64))
set_option maxRecDepth 65536 in
set_option maxHeartbeats 40000000 in
theorem rm1 (l : Launch) (Z : State) (a0 : Array Value) (hw : ∀ d ∈ tables_1, d.before a0 Z = true) (ws : List Jvm.Cond) (q0 : Int64) (p1 : Int32) (h0 : Heap) :
    Cmet l Z (⟨"com/example/bounds/bounds/json/Words", "below", "(JI)J"⟩ : MethodName) prog_9_method_5_code 3 (some .long) ws ({ frames := 0, cells := 0, slots := 0, locals := 0 } : Room) #[(.long q0), (.int p1)] h0 (fun v h' L => v = some (.long (f1 q0 p1)) ∧ h' = h0 ∧ L = []) := by
  refine MetFree.of_bodySF (plainFor_of_name pn_0) hisR ?_
  intro p e s m args below meth c s₁ Bd hml0 hP hK
  obtain ⟨rfl, hZ, hh⟩ := hP
  have hx := Bd.exec
  have hlk : meth.locks = false := BodyLoose.notSynchronized Bd
  have hby := Bd.bytes
  have hml : c.maxLocals = 3 := hml0
  have hown : s.vm.findClass "com/example/bounds/bounds/json/Words" = some m.cls := findClass_of_methodNamed Bd.named
  have hnm := (name_of_methodNamed Bd.named Bd.method).1
  have X0 : Stand p l e ({ frames := 0, cells := 0, slots := 0, locals := 0 } : Room) s m #[(.long q0), (.int p1)] below meth c s₁ [] 0 0 := Stand.of_body Bd
  have e0 : s₁.heap = h0 := by rw [← hh, Bd.state]; rfl
  have hv0 : f1 q0 p1 = f1 q0 p1 := rfl
  show Fini p e below s (fun v h' L => v = some (.long (f1 q0 p1)) ∧ h' = h0 ∧ L = []) _ _ s₁ (entryFrame m #[(.long q0), (.int p1)] 3)
  refine Fini.cast (ef1 m q0 p1) ?_
  show Fini p e below s _ _ _ s₁ (mkF m 0 #[.val (.long q0), .second, .val (.int p1)] [])
  refine Fini.st (fun _ k => XS.lloadN X0.here hx rfl (hb hby d1_0) rfl k) ?_
  show Fini p e below s _ _ _ s₁ (mkF m 1 #[.val (.long q0), .second, .val (.int p1)] [(.long q0)])
  refine Fini.st (fun _ k => X0.ldc2J hx hown (mvT hZ (hw _ (List.mem_of_getElem? (i := 5) rfl))) rfl (hb hby d1_1) k) ?_
  show Fini p e below s _ _ _ s₁ (mkF m 4 #[.val (.long q0), .second, .val (.int p1)] [(.long (72340172838076673 : Int64)), (.long q0)])
  refine Fini.st (fun _ k => XS.iloadN X0.here hx rfl (hb hby d1_4) rfl k) ?_
  show Fini p e below s _ _ _ s₁ (mkF m 5 #[.val (.long q0), .second, .val (.int p1)] [(.int p1), (.long (72340172838076673 : Int64)), (.long q0)])
  refine Fini.st (fun _ k => XS.i2l X0.here hx rfl (hb hby d1_5) rfl k) ?_
  show Fini p e below s _ _ _ s₁ (mkF m 6 #[.val (.long q0), .second, .val (.int p1)] [(.long p1.toInt64), (.long (72340172838076673 : Int64)), (.long q0)])
  refine Fini.st (fun _ k => XS.lmul X0.here hx rfl (hb hby d1_6) rfl k) ?_
  show Fini p e below s _ _ _ s₁ (mkF m 7 #[.val (.long q0), .second, .val (.int p1)] [(.long ((72340172838076673 : Int64) * p1.toInt64)), (.long q0)])
  refine Fini.st (fun _ k => XS.lsub X0.here hx rfl (hb hby d1_7) rfl k) ?_
  show Fini p e below s _ _ _ s₁ (mkF m 8 #[.val (.long q0), .second, .val (.int p1)] [(.long (q0 - ((72340172838076673 : Int64) * p1.toInt64)))])
  refine Fini.st (fun _ k => XS.lloadN X0.here hx rfl (hb hby d1_8) rfl k) ?_
  show Fini p e below s _ _ _ s₁ (mkF m 9 #[.val (.long q0), .second, .val (.int p1)] [(.long q0), (.long (q0 - ((72340172838076673 : Int64) * p1.toInt64)))])
  refine Fini.st (fun _ k => X0.ldc2J hx hown (mvT hZ (hw _ (List.mem_of_getElem? (i := 6) rfl))) rfl (hb hby d1_9) k) ?_
  show Fini p e below s _ _ _ s₁ (mkF m 12 #[.val (.long q0), .second, .val (.int p1)] [(.long (-1 : Int64)), (.long q0), (.long (q0 - ((72340172838076673 : Int64) * p1.toInt64)))])
  refine Fini.st (fun _ k => XS.lxor X0.here hx rfl (hb hby d1_12) rfl k) ?_
  show Fini p e below s _ _ _ s₁ (mkF m 13 #[.val (.long q0), .second, .val (.int p1)] [(.long (q0 ^^^ (-1 : Int64))), (.long (q0 - ((72340172838076673 : Int64) * p1.toInt64)))])
  refine Fini.st (fun _ k => XS.land X0.here hx rfl (hb hby d1_13) rfl k) ?_
  show Fini p e below s _ _ _ s₁ (mkF m 14 #[.val (.long q0), .second, .val (.int p1)] [(.long ((q0 - ((72340172838076673 : Int64) * p1.toInt64)) &&& (q0 ^^^ (-1 : Int64))))])
  refine Fini.st (fun _ k => X0.ldc2J hx hown (mvT hZ (hw _ (List.mem_of_getElem? (i := 7) rfl))) rfl (hb hby d1_14) k) ?_
  show Fini p e below s _ _ _ s₁ (mkF m 17 #[.val (.long q0), .second, .val (.int p1)] [(.long (-9187201950435737472 : Int64)), (.long ((q0 - ((72340172838076673 : Int64) * p1.toInt64)) &&& (q0 ^^^ (-1 : Int64))))])
  refine Fini.st (fun _ k => XS.land X0.here hx rfl (hb hby d1_17) rfl k) ?_
  show Fini p e below s _ _ _ s₁ (mkF m 18 #[.val (.long q0), .second, .val (.int p1)] [(.long (((q0 - ((72340172838076673 : Int64) * p1.toInt64)) &&& (q0 ^^^ (-1 : Int64))) &&& (-9187201950435737472 : Int64)))])
  exact Fini.retJ X0 hx hlk Bd.returns (hb hby d1_18) (by decide) (by decide) ⟨congrArg (fun z => some (Value.long z)) hv0.symm, e0, rfl⟩
theorem d3_0 : decode method_2_code 0 = .ok (.lload_n 0, 1) := by decide +kernel
theorem d3_1 : decode method_2_code 1 = .ok (.bipush 8, 2) := by decide +kernel
theorem d3_3 : decode method_2_code 3 = .ok (.iload_n 2, 1) := by decide +kernel
theorem d3_4 : decode method_2_code 4 = .ok (.imul, 1) := by decide +kernel
theorem d3_5 : decode method_2_code 5 = .ok (.lushr, 1) := by decide +kernel
theorem d3_6 : decode method_2_code 6 = .ok (.ldc2_w 7, 3) := by decide +kernel
theorem d3_9 : decode method_2_code 9 = .ok (.land, 1) := by decide +kernel
theorem d3_10 : decode method_2_code 10 = .ok (.l2i, 1) := by decide +kernel
theorem d3_11 : decode method_2_code 11 = .ok (.ireturn, 1) := by decide +kernel
theorem pn_1 : plainName "com/example/bounds/bounds/json/WordsBelowPinLaw" = true := by first | (simp [plainName, overriddenIn]; done) | decide +kernel
theorem ef3 (m : MethodId) (x0 : Int64) (x1 : Int32) : entryFrame m #[(.long x0), (.int x1)] 3 = mkF m 0 #[.val (.long x0), .second, .val (.int x1)] [] := by first | (simp [entryFrame, mkF, argsToLocals, Value.category]; done) | rfl
def f3 (q0 : Int64) (p1 : Int32) : Int32 := ((q0.toUInt64 >>> (((8 : Int32) * p1) &&& 0x3f).toInt64.toUInt64).toInt64 &&& (255 : Int64)).toInt32
set_option maxRecDepth 65536 in
set_option maxHeartbeats 40000000 in
theorem rm3 (l : Launch) (Z : State) (a0 : Array Value) (hw : ∀ d ∈ tables_1, d.before a0 Z = true) (ws : List Jvm.Cond) (q0 : Int64) (p1 : Int32) (h0 : Heap) :
    Cmet l Z (⟨"com/example/bounds/bounds/json/WordsBelowPinLaw", "byteAt", "(JI)I"⟩ : MethodName) method_2_code 3 (some .int) ws ({ frames := 0, cells := 0, slots := 0, locals := 0 } : Room) #[(.long q0), (.int p1)] h0 (fun v h' L => v = some (.int (f3 q0 p1)) ∧ h' = h0 ∧ L = []) := by
  refine MetFree.of_bodySF (plainFor_of_name pn_1) hisR ?_
  intro p e s m args below meth c s₁ Bd hml0 hP hK
  obtain ⟨rfl, hZ, hh⟩ := hP
  have hx := Bd.exec
  have hlk : meth.locks = false := BodyLoose.notSynchronized Bd
  have hby := Bd.bytes
  have hml : c.maxLocals = 3 := hml0
  have hown : s.vm.findClass "com/example/bounds/bounds/json/WordsBelowPinLaw" = some m.cls := findClass_of_methodNamed Bd.named
  have hnm := (name_of_methodNamed Bd.named Bd.method).1
  have X0 : Stand p l e ({ frames := 0, cells := 0, slots := 0, locals := 0 } : Room) s m #[(.long q0), (.int p1)] below meth c s₁ [] 0 0 := Stand.of_body Bd
  have e0 : s₁.heap = h0 := by rw [← hh, Bd.state]; rfl
  have hv0 : f3 q0 p1 = f3 q0 p1 := rfl
  show Fini p e below s (fun v h' L => v = some (.int (f3 q0 p1)) ∧ h' = h0 ∧ L = []) _ _ s₁ (entryFrame m #[(.long q0), (.int p1)] 3)
  refine Fini.cast (ef3 m q0 p1) ?_
  show Fini p e below s _ _ _ s₁ (mkF m 0 #[.val (.long q0), .second, .val (.int p1)] [])
  refine Fini.st (fun _ k => XS.lloadN X0.here hx rfl (hb hby d3_0) rfl k) ?_
  show Fini p e below s _ _ _ s₁ (mkF m 1 #[.val (.long q0), .second, .val (.int p1)] [(.long q0)])
  refine Fini.st (fun _ k => XS.bipush X0.here hx rfl (hb hby d3_1) k) ?_
  show Fini p e below s _ _ _ s₁ (mkF m 3 #[.val (.long q0), .second, .val (.int p1)] [(.int (8 : Int32)), (.long q0)])
  refine Fini.st (fun _ k => XS.iloadN X0.here hx rfl (hb hby d3_3) rfl k) ?_
  show Fini p e below s _ _ _ s₁ (mkF m 4 #[.val (.long q0), .second, .val (.int p1)] [(.int p1), (.int (8 : Int32)), (.long q0)])
  refine Fini.st (fun _ k => XS.imul X0.here hx rfl (hb hby d3_4) rfl k) ?_
  show Fini p e below s _ _ _ s₁ (mkF m 5 #[.val (.long q0), .second, .val (.int p1)] [(.int ((8 : Int32) * p1)), (.long q0)])
  refine Fini.st (fun _ k => XS.lushr X0.here hx rfl (hb hby d3_5) rfl k) ?_
  show Fini p e below s _ _ _ s₁ (mkF m 6 #[.val (.long q0), .second, .val (.int p1)] [(.long (q0.toUInt64 >>> (((8 : Int32) * p1) &&& 0x3f).toInt64.toUInt64).toInt64)])
  refine Fini.st (fun _ k => X0.ldc2J hx hown (mvT hZ (hw _ (List.mem_of_getElem? (i := 17) rfl))) rfl (hb hby d3_6) k) ?_
  show Fini p e below s _ _ _ s₁ (mkF m 9 #[.val (.long q0), .second, .val (.int p1)] [(.long (255 : Int64)), (.long (q0.toUInt64 >>> (((8 : Int32) * p1) &&& 0x3f).toInt64.toUInt64).toInt64)])
  refine Fini.st (fun _ k => XS.land X0.here hx rfl (hb hby d3_9) rfl k) ?_
  show Fini p e below s _ _ _ s₁ (mkF m 10 #[.val (.long q0), .second, .val (.int p1)] [(.long ((q0.toUInt64 >>> (((8 : Int32) * p1) &&& 0x3f).toInt64.toUInt64).toInt64 &&& (255 : Int64)))])
  refine Fini.st (fun _ k => XS.l2i X0.here hx rfl (hb hby d3_10) rfl k) ?_
  show Fini p e below s _ _ _ s₁ (mkF m 11 #[.val (.long q0), .second, .val (.int p1)] [(.int ((q0.toUInt64 >>> (((8 : Int32) * p1) &&& 0x3f).toInt64.toUInt64).toInt64 &&& (255 : Int64)).toInt32)])
  exact Fini.retI X0 hx hlk Bd.returns (hb hby d3_11) (by decide) (by decide) ⟨congrArg (fun z => some (Value.int z)) hv0.symm, e0, rfl⟩
theorem pd_0 : parseMethodDescriptor "(JI)I" = some ⟨[.long, .int], some .int⟩ := by decide +kernel
theorem d2_0 : decode method_3_code 0 = .ok (.lload_n 0, 1) := by decide +kernel
theorem d2_1 : decode method_3_code 1 = .ok (.iconst 0, 1) := by decide +kernel
theorem d2_2 : decode method_3_code 2 = .ok (.invokestatic 9, 3) := by decide +kernel
theorem d2_5 : decode method_3_code 5 = .ok (.iload_n 2, 1) := by decide +kernel
theorem d2_6 : decode method_3_code 6 = .ok (.if_icmp .ge 5, 3) := by decide +kernel
theorem d2_9 : decode method_3_code 9 = .ok (.iconst 0, 1) := by decide +kernel
theorem d2_10 : decode method_3_code 10 = .ok (.ireturn, 1) := by decide +kernel
theorem d2_11 : decode method_3_code 11 = .ok (.lload_n 0, 1) := by decide +kernel
theorem d2_12 : decode method_3_code 12 = .ok (.iconst 1, 1) := by decide +kernel
theorem d2_13 : decode method_3_code 13 = .ok (.invokestatic 9, 3) := by decide +kernel
theorem d2_16 : decode method_3_code 16 = .ok (.iload_n 2, 1) := by decide +kernel
theorem d2_17 : decode method_3_code 17 = .ok (.if_icmp .ge 5, 3) := by decide +kernel
theorem d2_20 : decode method_3_code 20 = .ok (.iconst 1, 1) := by decide +kernel
theorem d2_21 : decode method_3_code 21 = .ok (.ireturn, 1) := by decide +kernel
theorem d2_22 : decode method_3_code 22 = .ok (.lload_n 0, 1) := by decide +kernel
theorem d2_23 : decode method_3_code 23 = .ok (.iconst 2, 1) := by decide +kernel
theorem d2_24 : decode method_3_code 24 = .ok (.invokestatic 9, 3) := by decide +kernel
theorem d2_27 : decode method_3_code 27 = .ok (.iload_n 2, 1) := by decide +kernel
theorem d2_28 : decode method_3_code 28 = .ok (.if_icmp .ge 5, 3) := by decide +kernel
theorem d2_31 : decode method_3_code 31 = .ok (.iconst 2, 1) := by decide +kernel
theorem d2_32 : decode method_3_code 32 = .ok (.ireturn, 1) := by decide +kernel
theorem d2_33 : decode method_3_code 33 = .ok (.lload_n 0, 1) := by decide +kernel
theorem d2_34 : decode method_3_code 34 = .ok (.iconst 3, 1) := by decide +kernel
theorem d2_35 : decode method_3_code 35 = .ok (.invokestatic 9, 3) := by decide +kernel
theorem d2_38 : decode method_3_code 38 = .ok (.iload_n 2, 1) := by decide +kernel
theorem d2_39 : decode method_3_code 39 = .ok (.if_icmp .ge 5, 3) := by decide +kernel
theorem d2_42 : decode method_3_code 42 = .ok (.iconst 3, 1) := by decide +kernel
theorem d2_43 : decode method_3_code 43 = .ok (.ireturn, 1) := by decide +kernel
theorem d2_44 : decode method_3_code 44 = .ok (.lload_n 0, 1) := by decide +kernel
theorem d2_45 : decode method_3_code 45 = .ok (.iconst 4, 1) := by decide +kernel
theorem d2_46 : decode method_3_code 46 = .ok (.invokestatic 9, 3) := by decide +kernel
theorem d2_49 : decode method_3_code 49 = .ok (.iload_n 2, 1) := by decide +kernel
theorem d2_50 : decode method_3_code 50 = .ok (.if_icmp .ge 5, 3) := by decide +kernel
theorem d2_53 : decode method_3_code 53 = .ok (.iconst 4, 1) := by decide +kernel
theorem d2_54 : decode method_3_code 54 = .ok (.ireturn, 1) := by decide +kernel
theorem d2_55 : decode method_3_code 55 = .ok (.lload_n 0, 1) := by decide +kernel
theorem d2_56 : decode method_3_code 56 = .ok (.iconst 5, 1) := by decide +kernel
theorem d2_57 : decode method_3_code 57 = .ok (.invokestatic 9, 3) := by decide +kernel
theorem d2_60 : decode method_3_code 60 = .ok (.iload_n 2, 1) := by decide +kernel
theorem d2_61 : decode method_3_code 61 = .ok (.if_icmp .ge 5, 3) := by decide +kernel
theorem d2_64 : decode method_3_code 64 = .ok (.iconst 5, 1) := by decide +kernel
theorem d2_65 : decode method_3_code 65 = .ok (.ireturn, 1) := by decide +kernel
theorem d2_66 : decode method_3_code 66 = .ok (.lload_n 0, 1) := by decide +kernel
theorem d2_67 : decode method_3_code 67 = .ok (.bipush 6, 2) := by decide +kernel
theorem d2_69 : decode method_3_code 69 = .ok (.invokestatic 9, 3) := by decide +kernel
theorem d2_72 : decode method_3_code 72 = .ok (.iload_n 2, 1) := by decide +kernel
theorem d2_73 : decode method_3_code 73 = .ok (.if_icmp .ge 6, 3) := by decide +kernel
theorem d2_76 : decode method_3_code 76 = .ok (.bipush 6, 2) := by decide +kernel
theorem d2_78 : decode method_3_code 78 = .ok (.ireturn, 1) := by decide +kernel
theorem d2_79 : decode method_3_code 79 = .ok (.lload_n 0, 1) := by decide +kernel
theorem d2_80 : decode method_3_code 80 = .ok (.bipush 7, 2) := by decide +kernel
theorem d2_82 : decode method_3_code 82 = .ok (.invokestatic 9, 3) := by decide +kernel
theorem d2_85 : decode method_3_code 85 = .ok (.iload_n 2, 1) := by decide +kernel
theorem d2_86 : decode method_3_code 86 = .ok (.if_icmp .ge 6, 3) := by decide +kernel
theorem d2_89 : decode method_3_code 89 = .ok (.bipush 7, 2) := by decide +kernel
theorem d2_91 : decode method_3_code 91 = .ok (.ireturn, 1) := by decide +kernel
theorem d2_92 : decode method_3_code 92 = .ok (.bipush 8, 2) := by decide +kernel
theorem d2_94 : decode method_3_code 94 = .ok (.ireturn, 1) := by decide +kernel
theorem ef2 (m : MethodId) (x0 : Int64) (x1 : Int32) : entryFrame m #[(.long x0), (.int x1)] 3 = mkF m 0 #[.val (.long x0), .second, .val (.int x1)] [] := by first | (simp [entryFrame, mkF, argsToLocals, Value.category]; done) | rfl
def f2 (q0 : Int64) (p1 : Int32) : Int32 := (if (f3 q0 (0 : Int32)) < p1 then (0 : Int32) else (if (f3 q0 (1 : Int32)) < p1 then (1 : Int32) else (if (f3 q0 (2 : Int32)) < p1 then (2 : Int32) else (if (f3 q0 (3 : Int32)) < p1 then (3 : Int32) else (if (f3 q0 (4 : Int32)) < p1 then (4 : Int32) else (if (f3 q0 (5 : Int32)) < p1 then (5 : Int32) else (if (f3 q0 (6 : Int32)) < p1 then (6 : Int32) else (if (f3 q0 (7 : Int32)) < p1 then (7 : Int32) else (8 : Int32)))))))))
set_option maxRecDepth 65536 in
set_option maxHeartbeats 40000000 in
theorem rm2 (l : Launch) (Z : State) (a0 : Array Value) (hw : ∀ d ∈ tables_1, d.before a0 Z = true) (ws : List Jvm.Cond) (q0 : Int64) (p1 : Int32) (h0 : Heap) :
    Cmet l Z (⟨"com/example/bounds/bounds/json/WordsBelowPinLaw", "firstBelow", "(JI)I"⟩ : MethodName) method_3_code 3 (some .int) ws ({ frames := 1, cells := 0, slots := 0, locals := 14 } : Room) #[(.long q0), (.int p1)] h0 (fun v h' L => v = some (.int (f2 q0 p1)) ∧ h' = h0 ∧ L = []) := by
  refine MetFree.of_bodySF (plainFor_of_name pn_1) hisR ?_
  intro p e s m args below meth c s₁ Bd hml0 hP hK
  obtain ⟨rfl, hZ, hh⟩ := hP
  have hx := Bd.exec
  have hlk : meth.locks = false := BodyLoose.notSynchronized Bd
  have hby := Bd.bytes
  have hml : c.maxLocals = 3 := hml0
  have hown : s.vm.findClass "com/example/bounds/bounds/json/WordsBelowPinLaw" = some m.cls := findClass_of_methodNamed Bd.named
  have hnm := (name_of_methodNamed Bd.named Bd.method).1
  have X0 : Stand p l e ({ frames := 1, cells := 0, slots := 0, locals := 14 } : Room) s m #[(.long q0), (.int p1)] below meth c s₁ [] 0 0 := Stand.of_body Bd
  have e0 : s₁.heap = h0 := by rw [← hh, Bd.state]; rfl
  have hv0 : f2 q0 p1 = f2 q0 p1 := rfl
  show Fini p e below s (fun v h' L => v = some (.int (f2 q0 p1)) ∧ h' = h0 ∧ L = []) _ _ s₁ (entryFrame m #[(.long q0), (.int p1)] 3)
  refine Fini.cast (ef2 m q0 p1) ?_
  show Fini p e below s _ _ _ s₁ (mkF m 0 #[.val (.long q0), .second, .val (.int p1)] [])
  refine Fini.st (fun _ k => XS.lloadN X0.here hx rfl (hb hby d2_0) rfl k) ?_
  show Fini p e below s _ _ _ s₁ (mkF m 1 #[.val (.long q0), .second, .val (.int p1)] [(.long q0)])
  refine Fini.st (fun _ k => XS.iconst X0.here hx rfl (hb hby d2_1) k) ?_
  show Fini p e below s _ _ _ s₁ (mkF m 2 #[.val (.long q0), .second, .val (.int p1)] [(.int (0 : Int32)), (.long q0)])
  obtain ⟨T1, X1, e1, st1⟩ := pureS X0 hx hZ hown (hw _ (List.mem_of_getElem? (i := 14) rfl)) (hw _ (List.mem_of_getElem? (i := 15) rfl)) (hw _ (List.mem_of_getElem? (i := 12) rfl)) (hw _ (List.mem_of_getElem? (i := 16) rfl)) (by decide) (rm3 l Z a0 hw [] q0 (0 : Int32) h0) e0 (W := 0) (by decide) (by decide) (by decide) (by decide) (g := (mkF m 2 #[.val (.long q0), .second, .val (.int p1)] [(.int (0 : Int32)), (.long q0)])) rfl (by rw [hml]; rfl) (argsL := [(.long q0), (.int (0 : Int32))]) (rest := []) rfl (lenOf pd_0 rfl) rfl (by show 2 * 0 + _ ≤ _; exact Nat.le_of_eq rfl) (hb hby d2_2)
  refine Fini.st st1 ?_
  show Fini p e below s _ _ _ T1 (mkF m 5 #[.val (.long q0), .second, .val (.int p1)] [(.int (f3 q0 (0 : Int32)))])
  refine Fini.st (fun _ k => XS.iloadN X1.here hx rfl (hb hby d2_5) rfl k) ?_
  show Fini p e below s _ _ _ T1 (mkF m 6 #[.val (.long q0), .second, .val (.int p1)] [(.int p1), (.int (f3 q0 (0 : Int32)))])
  by_cases c2 : (f3 q0 (0 : Int32)) < p1
  · have hv3 := hv0.trans (if_pos c2)
    refine Fini.st (fun _ k => XS.icmpNo X1.here hx rfl (hb hby d2_6) rfl (XT.ii_ge_f c2) k) ?_
    show Fini p e below s _ _ _ T1 (mkF m 9 #[.val (.long q0), .second, .val (.int p1)] [])
    refine Fini.st (fun _ k => XS.iconst X1.here hx rfl (hb hby d2_9) k) ?_
    show Fini p e below s _ _ _ T1 (mkF m 10 #[.val (.long q0), .second, .val (.int p1)] [(.int (0 : Int32))])
    exact Fini.retI X1 hx hlk Bd.returns (hb hby d2_10) (by decide) (by decide) ⟨congrArg (fun z => some (Value.int z)) hv3.symm, e1, rfl⟩
  · have hv4 := hv0.trans (if_neg c2)
    refine Fini.st (fun _ k => XS.icmpYes X1.here hx rfl (pc0 := 6) (pc' := 11) rfl (hb hby d2_6) rfl (XT.ii_ge_t c2) (by decide) (by decide) k) ?_
    show Fini p e below s _ _ _ T1 (mkF m 11 #[.val (.long q0), .second, .val (.int p1)] [])
    refine Fini.st (fun _ k => XS.lloadN X1.here hx rfl (hb hby d2_11) rfl k) ?_
    show Fini p e below s _ _ _ T1 (mkF m 12 #[.val (.long q0), .second, .val (.int p1)] [(.long q0)])
    refine Fini.st (fun _ k => XS.iconst X1.here hx rfl (hb hby d2_12) k) ?_
    show Fini p e below s _ _ _ T1 (mkF m 13 #[.val (.long q0), .second, .val (.int p1)] [(.int (1 : Int32)), (.long q0)])
    obtain ⟨T5, X5, e5, st5⟩ := pureS X1 hx hZ hown (hw _ (List.mem_of_getElem? (i := 14) rfl)) (hw _ (List.mem_of_getElem? (i := 15) rfl)) (hw _ (List.mem_of_getElem? (i := 12) rfl)) (hw _ (List.mem_of_getElem? (i := 16) rfl)) (by decide) (rm3 l Z a0 hw [] q0 (1 : Int32) h0) e1 (W := 0) (by decide) (by decide) (by decide) (by decide) (g := (mkF m 13 #[.val (.long q0), .second, .val (.int p1)] [(.int (1 : Int32)), (.long q0)])) rfl (by rw [hml]; rfl) (argsL := [(.long q0), (.int (1 : Int32))]) (rest := []) rfl (lenOf pd_0 rfl) rfl (by show 2 * 0 + _ ≤ _; exact Nat.le_of_eq rfl) (hb hby d2_13)
    refine Fini.st st5 ?_
    show Fini p e below s _ _ _ T5 (mkF m 16 #[.val (.long q0), .second, .val (.int p1)] [(.int (f3 q0 (1 : Int32)))])
    refine Fini.st (fun _ k => XS.iloadN X5.here hx rfl (hb hby d2_16) rfl k) ?_
    show Fini p e below s _ _ _ T5 (mkF m 17 #[.val (.long q0), .second, .val (.int p1)] [(.int p1), (.int (f3 q0 (1 : Int32)))])
    by_cases c6 : (f3 q0 (1 : Int32)) < p1
    · have hv7 := hv4.trans (if_pos c6)
      refine Fini.st (fun _ k => XS.icmpNo X5.here hx rfl (hb hby d2_17) rfl (XT.ii_ge_f c6) k) ?_
      show Fini p e below s _ _ _ T5 (mkF m 20 #[.val (.long q0), .second, .val (.int p1)] [])
      refine Fini.st (fun _ k => XS.iconst X5.here hx rfl (hb hby d2_20) k) ?_
      show Fini p e below s _ _ _ T5 (mkF m 21 #[.val (.long q0), .second, .val (.int p1)] [(.int (1 : Int32))])
      exact Fini.retI X5 hx hlk Bd.returns (hb hby d2_21) (by decide) (by decide) ⟨congrArg (fun z => some (Value.int z)) hv7.symm, e5, rfl⟩
    · have hv8 := hv4.trans (if_neg c6)
      refine Fini.st (fun _ k => XS.icmpYes X5.here hx rfl (pc0 := 17) (pc' := 22) rfl (hb hby d2_17) rfl (XT.ii_ge_t c6) (by decide) (by decide) k) ?_
      show Fini p e below s _ _ _ T5 (mkF m 22 #[.val (.long q0), .second, .val (.int p1)] [])
      refine Fini.st (fun _ k => XS.lloadN X5.here hx rfl (hb hby d2_22) rfl k) ?_
      show Fini p e below s _ _ _ T5 (mkF m 23 #[.val (.long q0), .second, .val (.int p1)] [(.long q0)])
      refine Fini.st (fun _ k => XS.iconst X5.here hx rfl (hb hby d2_23) k) ?_
      show Fini p e below s _ _ _ T5 (mkF m 24 #[.val (.long q0), .second, .val (.int p1)] [(.int (2 : Int32)), (.long q0)])
      obtain ⟨T9, X9, e9, st9⟩ := pureS X5 hx hZ hown (hw _ (List.mem_of_getElem? (i := 14) rfl)) (hw _ (List.mem_of_getElem? (i := 15) rfl)) (hw _ (List.mem_of_getElem? (i := 12) rfl)) (hw _ (List.mem_of_getElem? (i := 16) rfl)) (by decide) (rm3 l Z a0 hw [] q0 (2 : Int32) h0) e5 (W := 0) (by decide) (by decide) (by decide) (by decide) (g := (mkF m 24 #[.val (.long q0), .second, .val (.int p1)] [(.int (2 : Int32)), (.long q0)])) rfl (by rw [hml]; rfl) (argsL := [(.long q0), (.int (2 : Int32))]) (rest := []) rfl (lenOf pd_0 rfl) rfl (by show 2 * 0 + _ ≤ _; exact Nat.le_of_eq rfl) (hb hby d2_24)
      refine Fini.st st9 ?_
      show Fini p e below s _ _ _ T9 (mkF m 27 #[.val (.long q0), .second, .val (.int p1)] [(.int (f3 q0 (2 : Int32)))])
      refine Fini.st (fun _ k => XS.iloadN X9.here hx rfl (hb hby d2_27) rfl k) ?_
      show Fini p e below s _ _ _ T9 (mkF m 28 #[.val (.long q0), .second, .val (.int p1)] [(.int p1), (.int (f3 q0 (2 : Int32)))])
      by_cases c10 : (f3 q0 (2 : Int32)) < p1
      · have hv11 := hv8.trans (if_pos c10)
        refine Fini.st (fun _ k => XS.icmpNo X9.here hx rfl (hb hby d2_28) rfl (XT.ii_ge_f c10) k) ?_
        show Fini p e below s _ _ _ T9 (mkF m 31 #[.val (.long q0), .second, .val (.int p1)] [])
        refine Fini.st (fun _ k => XS.iconst X9.here hx rfl (hb hby d2_31) k) ?_
        show Fini p e below s _ _ _ T9 (mkF m 32 #[.val (.long q0), .second, .val (.int p1)] [(.int (2 : Int32))])
        exact Fini.retI X9 hx hlk Bd.returns (hb hby d2_32) (by decide) (by decide) ⟨congrArg (fun z => some (Value.int z)) hv11.symm, e9, rfl⟩
      · have hv12 := hv8.trans (if_neg c10)
        refine Fini.st (fun _ k => XS.icmpYes X9.here hx rfl (pc0 := 28) (pc' := 33) rfl (hb hby d2_28) rfl (XT.ii_ge_t c10) (by decide) (by decide) k) ?_
        show Fini p e below s _ _ _ T9 (mkF m 33 #[.val (.long q0), .second, .val (.int p1)] [])
        refine Fini.st (fun _ k => XS.lloadN X9.here hx rfl (hb hby d2_33) rfl k) ?_
        show Fini p e below s _ _ _ T9 (mkF m 34 #[.val (.long q0), .second, .val (.int p1)] [(.long q0)])
        refine Fini.st (fun _ k => XS.iconst X9.here hx rfl (hb hby d2_34) k) ?_
        show Fini p e below s _ _ _ T9 (mkF m 35 #[.val (.long q0), .second, .val (.int p1)] [(.int (3 : Int32)), (.long q0)])
        obtain ⟨T13, X13, e13, st13⟩ := pureS X9 hx hZ hown (hw _ (List.mem_of_getElem? (i := 14) rfl)) (hw _ (List.mem_of_getElem? (i := 15) rfl)) (hw _ (List.mem_of_getElem? (i := 12) rfl)) (hw _ (List.mem_of_getElem? (i := 16) rfl)) (by decide) (rm3 l Z a0 hw [] q0 (3 : Int32) h0) e9 (W := 0) (by decide) (by decide) (by decide) (by decide) (g := (mkF m 35 #[.val (.long q0), .second, .val (.int p1)] [(.int (3 : Int32)), (.long q0)])) rfl (by rw [hml]; rfl) (argsL := [(.long q0), (.int (3 : Int32))]) (rest := []) rfl (lenOf pd_0 rfl) rfl (by show 2 * 0 + _ ≤ _; exact Nat.le_of_eq rfl) (hb hby d2_35)
        refine Fini.st st13 ?_
        show Fini p e below s _ _ _ T13 (mkF m 38 #[.val (.long q0), .second, .val (.int p1)] [(.int (f3 q0 (3 : Int32)))])
        refine Fini.st (fun _ k => XS.iloadN X13.here hx rfl (hb hby d2_38) rfl k) ?_
        show Fini p e below s _ _ _ T13 (mkF m 39 #[.val (.long q0), .second, .val (.int p1)] [(.int p1), (.int (f3 q0 (3 : Int32)))])
        by_cases c14 : (f3 q0 (3 : Int32)) < p1
        · have hv15 := hv12.trans (if_pos c14)
          refine Fini.st (fun _ k => XS.icmpNo X13.here hx rfl (hb hby d2_39) rfl (XT.ii_ge_f c14) k) ?_
          show Fini p e below s _ _ _ T13 (mkF m 42 #[.val (.long q0), .second, .val (.int p1)] [])
          refine Fini.st (fun _ k => XS.iconst X13.here hx rfl (hb hby d2_42) k) ?_
          show Fini p e below s _ _ _ T13 (mkF m 43 #[.val (.long q0), .second, .val (.int p1)] [(.int (3 : Int32))])
          exact Fini.retI X13 hx hlk Bd.returns (hb hby d2_43) (by decide) (by decide) ⟨congrArg (fun z => some (Value.int z)) hv15.symm, e13, rfl⟩
        · have hv16 := hv12.trans (if_neg c14)
          refine Fini.st (fun _ k => XS.icmpYes X13.here hx rfl (pc0 := 39) (pc' := 44) rfl (hb hby d2_39) rfl (XT.ii_ge_t c14) (by decide) (by decide) k) ?_
          show Fini p e below s _ _ _ T13 (mkF m 44 #[.val (.long q0), .second, .val (.int p1)] [])
          refine Fini.st (fun _ k => XS.lloadN X13.here hx rfl (hb hby d2_44) rfl k) ?_
          show Fini p e below s _ _ _ T13 (mkF m 45 #[.val (.long q0), .second, .val (.int p1)] [(.long q0)])
          refine Fini.st (fun _ k => XS.iconst X13.here hx rfl (hb hby d2_45) k) ?_
          show Fini p e below s _ _ _ T13 (mkF m 46 #[.val (.long q0), .second, .val (.int p1)] [(.int (4 : Int32)), (.long q0)])
          obtain ⟨T17, X17, e17, st17⟩ := pureS X13 hx hZ hown (hw _ (List.mem_of_getElem? (i := 14) rfl)) (hw _ (List.mem_of_getElem? (i := 15) rfl)) (hw _ (List.mem_of_getElem? (i := 12) rfl)) (hw _ (List.mem_of_getElem? (i := 16) rfl)) (by decide) (rm3 l Z a0 hw [] q0 (4 : Int32) h0) e13 (W := 0) (by decide) (by decide) (by decide) (by decide) (g := (mkF m 46 #[.val (.long q0), .second, .val (.int p1)] [(.int (4 : Int32)), (.long q0)])) rfl (by rw [hml]; rfl) (argsL := [(.long q0), (.int (4 : Int32))]) (rest := []) rfl (lenOf pd_0 rfl) rfl (by show 2 * 0 + _ ≤ _; exact Nat.le_of_eq rfl) (hb hby d2_46)
          refine Fini.st st17 ?_
          show Fini p e below s _ _ _ T17 (mkF m 49 #[.val (.long q0), .second, .val (.int p1)] [(.int (f3 q0 (4 : Int32)))])
          refine Fini.st (fun _ k => XS.iloadN X17.here hx rfl (hb hby d2_49) rfl k) ?_
          show Fini p e below s _ _ _ T17 (mkF m 50 #[.val (.long q0), .second, .val (.int p1)] [(.int p1), (.int (f3 q0 (4 : Int32)))])
          by_cases c18 : (f3 q0 (4 : Int32)) < p1
          · have hv19 := hv16.trans (if_pos c18)
            refine Fini.st (fun _ k => XS.icmpNo X17.here hx rfl (hb hby d2_50) rfl (XT.ii_ge_f c18) k) ?_
            show Fini p e below s _ _ _ T17 (mkF m 53 #[.val (.long q0), .second, .val (.int p1)] [])
            refine Fini.st (fun _ k => XS.iconst X17.here hx rfl (hb hby d2_53) k) ?_
            show Fini p e below s _ _ _ T17 (mkF m 54 #[.val (.long q0), .second, .val (.int p1)] [(.int (4 : Int32))])
            exact Fini.retI X17 hx hlk Bd.returns (hb hby d2_54) (by decide) (by decide) ⟨congrArg (fun z => some (Value.int z)) hv19.symm, e17, rfl⟩
          · have hv20 := hv16.trans (if_neg c18)
            refine Fini.st (fun _ k => XS.icmpYes X17.here hx rfl (pc0 := 50) (pc' := 55) rfl (hb hby d2_50) rfl (XT.ii_ge_t c18) (by decide) (by decide) k) ?_
            show Fini p e below s _ _ _ T17 (mkF m 55 #[.val (.long q0), .second, .val (.int p1)] [])
            refine Fini.st (fun _ k => XS.lloadN X17.here hx rfl (hb hby d2_55) rfl k) ?_
            show Fini p e below s _ _ _ T17 (mkF m 56 #[.val (.long q0), .second, .val (.int p1)] [(.long q0)])
            refine Fini.st (fun _ k => XS.iconst X17.here hx rfl (hb hby d2_56) k) ?_
            show Fini p e below s _ _ _ T17 (mkF m 57 #[.val (.long q0), .second, .val (.int p1)] [(.int (5 : Int32)), (.long q0)])
            obtain ⟨T21, X21, e21, st21⟩ := pureS X17 hx hZ hown (hw _ (List.mem_of_getElem? (i := 14) rfl)) (hw _ (List.mem_of_getElem? (i := 15) rfl)) (hw _ (List.mem_of_getElem? (i := 12) rfl)) (hw _ (List.mem_of_getElem? (i := 16) rfl)) (by decide) (rm3 l Z a0 hw [] q0 (5 : Int32) h0) e17 (W := 0) (by decide) (by decide) (by decide) (by decide) (g := (mkF m 57 #[.val (.long q0), .second, .val (.int p1)] [(.int (5 : Int32)), (.long q0)])) rfl (by rw [hml]; rfl) (argsL := [(.long q0), (.int (5 : Int32))]) (rest := []) rfl (lenOf pd_0 rfl) rfl (by show 2 * 0 + _ ≤ _; exact Nat.le_of_eq rfl) (hb hby d2_57)
            refine Fini.st st21 ?_
            show Fini p e below s _ _ _ T21 (mkF m 60 #[.val (.long q0), .second, .val (.int p1)] [(.int (f3 q0 (5 : Int32)))])
            refine Fini.st (fun _ k => XS.iloadN X21.here hx rfl (hb hby d2_60) rfl k) ?_
            show Fini p e below s _ _ _ T21 (mkF m 61 #[.val (.long q0), .second, .val (.int p1)] [(.int p1), (.int (f3 q0 (5 : Int32)))])
            by_cases c22 : (f3 q0 (5 : Int32)) < p1
            · have hv23 := hv20.trans (if_pos c22)
              refine Fini.st (fun _ k => XS.icmpNo X21.here hx rfl (hb hby d2_61) rfl (XT.ii_ge_f c22) k) ?_
              show Fini p e below s _ _ _ T21 (mkF m 64 #[.val (.long q0), .second, .val (.int p1)] [])
              refine Fini.st (fun _ k => XS.iconst X21.here hx rfl (hb hby d2_64) k) ?_
              show Fini p e below s _ _ _ T21 (mkF m 65 #[.val (.long q0), .second, .val (.int p1)] [(.int (5 : Int32))])
              exact Fini.retI X21 hx hlk Bd.returns (hb hby d2_65) (by decide) (by decide) ⟨congrArg (fun z => some (Value.int z)) hv23.symm, e21, rfl⟩
            · have hv24 := hv20.trans (if_neg c22)
              refine Fini.st (fun _ k => XS.icmpYes X21.here hx rfl (pc0 := 61) (pc' := 66) rfl (hb hby d2_61) rfl (XT.ii_ge_t c22) (by decide) (by decide) k) ?_
              show Fini p e below s _ _ _ T21 (mkF m 66 #[.val (.long q0), .second, .val (.int p1)] [])
              refine Fini.st (fun _ k => XS.lloadN X21.here hx rfl (hb hby d2_66) rfl k) ?_
              show Fini p e below s _ _ _ T21 (mkF m 67 #[.val (.long q0), .second, .val (.int p1)] [(.long q0)])
              refine Fini.st (fun _ k => XS.bipush X21.here hx rfl (hb hby d2_67) k) ?_
              show Fini p e below s _ _ _ T21 (mkF m 69 #[.val (.long q0), .second, .val (.int p1)] [(.int (6 : Int32)), (.long q0)])
              obtain ⟨T25, X25, e25, st25⟩ := pureS X21 hx hZ hown (hw _ (List.mem_of_getElem? (i := 14) rfl)) (hw _ (List.mem_of_getElem? (i := 15) rfl)) (hw _ (List.mem_of_getElem? (i := 12) rfl)) (hw _ (List.mem_of_getElem? (i := 16) rfl)) (by decide) (rm3 l Z a0 hw [] q0 (6 : Int32) h0) e21 (W := 0) (by decide) (by decide) (by decide) (by decide) (g := (mkF m 69 #[.val (.long q0), .second, .val (.int p1)] [(.int (6 : Int32)), (.long q0)])) rfl (by rw [hml]; rfl) (argsL := [(.long q0), (.int (6 : Int32))]) (rest := []) rfl (lenOf pd_0 rfl) rfl (by show 2 * 0 + _ ≤ _; exact Nat.le_of_eq rfl) (hb hby d2_69)
              refine Fini.st st25 ?_
              show Fini p e below s _ _ _ T25 (mkF m 72 #[.val (.long q0), .second, .val (.int p1)] [(.int (f3 q0 (6 : Int32)))])
              refine Fini.st (fun _ k => XS.iloadN X25.here hx rfl (hb hby d2_72) rfl k) ?_
              show Fini p e below s _ _ _ T25 (mkF m 73 #[.val (.long q0), .second, .val (.int p1)] [(.int p1), (.int (f3 q0 (6 : Int32)))])
              by_cases c26 : (f3 q0 (6 : Int32)) < p1
              · have hv27 := hv24.trans (if_pos c26)
                refine Fini.st (fun _ k => XS.icmpNo X25.here hx rfl (hb hby d2_73) rfl (XT.ii_ge_f c26) k) ?_
                show Fini p e below s _ _ _ T25 (mkF m 76 #[.val (.long q0), .second, .val (.int p1)] [])
                refine Fini.st (fun _ k => XS.bipush X25.here hx rfl (hb hby d2_76) k) ?_
                show Fini p e below s _ _ _ T25 (mkF m 78 #[.val (.long q0), .second, .val (.int p1)] [(.int (6 : Int32))])
                exact Fini.retI X25 hx hlk Bd.returns (hb hby d2_78) (by decide) (by decide) ⟨congrArg (fun z => some (Value.int z)) hv27.symm, e25, rfl⟩
              · have hv28 := hv24.trans (if_neg c26)
                refine Fini.st (fun _ k => XS.icmpYes X25.here hx rfl (pc0 := 73) (pc' := 79) rfl (hb hby d2_73) rfl (XT.ii_ge_t c26) (by decide) (by decide) k) ?_
                show Fini p e below s _ _ _ T25 (mkF m 79 #[.val (.long q0), .second, .val (.int p1)] [])
                refine Fini.st (fun _ k => XS.lloadN X25.here hx rfl (hb hby d2_79) rfl k) ?_
                show Fini p e below s _ _ _ T25 (mkF m 80 #[.val (.long q0), .second, .val (.int p1)] [(.long q0)])
                refine Fini.st (fun _ k => XS.bipush X25.here hx rfl (hb hby d2_80) k) ?_
                show Fini p e below s _ _ _ T25 (mkF m 82 #[.val (.long q0), .second, .val (.int p1)] [(.int (7 : Int32)), (.long q0)])
                obtain ⟨T29, X29, e29, st29⟩ := pureS X25 hx hZ hown (hw _ (List.mem_of_getElem? (i := 14) rfl)) (hw _ (List.mem_of_getElem? (i := 15) rfl)) (hw _ (List.mem_of_getElem? (i := 12) rfl)) (hw _ (List.mem_of_getElem? (i := 16) rfl)) (by decide) (rm3 l Z a0 hw [] q0 (7 : Int32) h0) e25 (W := 0) (by decide) (by decide) (by decide) (by decide) (g := (mkF m 82 #[.val (.long q0), .second, .val (.int p1)] [(.int (7 : Int32)), (.long q0)])) rfl (by rw [hml]; rfl) (argsL := [(.long q0), (.int (7 : Int32))]) (rest := []) rfl (lenOf pd_0 rfl) rfl (by show 2 * 0 + _ ≤ _; exact Nat.le_of_eq rfl) (hb hby d2_82)
                refine Fini.st st29 ?_
                show Fini p e below s _ _ _ T29 (mkF m 85 #[.val (.long q0), .second, .val (.int p1)] [(.int (f3 q0 (7 : Int32)))])
                refine Fini.st (fun _ k => XS.iloadN X29.here hx rfl (hb hby d2_85) rfl k) ?_
                show Fini p e below s _ _ _ T29 (mkF m 86 #[.val (.long q0), .second, .val (.int p1)] [(.int p1), (.int (f3 q0 (7 : Int32)))])
                by_cases c30 : (f3 q0 (7 : Int32)) < p1
                · have hv31 := hv28.trans (if_pos c30)
                  refine Fini.st (fun _ k => XS.icmpNo X29.here hx rfl (hb hby d2_86) rfl (XT.ii_ge_f c30) k) ?_
                  show Fini p e below s _ _ _ T29 (mkF m 89 #[.val (.long q0), .second, .val (.int p1)] [])
                  refine Fini.st (fun _ k => XS.bipush X29.here hx rfl (hb hby d2_89) k) ?_
                  show Fini p e below s _ _ _ T29 (mkF m 91 #[.val (.long q0), .second, .val (.int p1)] [(.int (7 : Int32))])
                  exact Fini.retI X29 hx hlk Bd.returns (hb hby d2_91) (by decide) (by decide) ⟨congrArg (fun z => some (Value.int z)) hv31.symm, e29, rfl⟩
                · have hv32 := hv28.trans (if_neg c30)
                  refine Fini.st (fun _ k => XS.icmpYes X29.here hx rfl (pc0 := 86) (pc' := 92) rfl (hb hby d2_86) rfl (XT.ii_ge_t c30) (by decide) (by decide) k) ?_
                  show Fini p e below s _ _ _ T29 (mkF m 92 #[.val (.long q0), .second, .val (.int p1)] [])
                  refine Fini.st (fun _ k => XS.bipush X29.here hx rfl (hb hby d2_92) k) ?_
                  show Fini p e below s _ _ _ T29 (mkF m 94 #[.val (.long q0), .second, .val (.int p1)] [(.int (8 : Int32))])
                  exact Fini.retI X29 hx hlk Bd.returns (hb hby d2_94) (by decide) (by decide) ⟨congrArg (fun z => some (Value.int z)) hv32.symm, e29, rfl⟩
theorem pd_1 : parseMethodDescriptor "(JI)J" = some ⟨[.long, .int], some .long⟩ := by decide +kernel
theorem ef0 (m : MethodId) (x0 : Int64) (x1 : Int32) : entryFrame m #[(.long x0), (.int x1)] maxLocals = mkF m 0 #[.val (.long x0), .second, .val (.int x1), .unset, .unset, .unset, .unset, .unset, .unset, .unset, .unset, .unset, .unset, .unset] [] := by first | (simp [entryFrame, mkF, argsToLocals, Value.category, maxLocals]; done) | rfl
def f0_104 (q0 : Int64) (p1 : Int32) (z104_s0 : Int32) (z40_s0 : Int32) (z56_s0 : Int32) (z85_s0 : Int64) : Int32 := (if z40_s0 = (0 : Int32) then (0 : Int32) else (if z56_s0 = (0 : Int32) then (0 : Int32) else (if z104_s0 = (0 : Int32) then (0 : Int32) else (1 : Int32))))
def f0_85 (q0 : Int64) (p1 : Int32) (z85_s0 : Int64) (z40_s0 : Int32) (z56_s0 : Int32) : Int32 := (if ((f1 q0 ((p1 &&& (2147483647 : Int32)) % (129 : Int32))) &&& (-(f1 q0 ((p1 &&& (2147483647 : Int32)) % (129 : Int32))))) = z85_s0 then (f0_104 q0 p1 (1 : Int32) z40_s0 z56_s0 z85_s0) else (f0_104 q0 p1 (0 : Int32) z40_s0 z56_s0 z85_s0))
def f0_56 (q0 : Int64) (p1 : Int32) (z56_s0 : Int32) (z40_s0 : Int32) : Int32 := (if (f2 q0 ((p1 &&& (2147483647 : Int32)) % (129 : Int32))) = (8 : Int32) then (f0_85 q0 p1 (0 : Int64) z40_s0 z56_s0) else (f0_85 q0 p1 ((128 : Int64) <<< (((8 : Int32) * (f2 q0 ((p1 &&& (2147483647 : Int32)) % (129 : Int32)))) &&& 0x3f).toInt64) z40_s0 z56_s0))
def f0_40 (q0 : Int64) (p1 : Int32) (z40_s0 : Int32) : Int32 := (if ((f1 q0 ((p1 &&& (2147483647 : Int32)) % (129 : Int32))) &&& q0) = (0 : Int64) then (f0_56 q0 p1 (1 : Int32) z40_s0) else (f0_56 q0 p1 (0 : Int32) z40_s0))
def f0 (q0 : Int64) (p1 : Int32) : Int32 := (if ((f1 q0 ((p1 &&& (2147483647 : Int32)) % (129 : Int32))) &&& ((-9187201950435737472 : Int64) ^^^ (-1 : Int64))) = (0 : Int64) then (f0_40 q0 p1 (1 : Int32)) else (f0_40 q0 p1 (0 : Int32)))
set_option maxRecDepth 65536 in
set_option maxHeartbeats 40000000 in
theorem rm0 (l : Launch) (Z : State) (a0 : Array Value) (hw : ∀ d ∈ tables_1, d.before a0 Z = true) (ws : List Jvm.Cond) (q0 : Int64) (p1 : Int32) (h0 : Heap) :
    Cmet l Z x code maxLocals ret ws room_1 #[(.long q0), (.int p1)] h0 (fun v h' L => v = some (.int (f0 q0 p1)) ∧ h' = h0 ∧ L = []) := by
  refine MetFree.of_bodySF (plainFor_of_name pn_1) hisR ?_
  intro p e s m args below meth c s₁ Bd hml0 hP hK
  obtain ⟨rfl, hZ, hh⟩ := hP
  have hx := Bd.exec
  have hlk : meth.locks = false := BodyLoose.notSynchronized Bd
  have hby := Bd.bytes
  have hml : c.maxLocals = 14 := hml0
  have hown : s.vm.findClass "com/example/bounds/bounds/json/WordsBelowPinLaw" = some m.cls := findClass_of_methodNamed Bd.named
  have hnm := (name_of_methodNamed Bd.named Bd.method).1
  have X0 : Stand p l e room_1 s m #[(.long q0), (.int p1)] below meth c s₁ [] 0 0 := Stand.of_body Bd
  have e0 : s₁.heap = h0 := by rw [← hh, Bd.state]; rfl
  have hv0 : f0 q0 p1 = f0 q0 p1 := rfl
  have B104 : ∀ (T_104 : State) (X_104 : Stand p l e room_1 s m #[(.long q0), (.int p1)] below meth c T_104 [] 0 0) (e_104 : T_104.heap = h0) (z104_s0 : Int32) (z40_s0 : Int32) (z56_s0 : Int32) (z85_s0 : Int64), f0 q0 p1 = f0_104 q0 p1 z104_s0 z40_s0 z56_s0 z85_s0 → Fini p e below s (fun v h' L => v = some (.int (f0 q0 p1)) ∧ h' = h0 ∧ L = []) (Room.cells room_1) (Room.slots room_1) T_104 (mkF m 104 #[.val (.long q0), .second, .val (.int p1), .val (.int ((p1 &&& (2147483647 : Int32)) % (129 : Int32))), .val (.long (f1 q0 ((p1 &&& (2147483647 : Int32)) % (129 : Int32)))), .second, .val (.long (-9187201950435737472 : Int64)), .second, .val (.int z40_s0), .val (.int z56_s0), .val (.int (f2 q0 ((p1 &&& (2147483647 : Int32)) % (129 : Int32)))), .val (.long z85_s0), .second, .unset] [(.int z104_s0)]) := by
    intro T_104 X_104 e_104 z104_s0 z40_s0 z56_s0 z85_s0 hv_104
    refine Fini.st (fun _ k => XS.istore X_104.here hx rfl (hb hby at_104) rfl (l' := #[.val (.long q0), .second, .val (.int p1), .val (.int ((p1 &&& (2147483647 : Int32)) % (129 : Int32))), .val (.long (f1 q0 ((p1 &&& (2147483647 : Int32)) % (129 : Int32)))), .second, .val (.long (-9187201950435737472 : Int64)), .second, .val (.int z40_s0), .val (.int z56_s0), .val (.int (f2 q0 ((p1 &&& (2147483647 : Int32)) % (129 : Int32)))), .val (.long z85_s0), .second, .val (.int z104_s0)]) rfl k) ?_
    show Fini p e below s _ _ _ T_104 (mkF m 106 #[.val (.long q0), .second, .val (.int p1), .val (.int ((p1 &&& (2147483647 : Int32)) % (129 : Int32))), .val (.long (f1 q0 ((p1 &&& (2147483647 : Int32)) % (129 : Int32)))), .second, .val (.long (-9187201950435737472 : Int64)), .second, .val (.int z40_s0), .val (.int z56_s0), .val (.int (f2 q0 ((p1 &&& (2147483647 : Int32)) % (129 : Int32)))), .val (.long z85_s0), .second, .val (.int z104_s0)] [])
    refine Fini.st (fun _ k => XS.iload X_104.here hx rfl (hb hby at_106) rfl k) ?_
    show Fini p e below s _ _ _ T_104 (mkF m 108 #[.val (.long q0), .second, .val (.int p1), .val (.int ((p1 &&& (2147483647 : Int32)) % (129 : Int32))), .val (.long (f1 q0 ((p1 &&& (2147483647 : Int32)) % (129 : Int32)))), .second, .val (.long (-9187201950435737472 : Int64)), .second, .val (.int z40_s0), .val (.int z56_s0), .val (.int (f2 q0 ((p1 &&& (2147483647 : Int32)) % (129 : Int32)))), .val (.long z85_s0), .second, .val (.int z104_s0)] [(.int z40_s0)])
    by_cases c15 : z40_s0 = (0 : Int32)
    · have hv16 := hv_104.trans (if_pos c15)
      refine Fini.st (fun _ k => XS.ifYes X_104.here hx rfl (pc0 := 108) (pc' := 125) rfl (hb hby at_108) rfl (XT.i0_eq_t c15) (by decide) (by decide) k) ?_
      show Fini p e below s _ _ _ T_104 (mkF m 125 #[.val (.long q0), .second, .val (.int p1), .val (.int ((p1 &&& (2147483647 : Int32)) % (129 : Int32))), .val (.long (f1 q0 ((p1 &&& (2147483647 : Int32)) % (129 : Int32)))), .second, .val (.long (-9187201950435737472 : Int64)), .second, .val (.int z40_s0), .val (.int z56_s0), .val (.int (f2 q0 ((p1 &&& (2147483647 : Int32)) % (129 : Int32)))), .val (.long z85_s0), .second, .val (.int z104_s0)] [])
      refine Fini.st (fun _ k => XS.iconst X_104.here hx rfl (hb hby at_125) k) ?_
      show Fini p e below s _ _ _ T_104 (mkF m 126 #[.val (.long q0), .second, .val (.int p1), .val (.int ((p1 &&& (2147483647 : Int32)) % (129 : Int32))), .val (.long (f1 q0 ((p1 &&& (2147483647 : Int32)) % (129 : Int32)))), .second, .val (.long (-9187201950435737472 : Int64)), .second, .val (.int z40_s0), .val (.int z56_s0), .val (.int (f2 q0 ((p1 &&& (2147483647 : Int32)) % (129 : Int32)))), .val (.long z85_s0), .second, .val (.int z104_s0)] [(.int (0 : Int32))])
      exact Fini.retN X_104 hx hlk (t := .boolean) Bd.returns (by simp) (hb hby at_126) nb0 (by decide) (by decide) ⟨congrArg (fun z => some (Value.int z)) hv16.symm, e_104, rfl⟩
    · have hv17 := hv_104.trans (if_neg c15)
      refine Fini.st (fun _ k => XS.ifNo X_104.here hx rfl (hb hby at_108) rfl (XT.i0_eq_f c15) k) ?_
      show Fini p e below s _ _ _ T_104 (mkF m 111 #[.val (.long q0), .second, .val (.int p1), .val (.int ((p1 &&& (2147483647 : Int32)) % (129 : Int32))), .val (.long (f1 q0 ((p1 &&& (2147483647 : Int32)) % (129 : Int32)))), .second, .val (.long (-9187201950435737472 : Int64)), .second, .val (.int z40_s0), .val (.int z56_s0), .val (.int (f2 q0 ((p1 &&& (2147483647 : Int32)) % (129 : Int32)))), .val (.long z85_s0), .second, .val (.int z104_s0)] [])
      refine Fini.st (fun _ k => XS.iload X_104.here hx rfl (hb hby at_111) rfl k) ?_
      show Fini p e below s _ _ _ T_104 (mkF m 113 #[.val (.long q0), .second, .val (.int p1), .val (.int ((p1 &&& (2147483647 : Int32)) % (129 : Int32))), .val (.long (f1 q0 ((p1 &&& (2147483647 : Int32)) % (129 : Int32)))), .second, .val (.long (-9187201950435737472 : Int64)), .second, .val (.int z40_s0), .val (.int z56_s0), .val (.int (f2 q0 ((p1 &&& (2147483647 : Int32)) % (129 : Int32)))), .val (.long z85_s0), .second, .val (.int z104_s0)] [(.int z56_s0)])
      by_cases c18 : z56_s0 = (0 : Int32)
      · have hv19 := hv17.trans (if_pos c18)
        refine Fini.st (fun _ k => XS.ifYes X_104.here hx rfl (pc0 := 113) (pc' := 125) rfl (hb hby at_113) rfl (XT.i0_eq_t c18) (by decide) (by decide) k) ?_
        show Fini p e below s _ _ _ T_104 (mkF m 125 #[.val (.long q0), .second, .val (.int p1), .val (.int ((p1 &&& (2147483647 : Int32)) % (129 : Int32))), .val (.long (f1 q0 ((p1 &&& (2147483647 : Int32)) % (129 : Int32)))), .second, .val (.long (-9187201950435737472 : Int64)), .second, .val (.int z40_s0), .val (.int z56_s0), .val (.int (f2 q0 ((p1 &&& (2147483647 : Int32)) % (129 : Int32)))), .val (.long z85_s0), .second, .val (.int z104_s0)] [])
        refine Fini.st (fun _ k => XS.iconst X_104.here hx rfl (hb hby at_125) k) ?_
        show Fini p e below s _ _ _ T_104 (mkF m 126 #[.val (.long q0), .second, .val (.int p1), .val (.int ((p1 &&& (2147483647 : Int32)) % (129 : Int32))), .val (.long (f1 q0 ((p1 &&& (2147483647 : Int32)) % (129 : Int32)))), .second, .val (.long (-9187201950435737472 : Int64)), .second, .val (.int z40_s0), .val (.int z56_s0), .val (.int (f2 q0 ((p1 &&& (2147483647 : Int32)) % (129 : Int32)))), .val (.long z85_s0), .second, .val (.int z104_s0)] [(.int (0 : Int32))])
        exact Fini.retN X_104 hx hlk (t := .boolean) Bd.returns (by simp) (hb hby at_126) nb0 (by decide) (by decide) ⟨congrArg (fun z => some (Value.int z)) hv19.symm, e_104, rfl⟩
      · have hv20 := hv17.trans (if_neg c18)
        refine Fini.st (fun _ k => XS.ifNo X_104.here hx rfl (hb hby at_113) rfl (XT.i0_eq_f c18) k) ?_
        show Fini p e below s _ _ _ T_104 (mkF m 116 #[.val (.long q0), .second, .val (.int p1), .val (.int ((p1 &&& (2147483647 : Int32)) % (129 : Int32))), .val (.long (f1 q0 ((p1 &&& (2147483647 : Int32)) % (129 : Int32)))), .second, .val (.long (-9187201950435737472 : Int64)), .second, .val (.int z40_s0), .val (.int z56_s0), .val (.int (f2 q0 ((p1 &&& (2147483647 : Int32)) % (129 : Int32)))), .val (.long z85_s0), .second, .val (.int z104_s0)] [])
        refine Fini.st (fun _ k => XS.iload X_104.here hx rfl (hb hby at_116) rfl k) ?_
        show Fini p e below s _ _ _ T_104 (mkF m 118 #[.val (.long q0), .second, .val (.int p1), .val (.int ((p1 &&& (2147483647 : Int32)) % (129 : Int32))), .val (.long (f1 q0 ((p1 &&& (2147483647 : Int32)) % (129 : Int32)))), .second, .val (.long (-9187201950435737472 : Int64)), .second, .val (.int z40_s0), .val (.int z56_s0), .val (.int (f2 q0 ((p1 &&& (2147483647 : Int32)) % (129 : Int32)))), .val (.long z85_s0), .second, .val (.int z104_s0)] [(.int z104_s0)])
        by_cases c21 : z104_s0 = (0 : Int32)
        · have hv22 := hv20.trans (if_pos c21)
          refine Fini.st (fun _ k => XS.ifYes X_104.here hx rfl (pc0 := 118) (pc' := 125) rfl (hb hby at_118) rfl (XT.i0_eq_t c21) (by decide) (by decide) k) ?_
          show Fini p e below s _ _ _ T_104 (mkF m 125 #[.val (.long q0), .second, .val (.int p1), .val (.int ((p1 &&& (2147483647 : Int32)) % (129 : Int32))), .val (.long (f1 q0 ((p1 &&& (2147483647 : Int32)) % (129 : Int32)))), .second, .val (.long (-9187201950435737472 : Int64)), .second, .val (.int z40_s0), .val (.int z56_s0), .val (.int (f2 q0 ((p1 &&& (2147483647 : Int32)) % (129 : Int32)))), .val (.long z85_s0), .second, .val (.int z104_s0)] [])
          refine Fini.st (fun _ k => XS.iconst X_104.here hx rfl (hb hby at_125) k) ?_
          show Fini p e below s _ _ _ T_104 (mkF m 126 #[.val (.long q0), .second, .val (.int p1), .val (.int ((p1 &&& (2147483647 : Int32)) % (129 : Int32))), .val (.long (f1 q0 ((p1 &&& (2147483647 : Int32)) % (129 : Int32)))), .second, .val (.long (-9187201950435737472 : Int64)), .second, .val (.int z40_s0), .val (.int z56_s0), .val (.int (f2 q0 ((p1 &&& (2147483647 : Int32)) % (129 : Int32)))), .val (.long z85_s0), .second, .val (.int z104_s0)] [(.int (0 : Int32))])
          exact Fini.retN X_104 hx hlk (t := .boolean) Bd.returns (by simp) (hb hby at_126) nb0 (by decide) (by decide) ⟨congrArg (fun z => some (Value.int z)) hv22.symm, e_104, rfl⟩
        · have hv23 := hv20.trans (if_neg c21)
          refine Fini.st (fun _ k => XS.ifNo X_104.here hx rfl (hb hby at_118) rfl (XT.i0_eq_f c21) k) ?_
          show Fini p e below s _ _ _ T_104 (mkF m 121 #[.val (.long q0), .second, .val (.int p1), .val (.int ((p1 &&& (2147483647 : Int32)) % (129 : Int32))), .val (.long (f1 q0 ((p1 &&& (2147483647 : Int32)) % (129 : Int32)))), .second, .val (.long (-9187201950435737472 : Int64)), .second, .val (.int z40_s0), .val (.int z56_s0), .val (.int (f2 q0 ((p1 &&& (2147483647 : Int32)) % (129 : Int32)))), .val (.long z85_s0), .second, .val (.int z104_s0)] [])
          refine Fini.st (fun _ k => XS.iconst X_104.here hx rfl (hb hby at_121) k) ?_
          show Fini p e below s _ _ _ T_104 (mkF m 122 #[.val (.long q0), .second, .val (.int p1), .val (.int ((p1 &&& (2147483647 : Int32)) % (129 : Int32))), .val (.long (f1 q0 ((p1 &&& (2147483647 : Int32)) % (129 : Int32)))), .second, .val (.long (-9187201950435737472 : Int64)), .second, .val (.int z40_s0), .val (.int z56_s0), .val (.int (f2 q0 ((p1 &&& (2147483647 : Int32)) % (129 : Int32)))), .val (.long z85_s0), .second, .val (.int z104_s0)] [(.int (1 : Int32))])
          refine Fini.st (fun _ k => XS.goto X_104.here hx rfl (pc0 := 122) (pc' := 126) rfl (hb hby at_122) (by decide) (by decide) k) ?_
          show Fini p e below s _ _ _ T_104 (mkF m 126 #[.val (.long q0), .second, .val (.int p1), .val (.int ((p1 &&& (2147483647 : Int32)) % (129 : Int32))), .val (.long (f1 q0 ((p1 &&& (2147483647 : Int32)) % (129 : Int32)))), .second, .val (.long (-9187201950435737472 : Int64)), .second, .val (.int z40_s0), .val (.int z56_s0), .val (.int (f2 q0 ((p1 &&& (2147483647 : Int32)) % (129 : Int32)))), .val (.long z85_s0), .second, .val (.int z104_s0)] [(.int (1 : Int32))])
          exact Fini.retN X_104 hx hlk (t := .boolean) Bd.returns (by simp) (hb hby at_126) nb1 (by decide) (by decide) ⟨congrArg (fun z => some (Value.int z)) hv23.symm, e_104, rfl⟩
  have B85 : ∀ (T_85 : State) (X_85 : Stand p l e room_1 s m #[(.long q0), (.int p1)] below meth c T_85 [] 0 0) (e_85 : T_85.heap = h0) (z85_s0 : Int64) (z40_s0 : Int32) (z56_s0 : Int32), f0 q0 p1 = f0_85 q0 p1 z85_s0 z40_s0 z56_s0 → Fini p e below s (fun v h' L => v = some (.int (f0 q0 p1)) ∧ h' = h0 ∧ L = []) (Room.cells room_1) (Room.slots room_1) T_85 (mkF m 85 #[.val (.long q0), .second, .val (.int p1), .val (.int ((p1 &&& (2147483647 : Int32)) % (129 : Int32))), .val (.long (f1 q0 ((p1 &&& (2147483647 : Int32)) % (129 : Int32)))), .second, .val (.long (-9187201950435737472 : Int64)), .second, .val (.int z40_s0), .val (.int z56_s0), .val (.int (f2 q0 ((p1 &&& (2147483647 : Int32)) % (129 : Int32)))), .unset, .unset, .unset] [(.long z85_s0)]) := by
    intro T_85 X_85 e_85 z85_s0 z40_s0 z56_s0 hv_85
    refine Fini.st (fun _ k => XS.lstore X_85.here hx rfl (hb hby at_85) rfl (l' := #[.val (.long q0), .second, .val (.int p1), .val (.int ((p1 &&& (2147483647 : Int32)) % (129 : Int32))), .val (.long (f1 q0 ((p1 &&& (2147483647 : Int32)) % (129 : Int32)))), .second, .val (.long (-9187201950435737472 : Int64)), .second, .val (.int z40_s0), .val (.int z56_s0), .val (.int (f2 q0 ((p1 &&& (2147483647 : Int32)) % (129 : Int32)))), .val (.long z85_s0), .second, .unset]) rfl k) ?_
    show Fini p e below s _ _ _ T_85 (mkF m 87 #[.val (.long q0), .second, .val (.int p1), .val (.int ((p1 &&& (2147483647 : Int32)) % (129 : Int32))), .val (.long (f1 q0 ((p1 &&& (2147483647 : Int32)) % (129 : Int32)))), .second, .val (.long (-9187201950435737472 : Int64)), .second, .val (.int z40_s0), .val (.int z56_s0), .val (.int (f2 q0 ((p1 &&& (2147483647 : Int32)) % (129 : Int32)))), .val (.long z85_s0), .second, .unset] [])
    refine Fini.st (fun _ k => XS.lload X_85.here hx rfl (hb hby at_87) rfl k) ?_
    show Fini p e below s _ _ _ T_85 (mkF m 89 #[.val (.long q0), .second, .val (.int p1), .val (.int ((p1 &&& (2147483647 : Int32)) % (129 : Int32))), .val (.long (f1 q0 ((p1 &&& (2147483647 : Int32)) % (129 : Int32)))), .second, .val (.long (-9187201950435737472 : Int64)), .second, .val (.int z40_s0), .val (.int z56_s0), .val (.int (f2 q0 ((p1 &&& (2147483647 : Int32)) % (129 : Int32)))), .val (.long z85_s0), .second, .unset] [(.long (f1 q0 ((p1 &&& (2147483647 : Int32)) % (129 : Int32))))])
    refine Fini.st (fun _ k => XS.lload X_85.here hx rfl (hb hby at_89) rfl k) ?_
    show Fini p e below s _ _ _ T_85 (mkF m 91 #[.val (.long q0), .second, .val (.int p1), .val (.int ((p1 &&& (2147483647 : Int32)) % (129 : Int32))), .val (.long (f1 q0 ((p1 &&& (2147483647 : Int32)) % (129 : Int32)))), .second, .val (.long (-9187201950435737472 : Int64)), .second, .val (.int z40_s0), .val (.int z56_s0), .val (.int (f2 q0 ((p1 &&& (2147483647 : Int32)) % (129 : Int32)))), .val (.long z85_s0), .second, .unset] [(.long (f1 q0 ((p1 &&& (2147483647 : Int32)) % (129 : Int32)))), (.long (f1 q0 ((p1 &&& (2147483647 : Int32)) % (129 : Int32))))])
    refine Fini.st (fun _ k => XS.lneg X_85.here hx rfl (hb hby at_91) rfl k) ?_
    show Fini p e below s _ _ _ T_85 (mkF m 92 #[.val (.long q0), .second, .val (.int p1), .val (.int ((p1 &&& (2147483647 : Int32)) % (129 : Int32))), .val (.long (f1 q0 ((p1 &&& (2147483647 : Int32)) % (129 : Int32)))), .second, .val (.long (-9187201950435737472 : Int64)), .second, .val (.int z40_s0), .val (.int z56_s0), .val (.int (f2 q0 ((p1 &&& (2147483647 : Int32)) % (129 : Int32)))), .val (.long z85_s0), .second, .unset] [(.long (-(f1 q0 ((p1 &&& (2147483647 : Int32)) % (129 : Int32))))), (.long (f1 q0 ((p1 &&& (2147483647 : Int32)) % (129 : Int32))))])
    refine Fini.st (fun _ k => XS.land X_85.here hx rfl (hb hby at_92) rfl k) ?_
    show Fini p e below s _ _ _ T_85 (mkF m 93 #[.val (.long q0), .second, .val (.int p1), .val (.int ((p1 &&& (2147483647 : Int32)) % (129 : Int32))), .val (.long (f1 q0 ((p1 &&& (2147483647 : Int32)) % (129 : Int32)))), .second, .val (.long (-9187201950435737472 : Int64)), .second, .val (.int z40_s0), .val (.int z56_s0), .val (.int (f2 q0 ((p1 &&& (2147483647 : Int32)) % (129 : Int32)))), .val (.long z85_s0), .second, .unset] [(.long ((f1 q0 ((p1 &&& (2147483647 : Int32)) % (129 : Int32))) &&& (-(f1 q0 ((p1 &&& (2147483647 : Int32)) % (129 : Int32))))))])
    refine Fini.st (fun _ k => XS.lload X_85.here hx rfl (hb hby at_93) rfl k) ?_
    show Fini p e below s _ _ _ T_85 (mkF m 95 #[.val (.long q0), .second, .val (.int p1), .val (.int ((p1 &&& (2147483647 : Int32)) % (129 : Int32))), .val (.long (f1 q0 ((p1 &&& (2147483647 : Int32)) % (129 : Int32)))), .second, .val (.long (-9187201950435737472 : Int64)), .second, .val (.int z40_s0), .val (.int z56_s0), .val (.int (f2 q0 ((p1 &&& (2147483647 : Int32)) % (129 : Int32)))), .val (.long z85_s0), .second, .unset] [(.long z85_s0), (.long ((f1 q0 ((p1 &&& (2147483647 : Int32)) % (129 : Int32))) &&& (-(f1 q0 ((p1 &&& (2147483647 : Int32)) % (129 : Int32))))))])
    refine Fini.st (fun _ k => XT.lcmp X_85.here hx rfl (hb hby at_95) rfl k) ?_
    show Fini p e below s _ _ _ T_85 (mkF m 96 #[.val (.long q0), .second, .val (.int p1), .val (.int ((p1 &&& (2147483647 : Int32)) % (129 : Int32))), .val (.long (f1 q0 ((p1 &&& (2147483647 : Int32)) % (129 : Int32)))), .second, .val (.long (-9187201950435737472 : Int64)), .second, .val (.int z40_s0), .val (.int z56_s0), .val (.int (f2 q0 ((p1 &&& (2147483647 : Int32)) % (129 : Int32)))), .val (.long z85_s0), .second, .unset] [(.int (XT.cmpL ((f1 q0 ((p1 &&& (2147483647 : Int32)) % (129 : Int32))) &&& (-(f1 q0 ((p1 &&& (2147483647 : Int32)) % (129 : Int32))))) z85_s0))])
    by_cases c12 : ((f1 q0 ((p1 &&& (2147483647 : Int32)) % (129 : Int32))) &&& (-(f1 q0 ((p1 &&& (2147483647 : Int32)) % (129 : Int32))))) = z85_s0
    · have hv13 := hv_85.trans (if_pos c12)
      refine Fini.st (fun _ k => XS.ifNo X_85.here hx rfl (hb hby at_96) rfl (XT.ll_ne_f c12) k) ?_
      show Fini p e below s _ _ _ T_85 (mkF m 99 #[.val (.long q0), .second, .val (.int p1), .val (.int ((p1 &&& (2147483647 : Int32)) % (129 : Int32))), .val (.long (f1 q0 ((p1 &&& (2147483647 : Int32)) % (129 : Int32)))), .second, .val (.long (-9187201950435737472 : Int64)), .second, .val (.int z40_s0), .val (.int z56_s0), .val (.int (f2 q0 ((p1 &&& (2147483647 : Int32)) % (129 : Int32)))), .val (.long z85_s0), .second, .unset] [])
      refine Fini.st (fun _ k => XS.iconst X_85.here hx rfl (hb hby at_99) k) ?_
      show Fini p e below s _ _ _ T_85 (mkF m 100 #[.val (.long q0), .second, .val (.int p1), .val (.int ((p1 &&& (2147483647 : Int32)) % (129 : Int32))), .val (.long (f1 q0 ((p1 &&& (2147483647 : Int32)) % (129 : Int32)))), .second, .val (.long (-9187201950435737472 : Int64)), .second, .val (.int z40_s0), .val (.int z56_s0), .val (.int (f2 q0 ((p1 &&& (2147483647 : Int32)) % (129 : Int32)))), .val (.long z85_s0), .second, .unset] [(.int (1 : Int32))])
      refine Fini.st (fun _ k => XS.goto X_85.here hx rfl (pc0 := 100) (pc' := 104) rfl (hb hby at_100) (by decide) (by decide) k) ?_
      show Fini p e below s _ _ _ T_85 (mkF m 104 #[.val (.long q0), .second, .val (.int p1), .val (.int ((p1 &&& (2147483647 : Int32)) % (129 : Int32))), .val (.long (f1 q0 ((p1 &&& (2147483647 : Int32)) % (129 : Int32)))), .second, .val (.long (-9187201950435737472 : Int64)), .second, .val (.int z40_s0), .val (.int z56_s0), .val (.int (f2 q0 ((p1 &&& (2147483647 : Int32)) % (129 : Int32)))), .val (.long z85_s0), .second, .unset] [(.int (1 : Int32))])
      exact B104 T_85 X_85 e_85 (1 : Int32) z40_s0 z56_s0 z85_s0 hv13
    · have hv14 := hv_85.trans (if_neg c12)
      refine Fini.st (fun _ k => XS.ifYes X_85.here hx rfl (pc0 := 96) (pc' := 103) rfl (hb hby at_96) rfl (XT.ll_ne_t c12) (by decide) (by decide) k) ?_
      show Fini p e below s _ _ _ T_85 (mkF m 103 #[.val (.long q0), .second, .val (.int p1), .val (.int ((p1 &&& (2147483647 : Int32)) % (129 : Int32))), .val (.long (f1 q0 ((p1 &&& (2147483647 : Int32)) % (129 : Int32)))), .second, .val (.long (-9187201950435737472 : Int64)), .second, .val (.int z40_s0), .val (.int z56_s0), .val (.int (f2 q0 ((p1 &&& (2147483647 : Int32)) % (129 : Int32)))), .val (.long z85_s0), .second, .unset] [])
      refine Fini.st (fun _ k => XS.iconst X_85.here hx rfl (hb hby at_103) k) ?_
      show Fini p e below s _ _ _ T_85 (mkF m 104 #[.val (.long q0), .second, .val (.int p1), .val (.int ((p1 &&& (2147483647 : Int32)) % (129 : Int32))), .val (.long (f1 q0 ((p1 &&& (2147483647 : Int32)) % (129 : Int32)))), .second, .val (.long (-9187201950435737472 : Int64)), .second, .val (.int z40_s0), .val (.int z56_s0), .val (.int (f2 q0 ((p1 &&& (2147483647 : Int32)) % (129 : Int32)))), .val (.long z85_s0), .second, .unset] [(.int (0 : Int32))])
      exact B104 T_85 X_85 e_85 (0 : Int32) z40_s0 z56_s0 z85_s0 hv14
  have B56 : ∀ (T_56 : State) (X_56 : Stand p l e room_1 s m #[(.long q0), (.int p1)] below meth c T_56 [] 0 0) (e_56 : T_56.heap = h0) (z56_s0 : Int32) (z40_s0 : Int32), f0 q0 p1 = f0_56 q0 p1 z56_s0 z40_s0 → Fini p e below s (fun v h' L => v = some (.int (f0 q0 p1)) ∧ h' = h0 ∧ L = []) (Room.cells room_1) (Room.slots room_1) T_56 (mkF m 56 #[.val (.long q0), .second, .val (.int p1), .val (.int ((p1 &&& (2147483647 : Int32)) % (129 : Int32))), .val (.long (f1 q0 ((p1 &&& (2147483647 : Int32)) % (129 : Int32)))), .second, .val (.long (-9187201950435737472 : Int64)), .second, .val (.int z40_s0), .unset, .unset, .unset, .unset, .unset] [(.int z56_s0)]) := by
    intro T_56 X_56 e_56 z56_s0 z40_s0 hv_56
    refine Fini.st (fun _ k => XS.istore X_56.here hx rfl (hb hby at_56) rfl (l' := #[.val (.long q0), .second, .val (.int p1), .val (.int ((p1 &&& (2147483647 : Int32)) % (129 : Int32))), .val (.long (f1 q0 ((p1 &&& (2147483647 : Int32)) % (129 : Int32)))), .second, .val (.long (-9187201950435737472 : Int64)), .second, .val (.int z40_s0), .val (.int z56_s0), .unset, .unset, .unset, .unset]) rfl k) ?_
    show Fini p e below s _ _ _ T_56 (mkF m 58 #[.val (.long q0), .second, .val (.int p1), .val (.int ((p1 &&& (2147483647 : Int32)) % (129 : Int32))), .val (.long (f1 q0 ((p1 &&& (2147483647 : Int32)) % (129 : Int32)))), .second, .val (.long (-9187201950435737472 : Int64)), .second, .val (.int z40_s0), .val (.int z56_s0), .unset, .unset, .unset, .unset] [])
    refine Fini.st (fun _ k => XS.lloadN X_56.here hx rfl (hb hby at_58) rfl k) ?_
    show Fini p e below s _ _ _ T_56 (mkF m 59 #[.val (.long q0), .second, .val (.int p1), .val (.int ((p1 &&& (2147483647 : Int32)) % (129 : Int32))), .val (.long (f1 q0 ((p1 &&& (2147483647 : Int32)) % (129 : Int32)))), .second, .val (.long (-9187201950435737472 : Int64)), .second, .val (.int z40_s0), .val (.int z56_s0), .unset, .unset, .unset, .unset] [(.long q0)])
    refine Fini.st (fun _ k => XS.iloadN X_56.here hx rfl (hb hby at_59) rfl k) ?_
    show Fini p e below s _ _ _ T_56 (mkF m 60 #[.val (.long q0), .second, .val (.int p1), .val (.int ((p1 &&& (2147483647 : Int32)) % (129 : Int32))), .val (.long (f1 q0 ((p1 &&& (2147483647 : Int32)) % (129 : Int32)))), .second, .val (.long (-9187201950435737472 : Int64)), .second, .val (.int z40_s0), .val (.int z56_s0), .unset, .unset, .unset, .unset] [(.int ((p1 &&& (2147483647 : Int32)) % (129 : Int32))), (.long q0)])
    obtain ⟨T8, X8, e8, st8⟩ := pureS X_56 hx hZ hown (hw _ (List.mem_of_getElem? (i := 10) rfl)) (hw _ (List.mem_of_getElem? (i := 11) rfl)) (hw _ (List.mem_of_getElem? (i := 12) rfl)) (hw _ (List.mem_of_getElem? (i := 13) rfl)) (by decide) (rm2 l Z a0 hw [] q0 ((p1 &&& (2147483647 : Int32)) % (129 : Int32)) h0) e_56 (W := 0) (by decide) (by decide) (by decide) (by decide) (g := (mkF m 60 #[.val (.long q0), .second, .val (.int p1), .val (.int ((p1 &&& (2147483647 : Int32)) % (129 : Int32))), .val (.long (f1 q0 ((p1 &&& (2147483647 : Int32)) % (129 : Int32)))), .second, .val (.long (-9187201950435737472 : Int64)), .second, .val (.int z40_s0), .val (.int z56_s0), .unset, .unset, .unset, .unset] [(.int ((p1 &&& (2147483647 : Int32)) % (129 : Int32))), (.long q0)])) rfl (by rw [hml]; rfl) (argsL := [(.long q0), (.int ((p1 &&& (2147483647 : Int32)) % (129 : Int32)))]) (rest := []) rfl (lenOf pd_0 rfl) rfl (by show 2 * 0 + _ ≤ _; exact Nat.le_of_eq rfl) (hb hby at_60)
    refine Fini.st st8 ?_
    show Fini p e below s _ _ _ T8 (mkF m 63 #[.val (.long q0), .second, .val (.int p1), .val (.int ((p1 &&& (2147483647 : Int32)) % (129 : Int32))), .val (.long (f1 q0 ((p1 &&& (2147483647 : Int32)) % (129 : Int32)))), .second, .val (.long (-9187201950435737472 : Int64)), .second, .val (.int z40_s0), .val (.int z56_s0), .unset, .unset, .unset, .unset] [(.int (f2 q0 ((p1 &&& (2147483647 : Int32)) % (129 : Int32))))])
    refine Fini.st (fun _ k => XS.istore X8.here hx rfl (hb hby at_63) rfl (l' := #[.val (.long q0), .second, .val (.int p1), .val (.int ((p1 &&& (2147483647 : Int32)) % (129 : Int32))), .val (.long (f1 q0 ((p1 &&& (2147483647 : Int32)) % (129 : Int32)))), .second, .val (.long (-9187201950435737472 : Int64)), .second, .val (.int z40_s0), .val (.int z56_s0), .val (.int (f2 q0 ((p1 &&& (2147483647 : Int32)) % (129 : Int32)))), .unset, .unset, .unset]) rfl k) ?_
    show Fini p e below s _ _ _ T8 (mkF m 65 #[.val (.long q0), .second, .val (.int p1), .val (.int ((p1 &&& (2147483647 : Int32)) % (129 : Int32))), .val (.long (f1 q0 ((p1 &&& (2147483647 : Int32)) % (129 : Int32)))), .second, .val (.long (-9187201950435737472 : Int64)), .second, .val (.int z40_s0), .val (.int z56_s0), .val (.int (f2 q0 ((p1 &&& (2147483647 : Int32)) % (129 : Int32)))), .unset, .unset, .unset] [])
    refine Fini.st (fun _ k => XS.iload X8.here hx rfl (hb hby at_65) rfl k) ?_
    show Fini p e below s _ _ _ T8 (mkF m 67 #[.val (.long q0), .second, .val (.int p1), .val (.int ((p1 &&& (2147483647 : Int32)) % (129 : Int32))), .val (.long (f1 q0 ((p1 &&& (2147483647 : Int32)) % (129 : Int32)))), .second, .val (.long (-9187201950435737472 : Int64)), .second, .val (.int z40_s0), .val (.int z56_s0), .val (.int (f2 q0 ((p1 &&& (2147483647 : Int32)) % (129 : Int32)))), .unset, .unset, .unset] [(.int (f2 q0 ((p1 &&& (2147483647 : Int32)) % (129 : Int32))))])
    refine Fini.st (fun _ k => XS.bipush X8.here hx rfl (hb hby at_67) k) ?_
    show Fini p e below s _ _ _ T8 (mkF m 69 #[.val (.long q0), .second, .val (.int p1), .val (.int ((p1 &&& (2147483647 : Int32)) % (129 : Int32))), .val (.long (f1 q0 ((p1 &&& (2147483647 : Int32)) % (129 : Int32)))), .second, .val (.long (-9187201950435737472 : Int64)), .second, .val (.int z40_s0), .val (.int z56_s0), .val (.int (f2 q0 ((p1 &&& (2147483647 : Int32)) % (129 : Int32)))), .unset, .unset, .unset] [(.int (8 : Int32)), (.int (f2 q0 ((p1 &&& (2147483647 : Int32)) % (129 : Int32))))])
    by_cases c9 : (f2 q0 ((p1 &&& (2147483647 : Int32)) % (129 : Int32))) = (8 : Int32)
    · have hv10 := hv_56.trans (if_pos c9)
      refine Fini.st (fun _ k => XS.icmpNo X8.here hx rfl (hb hby at_69) rfl (XT.ii_ne_f c9) k) ?_
      show Fini p e below s _ _ _ T8 (mkF m 72 #[.val (.long q0), .second, .val (.int p1), .val (.int ((p1 &&& (2147483647 : Int32)) % (129 : Int32))), .val (.long (f1 q0 ((p1 &&& (2147483647 : Int32)) % (129 : Int32)))), .second, .val (.long (-9187201950435737472 : Int64)), .second, .val (.int z40_s0), .val (.int z56_s0), .val (.int (f2 q0 ((p1 &&& (2147483647 : Int32)) % (129 : Int32)))), .unset, .unset, .unset] [])
      refine Fini.st (fun _ k => XS.lconst X8.here hx rfl (hb hby at_72) k) ?_
      show Fini p e below s _ _ _ T8 (mkF m 73 #[.val (.long q0), .second, .val (.int p1), .val (.int ((p1 &&& (2147483647 : Int32)) % (129 : Int32))), .val (.long (f1 q0 ((p1 &&& (2147483647 : Int32)) % (129 : Int32)))), .second, .val (.long (-9187201950435737472 : Int64)), .second, .val (.int z40_s0), .val (.int z56_s0), .val (.int (f2 q0 ((p1 &&& (2147483647 : Int32)) % (129 : Int32)))), .unset, .unset, .unset] [(.long (0 : Int64))])
      refine Fini.st (fun _ k => XS.goto X8.here hx rfl (pc0 := 73) (pc' := 85) rfl (hb hby at_73) (by decide) (by decide) k) ?_
      show Fini p e below s _ _ _ T8 (mkF m 85 #[.val (.long q0), .second, .val (.int p1), .val (.int ((p1 &&& (2147483647 : Int32)) % (129 : Int32))), .val (.long (f1 q0 ((p1 &&& (2147483647 : Int32)) % (129 : Int32)))), .second, .val (.long (-9187201950435737472 : Int64)), .second, .val (.int z40_s0), .val (.int z56_s0), .val (.int (f2 q0 ((p1 &&& (2147483647 : Int32)) % (129 : Int32)))), .unset, .unset, .unset] [(.long (0 : Int64))])
      exact B85 T8 X8 e8 (0 : Int64) z40_s0 z56_s0 hv10
    · have hv11 := hv_56.trans (if_neg c9)
      refine Fini.st (fun _ k => XS.icmpYes X8.here hx rfl (pc0 := 69) (pc' := 76) rfl (hb hby at_69) rfl (XT.ii_ne_t c9) (by decide) (by decide) k) ?_
      show Fini p e below s _ _ _ T8 (mkF m 76 #[.val (.long q0), .second, .val (.int p1), .val (.int ((p1 &&& (2147483647 : Int32)) % (129 : Int32))), .val (.long (f1 q0 ((p1 &&& (2147483647 : Int32)) % (129 : Int32)))), .second, .val (.long (-9187201950435737472 : Int64)), .second, .val (.int z40_s0), .val (.int z56_s0), .val (.int (f2 q0 ((p1 &&& (2147483647 : Int32)) % (129 : Int32)))), .unset, .unset, .unset] [])
      refine Fini.st (fun _ k => X8.ldc2J hx hown (mvT hZ (hw _ (List.mem_of_getElem? (i := 18) rfl))) rfl (hb hby at_76) k) ?_
      show Fini p e below s _ _ _ T8 (mkF m 79 #[.val (.long q0), .second, .val (.int p1), .val (.int ((p1 &&& (2147483647 : Int32)) % (129 : Int32))), .val (.long (f1 q0 ((p1 &&& (2147483647 : Int32)) % (129 : Int32)))), .second, .val (.long (-9187201950435737472 : Int64)), .second, .val (.int z40_s0), .val (.int z56_s0), .val (.int (f2 q0 ((p1 &&& (2147483647 : Int32)) % (129 : Int32)))), .unset, .unset, .unset] [(.long (128 : Int64))])
      refine Fini.st (fun _ k => XS.bipush X8.here hx rfl (hb hby at_79) k) ?_
      show Fini p e below s _ _ _ T8 (mkF m 81 #[.val (.long q0), .second, .val (.int p1), .val (.int ((p1 &&& (2147483647 : Int32)) % (129 : Int32))), .val (.long (f1 q0 ((p1 &&& (2147483647 : Int32)) % (129 : Int32)))), .second, .val (.long (-9187201950435737472 : Int64)), .second, .val (.int z40_s0), .val (.int z56_s0), .val (.int (f2 q0 ((p1 &&& (2147483647 : Int32)) % (129 : Int32)))), .unset, .unset, .unset] [(.int (8 : Int32)), (.long (128 : Int64))])
      refine Fini.st (fun _ k => XS.iload X8.here hx rfl (hb hby at_81) rfl k) ?_
      show Fini p e below s _ _ _ T8 (mkF m 83 #[.val (.long q0), .second, .val (.int p1), .val (.int ((p1 &&& (2147483647 : Int32)) % (129 : Int32))), .val (.long (f1 q0 ((p1 &&& (2147483647 : Int32)) % (129 : Int32)))), .second, .val (.long (-9187201950435737472 : Int64)), .second, .val (.int z40_s0), .val (.int z56_s0), .val (.int (f2 q0 ((p1 &&& (2147483647 : Int32)) % (129 : Int32)))), .unset, .unset, .unset] [(.int (f2 q0 ((p1 &&& (2147483647 : Int32)) % (129 : Int32)))), (.int (8 : Int32)), (.long (128 : Int64))])
      refine Fini.st (fun _ k => XS.imul X8.here hx rfl (hb hby at_83) rfl k) ?_
      show Fini p e below s _ _ _ T8 (mkF m 84 #[.val (.long q0), .second, .val (.int p1), .val (.int ((p1 &&& (2147483647 : Int32)) % (129 : Int32))), .val (.long (f1 q0 ((p1 &&& (2147483647 : Int32)) % (129 : Int32)))), .second, .val (.long (-9187201950435737472 : Int64)), .second, .val (.int z40_s0), .val (.int z56_s0), .val (.int (f2 q0 ((p1 &&& (2147483647 : Int32)) % (129 : Int32)))), .unset, .unset, .unset] [(.int ((8 : Int32) * (f2 q0 ((p1 &&& (2147483647 : Int32)) % (129 : Int32))))), (.long (128 : Int64))])
      refine Fini.st (fun _ k => XS.lshl X8.here hx rfl (hb hby at_84) rfl k) ?_
      show Fini p e below s _ _ _ T8 (mkF m 85 #[.val (.long q0), .second, .val (.int p1), .val (.int ((p1 &&& (2147483647 : Int32)) % (129 : Int32))), .val (.long (f1 q0 ((p1 &&& (2147483647 : Int32)) % (129 : Int32)))), .second, .val (.long (-9187201950435737472 : Int64)), .second, .val (.int z40_s0), .val (.int z56_s0), .val (.int (f2 q0 ((p1 &&& (2147483647 : Int32)) % (129 : Int32)))), .unset, .unset, .unset] [(.long ((128 : Int64) <<< (((8 : Int32) * (f2 q0 ((p1 &&& (2147483647 : Int32)) % (129 : Int32)))) &&& 0x3f).toInt64))])
      exact B85 T8 X8 e8 ((128 : Int64) <<< (((8 : Int32) * (f2 q0 ((p1 &&& (2147483647 : Int32)) % (129 : Int32)))) &&& 0x3f).toInt64) z40_s0 z56_s0 hv11
  have B40 : ∀ (T_40 : State) (X_40 : Stand p l e room_1 s m #[(.long q0), (.int p1)] below meth c T_40 [] 0 0) (e_40 : T_40.heap = h0) (z40_s0 : Int32), f0 q0 p1 = f0_40 q0 p1 z40_s0 → Fini p e below s (fun v h' L => v = some (.int (f0 q0 p1)) ∧ h' = h0 ∧ L = []) (Room.cells room_1) (Room.slots room_1) T_40 (mkF m 40 #[.val (.long q0), .second, .val (.int p1), .val (.int ((p1 &&& (2147483647 : Int32)) % (129 : Int32))), .val (.long (f1 q0 ((p1 &&& (2147483647 : Int32)) % (129 : Int32)))), .second, .val (.long (-9187201950435737472 : Int64)), .second, .unset, .unset, .unset, .unset, .unset, .unset] [(.int z40_s0)]) := by
    intro T_40 X_40 e_40 z40_s0 hv_40
    refine Fini.st (fun _ k => XS.istore X_40.here hx rfl (hb hby at_40) rfl (l' := #[.val (.long q0), .second, .val (.int p1), .val (.int ((p1 &&& (2147483647 : Int32)) % (129 : Int32))), .val (.long (f1 q0 ((p1 &&& (2147483647 : Int32)) % (129 : Int32)))), .second, .val (.long (-9187201950435737472 : Int64)), .second, .val (.int z40_s0), .unset, .unset, .unset, .unset, .unset]) rfl k) ?_
    show Fini p e below s _ _ _ T_40 (mkF m 42 #[.val (.long q0), .second, .val (.int p1), .val (.int ((p1 &&& (2147483647 : Int32)) % (129 : Int32))), .val (.long (f1 q0 ((p1 &&& (2147483647 : Int32)) % (129 : Int32)))), .second, .val (.long (-9187201950435737472 : Int64)), .second, .val (.int z40_s0), .unset, .unset, .unset, .unset, .unset] [])
    refine Fini.st (fun _ k => XS.lload X_40.here hx rfl (hb hby at_42) rfl k) ?_
    show Fini p e below s _ _ _ T_40 (mkF m 44 #[.val (.long q0), .second, .val (.int p1), .val (.int ((p1 &&& (2147483647 : Int32)) % (129 : Int32))), .val (.long (f1 q0 ((p1 &&& (2147483647 : Int32)) % (129 : Int32)))), .second, .val (.long (-9187201950435737472 : Int64)), .second, .val (.int z40_s0), .unset, .unset, .unset, .unset, .unset] [(.long (f1 q0 ((p1 &&& (2147483647 : Int32)) % (129 : Int32))))])
    refine Fini.st (fun _ k => XS.lloadN X_40.here hx rfl (hb hby at_44) rfl k) ?_
    show Fini p e below s _ _ _ T_40 (mkF m 45 #[.val (.long q0), .second, .val (.int p1), .val (.int ((p1 &&& (2147483647 : Int32)) % (129 : Int32))), .val (.long (f1 q0 ((p1 &&& (2147483647 : Int32)) % (129 : Int32)))), .second, .val (.long (-9187201950435737472 : Int64)), .second, .val (.int z40_s0), .unset, .unset, .unset, .unset, .unset] [(.long q0), (.long (f1 q0 ((p1 &&& (2147483647 : Int32)) % (129 : Int32))))])
    refine Fini.st (fun _ k => XS.land X_40.here hx rfl (hb hby at_45) rfl k) ?_
    show Fini p e below s _ _ _ T_40 (mkF m 46 #[.val (.long q0), .second, .val (.int p1), .val (.int ((p1 &&& (2147483647 : Int32)) % (129 : Int32))), .val (.long (f1 q0 ((p1 &&& (2147483647 : Int32)) % (129 : Int32)))), .second, .val (.long (-9187201950435737472 : Int64)), .second, .val (.int z40_s0), .unset, .unset, .unset, .unset, .unset] [(.long ((f1 q0 ((p1 &&& (2147483647 : Int32)) % (129 : Int32))) &&& q0))])
    refine Fini.st (fun _ k => XS.lconst X_40.here hx rfl (hb hby at_46) k) ?_
    show Fini p e below s _ _ _ T_40 (mkF m 47 #[.val (.long q0), .second, .val (.int p1), .val (.int ((p1 &&& (2147483647 : Int32)) % (129 : Int32))), .val (.long (f1 q0 ((p1 &&& (2147483647 : Int32)) % (129 : Int32)))), .second, .val (.long (-9187201950435737472 : Int64)), .second, .val (.int z40_s0), .unset, .unset, .unset, .unset, .unset] [(.long (0 : Int64)), (.long ((f1 q0 ((p1 &&& (2147483647 : Int32)) % (129 : Int32))) &&& q0))])
    refine Fini.st (fun _ k => XT.lcmp X_40.here hx rfl (hb hby at_47) rfl k) ?_
    show Fini p e below s _ _ _ T_40 (mkF m 48 #[.val (.long q0), .second, .val (.int p1), .val (.int ((p1 &&& (2147483647 : Int32)) % (129 : Int32))), .val (.long (f1 q0 ((p1 &&& (2147483647 : Int32)) % (129 : Int32)))), .second, .val (.long (-9187201950435737472 : Int64)), .second, .val (.int z40_s0), .unset, .unset, .unset, .unset, .unset] [(.int (XT.cmpL ((f1 q0 ((p1 &&& (2147483647 : Int32)) % (129 : Int32))) &&& q0) (0 : Int64)))])
    by_cases c5 : ((f1 q0 ((p1 &&& (2147483647 : Int32)) % (129 : Int32))) &&& q0) = (0 : Int64)
    · have hv6 := hv_40.trans (if_pos c5)
      refine Fini.st (fun _ k => XS.ifNo X_40.here hx rfl (hb hby at_48) rfl (XT.ll_ne_f c5) k) ?_
      show Fini p e below s _ _ _ T_40 (mkF m 51 #[.val (.long q0), .second, .val (.int p1), .val (.int ((p1 &&& (2147483647 : Int32)) % (129 : Int32))), .val (.long (f1 q0 ((p1 &&& (2147483647 : Int32)) % (129 : Int32)))), .second, .val (.long (-9187201950435737472 : Int64)), .second, .val (.int z40_s0), .unset, .unset, .unset, .unset, .unset] [])
      refine Fini.st (fun _ k => XS.iconst X_40.here hx rfl (hb hby at_51) k) ?_
      show Fini p e below s _ _ _ T_40 (mkF m 52 #[.val (.long q0), .second, .val (.int p1), .val (.int ((p1 &&& (2147483647 : Int32)) % (129 : Int32))), .val (.long (f1 q0 ((p1 &&& (2147483647 : Int32)) % (129 : Int32)))), .second, .val (.long (-9187201950435737472 : Int64)), .second, .val (.int z40_s0), .unset, .unset, .unset, .unset, .unset] [(.int (1 : Int32))])
      refine Fini.st (fun _ k => XS.goto X_40.here hx rfl (pc0 := 52) (pc' := 56) rfl (hb hby at_52) (by decide) (by decide) k) ?_
      show Fini p e below s _ _ _ T_40 (mkF m 56 #[.val (.long q0), .second, .val (.int p1), .val (.int ((p1 &&& (2147483647 : Int32)) % (129 : Int32))), .val (.long (f1 q0 ((p1 &&& (2147483647 : Int32)) % (129 : Int32)))), .second, .val (.long (-9187201950435737472 : Int64)), .second, .val (.int z40_s0), .unset, .unset, .unset, .unset, .unset] [(.int (1 : Int32))])
      exact B56 T_40 X_40 e_40 (1 : Int32) z40_s0 hv6
    · have hv7 := hv_40.trans (if_neg c5)
      refine Fini.st (fun _ k => XS.ifYes X_40.here hx rfl (pc0 := 48) (pc' := 55) rfl (hb hby at_48) rfl (XT.ll_ne_t c5) (by decide) (by decide) k) ?_
      show Fini p e below s _ _ _ T_40 (mkF m 55 #[.val (.long q0), .second, .val (.int p1), .val (.int ((p1 &&& (2147483647 : Int32)) % (129 : Int32))), .val (.long (f1 q0 ((p1 &&& (2147483647 : Int32)) % (129 : Int32)))), .second, .val (.long (-9187201950435737472 : Int64)), .second, .val (.int z40_s0), .unset, .unset, .unset, .unset, .unset] [])
      refine Fini.st (fun _ k => XS.iconst X_40.here hx rfl (hb hby at_55) k) ?_
      show Fini p e below s _ _ _ T_40 (mkF m 56 #[.val (.long q0), .second, .val (.int p1), .val (.int ((p1 &&& (2147483647 : Int32)) % (129 : Int32))), .val (.long (f1 q0 ((p1 &&& (2147483647 : Int32)) % (129 : Int32)))), .second, .val (.long (-9187201950435737472 : Int64)), .second, .val (.int z40_s0), .unset, .unset, .unset, .unset, .unset] [(.int (0 : Int32))])
      exact B56 T_40 X_40 e_40 (0 : Int32) z40_s0 hv7
  show Fini p e below s (fun v h' L => v = some (.int (f0 q0 p1)) ∧ h' = h0 ∧ L = []) _ _ s₁ (entryFrame m #[(.long q0), (.int p1)] maxLocals)
  refine Fini.cast (ef0 m q0 p1) ?_
  show Fini p e below s _ _ _ s₁ (mkF m 0 #[.val (.long q0), .second, .val (.int p1), .unset, .unset, .unset, .unset, .unset, .unset, .unset, .unset, .unset, .unset, .unset] [])
  refine Fini.st (fun _ k => XS.iloadN X0.here hx rfl (hb hby at_0) rfl k) ?_
  show Fini p e below s _ _ _ s₁ (mkF m 1 #[.val (.long q0), .second, .val (.int p1), .unset, .unset, .unset, .unset, .unset, .unset, .unset, .unset, .unset, .unset, .unset] [(.int p1)])
  refine Fini.st (fun _ k => X0.ldcI hx hown (mvT hZ (hw _ (List.mem_of_getElem? (i := 0) rfl))) rfl (hb hby at_1) k) ?_
  show Fini p e below s _ _ _ s₁ (mkF m 3 #[.val (.long q0), .second, .val (.int p1), .unset, .unset, .unset, .unset, .unset, .unset, .unset, .unset, .unset, .unset, .unset] [(.int (2147483647 : Int32)), (.int p1)])
  refine Fini.st (fun _ k => XS.iand X0.here hx rfl (hb hby at_3) rfl k) ?_
  show Fini p e below s _ _ _ s₁ (mkF m 4 #[.val (.long q0), .second, .val (.int p1), .unset, .unset, .unset, .unset, .unset, .unset, .unset, .unset, .unset, .unset, .unset] [(.int (p1 &&& (2147483647 : Int32)))])
  refine Fini.st (fun _ k => XS.sipush X0.here hx rfl (hb hby at_4) k) ?_
  show Fini p e below s _ _ _ s₁ (mkF m 7 #[.val (.long q0), .second, .val (.int p1), .unset, .unset, .unset, .unset, .unset, .unset, .unset, .unset, .unset, .unset, .unset] [(.int (129 : Int32)), (.int (p1 &&& (2147483647 : Int32)))])
  refine Fini.st (fun _ k => iremM X0 hx rfl (hb hby at_7) rfl (by decide) k) ?_
  show Fini p e below s _ _ _ s₁ (mkF m 8 #[.val (.long q0), .second, .val (.int p1), .unset, .unset, .unset, .unset, .unset, .unset, .unset, .unset, .unset, .unset, .unset] [(.int ((p1 &&& (2147483647 : Int32)) % (129 : Int32)))])
  refine Fini.st (fun _ k => XS.istoreN X0.here hx rfl (hb hby at_8) rfl (l' := #[.val (.long q0), .second, .val (.int p1), .val (.int ((p1 &&& (2147483647 : Int32)) % (129 : Int32))), .unset, .unset, .unset, .unset, .unset, .unset, .unset, .unset, .unset, .unset]) rfl k) ?_
  show Fini p e below s _ _ _ s₁ (mkF m 9 #[.val (.long q0), .second, .val (.int p1), .val (.int ((p1 &&& (2147483647 : Int32)) % (129 : Int32))), .unset, .unset, .unset, .unset, .unset, .unset, .unset, .unset, .unset, .unset] [])
  refine Fini.st (fun _ k => XS.lloadN X0.here hx rfl (hb hby at_9) rfl k) ?_
  show Fini p e below s _ _ _ s₁ (mkF m 10 #[.val (.long q0), .second, .val (.int p1), .val (.int ((p1 &&& (2147483647 : Int32)) % (129 : Int32))), .unset, .unset, .unset, .unset, .unset, .unset, .unset, .unset, .unset, .unset] [(.long q0)])
  refine Fini.st (fun _ k => XS.iloadN X0.here hx rfl (hb hby at_10) rfl k) ?_
  show Fini p e below s _ _ _ s₁ (mkF m 11 #[.val (.long q0), .second, .val (.int p1), .val (.int ((p1 &&& (2147483647 : Int32)) % (129 : Int32))), .unset, .unset, .unset, .unset, .unset, .unset, .unset, .unset, .unset, .unset] [(.int ((p1 &&& (2147483647 : Int32)) % (129 : Int32))), (.long q0)])
  obtain ⟨T1, X1, e1, st1⟩ := pureS X0 hx hZ hown (hw _ (List.mem_of_getElem? (i := 1) rfl)) (hw _ (List.mem_of_getElem? (i := 2) rfl)) (hw _ (List.mem_of_getElem? (i := 3) rfl)) (hw _ (List.mem_of_getElem? (i := 4) rfl)) (by decide) (rm1 l Z a0 hw [] q0 ((p1 &&& (2147483647 : Int32)) % (129 : Int32)) h0) e0 (W := 0) (by decide) (by decide) (by decide) (by decide) (g := (mkF m 11 #[.val (.long q0), .second, .val (.int p1), .val (.int ((p1 &&& (2147483647 : Int32)) % (129 : Int32))), .unset, .unset, .unset, .unset, .unset, .unset, .unset, .unset, .unset, .unset] [(.int ((p1 &&& (2147483647 : Int32)) % (129 : Int32))), (.long q0)])) rfl (by rw [hml]; rfl) (argsL := [(.long q0), (.int ((p1 &&& (2147483647 : Int32)) % (129 : Int32)))]) (rest := []) rfl (lenOf pd_1 rfl) rfl (by show 2 * 0 + _ ≤ _; exact Nat.le_of_eq rfl) (hb hby at_11)
  refine Fini.st st1 ?_
  show Fini p e below s _ _ _ T1 (mkF m 14 #[.val (.long q0), .second, .val (.int p1), .val (.int ((p1 &&& (2147483647 : Int32)) % (129 : Int32))), .unset, .unset, .unset, .unset, .unset, .unset, .unset, .unset, .unset, .unset] [(.long (f1 q0 ((p1 &&& (2147483647 : Int32)) % (129 : Int32))))])
  refine Fini.st (fun _ k => XS.lstore X1.here hx rfl (hb hby at_14) rfl (l' := #[.val (.long q0), .second, .val (.int p1), .val (.int ((p1 &&& (2147483647 : Int32)) % (129 : Int32))), .val (.long (f1 q0 ((p1 &&& (2147483647 : Int32)) % (129 : Int32)))), .second, .unset, .unset, .unset, .unset, .unset, .unset, .unset, .unset]) rfl k) ?_
  show Fini p e below s _ _ _ T1 (mkF m 16 #[.val (.long q0), .second, .val (.int p1), .val (.int ((p1 &&& (2147483647 : Int32)) % (129 : Int32))), .val (.long (f1 q0 ((p1 &&& (2147483647 : Int32)) % (129 : Int32)))), .second, .unset, .unset, .unset, .unset, .unset, .unset, .unset, .unset] [])
  refine Fini.st (fun _ k => X1.ldc2J hx hown (mvT hZ (hw _ (List.mem_of_getElem? (i := 8) rfl))) rfl (hb hby at_16) k) ?_
  show Fini p e below s _ _ _ T1 (mkF m 19 #[.val (.long q0), .second, .val (.int p1), .val (.int ((p1 &&& (2147483647 : Int32)) % (129 : Int32))), .val (.long (f1 q0 ((p1 &&& (2147483647 : Int32)) % (129 : Int32)))), .second, .unset, .unset, .unset, .unset, .unset, .unset, .unset, .unset] [(.long (-9187201950435737472 : Int64))])
  refine Fini.st (fun _ k => XS.lstore X1.here hx rfl (hb hby at_19) rfl (l' := #[.val (.long q0), .second, .val (.int p1), .val (.int ((p1 &&& (2147483647 : Int32)) % (129 : Int32))), .val (.long (f1 q0 ((p1 &&& (2147483647 : Int32)) % (129 : Int32)))), .second, .val (.long (-9187201950435737472 : Int64)), .second, .unset, .unset, .unset, .unset, .unset, .unset]) rfl k) ?_
  show Fini p e below s _ _ _ T1 (mkF m 21 #[.val (.long q0), .second, .val (.int p1), .val (.int ((p1 &&& (2147483647 : Int32)) % (129 : Int32))), .val (.long (f1 q0 ((p1 &&& (2147483647 : Int32)) % (129 : Int32)))), .second, .val (.long (-9187201950435737472 : Int64)), .second, .unset, .unset, .unset, .unset, .unset, .unset] [])
  refine Fini.st (fun _ k => XS.lload X1.here hx rfl (hb hby at_21) rfl k) ?_
  show Fini p e below s _ _ _ T1 (mkF m 23 #[.val (.long q0), .second, .val (.int p1), .val (.int ((p1 &&& (2147483647 : Int32)) % (129 : Int32))), .val (.long (f1 q0 ((p1 &&& (2147483647 : Int32)) % (129 : Int32)))), .second, .val (.long (-9187201950435737472 : Int64)), .second, .unset, .unset, .unset, .unset, .unset, .unset] [(.long (f1 q0 ((p1 &&& (2147483647 : Int32)) % (129 : Int32))))])
  refine Fini.st (fun _ k => XS.lload X1.here hx rfl (hb hby at_23) rfl k) ?_
  show Fini p e below s _ _ _ T1 (mkF m 25 #[.val (.long q0), .second, .val (.int p1), .val (.int ((p1 &&& (2147483647 : Int32)) % (129 : Int32))), .val (.long (f1 q0 ((p1 &&& (2147483647 : Int32)) % (129 : Int32)))), .second, .val (.long (-9187201950435737472 : Int64)), .second, .unset, .unset, .unset, .unset, .unset, .unset] [(.long (-9187201950435737472 : Int64)), (.long (f1 q0 ((p1 &&& (2147483647 : Int32)) % (129 : Int32))))])
  refine Fini.st (fun _ k => X1.ldc2J hx hown (mvT hZ (hw _ (List.mem_of_getElem? (i := 9) rfl))) rfl (hb hby at_25) k) ?_
  show Fini p e below s _ _ _ T1 (mkF m 28 #[.val (.long q0), .second, .val (.int p1), .val (.int ((p1 &&& (2147483647 : Int32)) % (129 : Int32))), .val (.long (f1 q0 ((p1 &&& (2147483647 : Int32)) % (129 : Int32)))), .second, .val (.long (-9187201950435737472 : Int64)), .second, .unset, .unset, .unset, .unset, .unset, .unset] [(.long (-1 : Int64)), (.long (-9187201950435737472 : Int64)), (.long (f1 q0 ((p1 &&& (2147483647 : Int32)) % (129 : Int32))))])
  refine Fini.st (fun _ k => XS.lxor X1.here hx rfl (hb hby at_28) rfl k) ?_
  show Fini p e below s _ _ _ T1 (mkF m 29 #[.val (.long q0), .second, .val (.int p1), .val (.int ((p1 &&& (2147483647 : Int32)) % (129 : Int32))), .val (.long (f1 q0 ((p1 &&& (2147483647 : Int32)) % (129 : Int32)))), .second, .val (.long (-9187201950435737472 : Int64)), .second, .unset, .unset, .unset, .unset, .unset, .unset] [(.long ((-9187201950435737472 : Int64) ^^^ (-1 : Int64))), (.long (f1 q0 ((p1 &&& (2147483647 : Int32)) % (129 : Int32))))])
  refine Fini.st (fun _ k => XS.land X1.here hx rfl (hb hby at_29) rfl k) ?_
  show Fini p e below s _ _ _ T1 (mkF m 30 #[.val (.long q0), .second, .val (.int p1), .val (.int ((p1 &&& (2147483647 : Int32)) % (129 : Int32))), .val (.long (f1 q0 ((p1 &&& (2147483647 : Int32)) % (129 : Int32)))), .second, .val (.long (-9187201950435737472 : Int64)), .second, .unset, .unset, .unset, .unset, .unset, .unset] [(.long ((f1 q0 ((p1 &&& (2147483647 : Int32)) % (129 : Int32))) &&& ((-9187201950435737472 : Int64) ^^^ (-1 : Int64))))])
  refine Fini.st (fun _ k => XS.lconst X1.here hx rfl (hb hby at_30) k) ?_
  show Fini p e below s _ _ _ T1 (mkF m 31 #[.val (.long q0), .second, .val (.int p1), .val (.int ((p1 &&& (2147483647 : Int32)) % (129 : Int32))), .val (.long (f1 q0 ((p1 &&& (2147483647 : Int32)) % (129 : Int32)))), .second, .val (.long (-9187201950435737472 : Int64)), .second, .unset, .unset, .unset, .unset, .unset, .unset] [(.long (0 : Int64)), (.long ((f1 q0 ((p1 &&& (2147483647 : Int32)) % (129 : Int32))) &&& ((-9187201950435737472 : Int64) ^^^ (-1 : Int64))))])
  refine Fini.st (fun _ k => XT.lcmp X1.here hx rfl (hb hby at_31) rfl k) ?_
  show Fini p e below s _ _ _ T1 (mkF m 32 #[.val (.long q0), .second, .val (.int p1), .val (.int ((p1 &&& (2147483647 : Int32)) % (129 : Int32))), .val (.long (f1 q0 ((p1 &&& (2147483647 : Int32)) % (129 : Int32)))), .second, .val (.long (-9187201950435737472 : Int64)), .second, .unset, .unset, .unset, .unset, .unset, .unset] [(.int (XT.cmpL ((f1 q0 ((p1 &&& (2147483647 : Int32)) % (129 : Int32))) &&& ((-9187201950435737472 : Int64) ^^^ (-1 : Int64))) (0 : Int64)))])
  by_cases c2 : ((f1 q0 ((p1 &&& (2147483647 : Int32)) % (129 : Int32))) &&& ((-9187201950435737472 : Int64) ^^^ (-1 : Int64))) = (0 : Int64)
  · have hv3 := hv0.trans (if_pos c2)
    refine Fini.st (fun _ k => XS.ifNo X1.here hx rfl (hb hby at_32) rfl (XT.ll_ne_f c2) k) ?_
    show Fini p e below s _ _ _ T1 (mkF m 35 #[.val (.long q0), .second, .val (.int p1), .val (.int ((p1 &&& (2147483647 : Int32)) % (129 : Int32))), .val (.long (f1 q0 ((p1 &&& (2147483647 : Int32)) % (129 : Int32)))), .second, .val (.long (-9187201950435737472 : Int64)), .second, .unset, .unset, .unset, .unset, .unset, .unset] [])
    refine Fini.st (fun _ k => XS.iconst X1.here hx rfl (hb hby at_35) k) ?_
    show Fini p e below s _ _ _ T1 (mkF m 36 #[.val (.long q0), .second, .val (.int p1), .val (.int ((p1 &&& (2147483647 : Int32)) % (129 : Int32))), .val (.long (f1 q0 ((p1 &&& (2147483647 : Int32)) % (129 : Int32)))), .second, .val (.long (-9187201950435737472 : Int64)), .second, .unset, .unset, .unset, .unset, .unset, .unset] [(.int (1 : Int32))])
    refine Fini.st (fun _ k => XS.goto X1.here hx rfl (pc0 := 36) (pc' := 40) rfl (hb hby at_36) (by decide) (by decide) k) ?_
    show Fini p e below s _ _ _ T1 (mkF m 40 #[.val (.long q0), .second, .val (.int p1), .val (.int ((p1 &&& (2147483647 : Int32)) % (129 : Int32))), .val (.long (f1 q0 ((p1 &&& (2147483647 : Int32)) % (129 : Int32)))), .second, .val (.long (-9187201950435737472 : Int64)), .second, .unset, .unset, .unset, .unset, .unset, .unset] [(.int (1 : Int32))])
    exact B40 T1 X1 e1 (1 : Int32) hv3
  · have hv4 := hv0.trans (if_neg c2)
    refine Fini.st (fun _ k => XS.ifYes X1.here hx rfl (pc0 := 32) (pc' := 39) rfl (hb hby at_32) rfl (XT.ll_ne_t c2) (by decide) (by decide) k) ?_
    show Fini p e below s _ _ _ T1 (mkF m 39 #[.val (.long q0), .second, .val (.int p1), .val (.int ((p1 &&& (2147483647 : Int32)) % (129 : Int32))), .val (.long (f1 q0 ((p1 &&& (2147483647 : Int32)) % (129 : Int32)))), .second, .val (.long (-9187201950435737472 : Int64)), .second, .unset, .unset, .unset, .unset, .unset, .unset] [])
    refine Fini.st (fun _ k => XS.iconst X1.here hx rfl (hb hby at_39) k) ?_
    show Fini p e below s _ _ _ T1 (mkF m 40 #[.val (.long q0), .second, .val (.int p1), .val (.int ((p1 &&& (2147483647 : Int32)) % (129 : Int32))), .val (.long (f1 q0 ((p1 &&& (2147483647 : Int32)) % (129 : Int32)))), .second, .val (.long (-9187201950435737472 : Int64)), .second, .unset, .unset, .unset, .unset, .unset, .unset] [(.int (0 : Int32))])
    exact B40 T1 X1 e1 (0 : Int32) hv4
theorem own_bit (b : BitVec 64) (t : Nat) : b.getLsbD t = decide (b.toNat / 2 ^ t % 2 = 1) := Nat.testBit_eq_decide_div_mod_eq
theorem own_low (M : BitVec 64) (k : Nat) (h1 : M.getLsbD k = true) (h0 : ∀ t, t < k → M.getLsbD t = false) : M &&& -M = BitVec.twoPow 64 k := by
  apply BitVec.eq_of_getLsbD_eq
  intro t ht
  rw [BitVec.getLsbD_and, BitVec.getLsbD_neg, BitVec.getLsbD_twoPow]
  by_cases q : t < k
  · have hne : ¬ k = t := by omega
    simp [h0 t q, hne]
  · by_cases r : t = k
    · subst r
      have hne : ¬ ∃ j, j < t ∧ M.getLsbD j = true := by
        rintro ⟨j, hj, hm⟩
        rw [h0 j hj] at hm; cases hm
      simp [h1, ht, hne]
    · have hex : ∃ j, j < t ∧ M.getLsbD j = true := ⟨k, by omega, h1⟩
      have hne : ¬ k = t := by omega
      simp [hex, ht, hne]
def own_M (X : BitVec 64) (B : Nat) : BitVec 64 := (X - BitVec.ofNat 64 (72340172838076673 * B)) &&& ~~~X &&& 9259542123273814144#64
theorem own_hi : ∀ t : Fin 64, (9259542123273814144#64).getLsbD t.1 = decide (t.1 % 8 = 7) := by decide
theorem own_D (X : BitVec 64) (B : Nat) (hB : B ≤ 128) : (X - BitVec.ofNat 64 (72340172838076673 * B)).toNat = (18446744073709551616 - 72340172838076673 * B + X.toNat) % 18446744073709551616 := by
  rw [BitVec.toNat_sub, BitVec.toNat_ofNat]
  have : 72340172838076673 * B % 2 ^ 64 = 72340172838076673 * B := Nat.mod_eq_of_lt (by omega)
  rw [this]
theorem own_Mbit (X : BitVec 64) (B t : Nat) (ht : t < 64) : (own_M X B).getLsbD t = (((X - BitVec.ofNat 64 (72340172838076673 * B)).getLsbD t && !X.getLsbD t) && decide (t % 8 = 7)) := by
  unfold own_M
  rw [BitVec.getLsbD_and, BitVec.getLsbD_and, BitVec.getLsbD_not, own_hi ⟨t, ht⟩]
  simp [ht]
theorem own_nb0 (X B : Nat) (hl : 0 * B ≤ X % 1) (hb : B ≤ X / 1 % 256) : 1 * B ≤ X % 256 := by omega
theorem own_st0 (X B D : Nat) (hX : X < 18446744073709551616) (hB : B ≤ 128) (hD : D = (18446744073709551616 - 72340172838076673 * B + X) % 18446744073709551616) (hl : 0 * B ≤ X % 1) : ∃ z : Int, ((D / 1 : Nat) : Int) = ((X / 1 % 256 : Nat) : Int) - (B : Int) + 256 * z := by
  refine ⟨((X / 1 / 256 : Nat) : Int) - 282578800148737 * (B : Int) + 72057594037927936 * (1 - (((18446744073709551616 - 72340172838076673 * B + X) / 18446744073709551616 : Nat) : Int)), ?_⟩
  have h1 : (D : Int) = (((X % 1 : Nat) : Int) - 0 * (B : Int)) + 1 * (((X / 1 % 256 : Nat) : Int) - (B : Int) + 256 * (((X / 1 / 256 : Nat) : Int) - 282578800148737 * (B : Int) + 72057594037927936 * (1 - (((18446744073709551616 - 72340172838076673 * B + X) / 18446744073709551616 : Nat) : Int)))) := by omega
  have h2 : 0 ≤ ((X % 1 : Nat) : Int) - 0 * (B : Int) ∧ ((X % 1 : Nat) : Int) - 0 * (B : Int) < 1 := by omega
  generalize ((X % 1 : Nat) : Int) - 0 * (B : Int) = y at *
  generalize ((X / 1 % 256 : Nat) : Int) - (B : Int) + 256 * (((X / 1 / 256 : Nat) : Int) - 282578800148737 * (B : Int) + 72057594037927936 * (1 - (((18446744073709551616 - 72340172838076673 * B + X) / 18446744073709551616 : Nat) : Int))) = w at *
  omega
theorem own_lo0 (X B D : Nat) (hX : X < 18446744073709551616) (hB : B ≤ 128) (hD : D = (18446744073709551616 - 72340172838076673 * B + X) % 18446744073709551616) (hl : 0 * B ≤ X % 1) (hb : B ≤ X / 1 % 256) : D / 128 % 2 = 1 → X / 128 % 2 = 1 := by
  obtain ⟨z, hz⟩ := own_st0 X B D hX hB hD hl
  have e1 : D / 128 = D / 1 / 128 := (Nat.div_div_eq_div_mul D 1 128).symm
  have e2 : X / 128 = X / 1 / 128 := (Nat.div_div_eq_div_mul X 1 128).symm
  rw [e1, e2]
  generalize D / 1 = d at *
  generalize X / 1 = x at *
  clear hD hl hX
  omega
theorem own_hi0 (X B D : Nat) (hX : X < 18446744073709551616) (hB : B ≤ 128) (hD : D = (18446744073709551616 - 72340172838076673 * B + X) % 18446744073709551616) (hl : 0 * B ≤ X % 1) (hb : X / 1 % 256 < B) : D / 128 % 2 = 1 ∧ X / 128 % 2 = 0 := by
  obtain ⟨z, hz⟩ := own_st0 X B D hX hB hD hl
  have e1 : D / 128 = D / 1 / 128 := (Nat.div_div_eq_div_mul D 1 128).symm
  have e2 : X / 128 = X / 1 / 128 := (Nat.div_div_eq_div_mul X 1 128).symm
  rw [e1, e2]
  generalize D / 1 = d at *
  generalize X / 1 = x at *
  clear hD hl hX
  omega
theorem own_nb1 (X B : Nat) (hl : 1 * B ≤ X % 256) (hb : B ≤ X / 256 % 256) : 257 * B ≤ X % 65536 := by omega
theorem own_st1 (X B D : Nat) (hX : X < 18446744073709551616) (hB : B ≤ 128) (hD : D = (18446744073709551616 - 72340172838076673 * B + X) % 18446744073709551616) (hl : 1 * B ≤ X % 256) : ∃ z : Int, ((D / 256 : Nat) : Int) = ((X / 256 % 256 : Nat) : Int) - (B : Int) + 256 * z := by
  refine ⟨((X / 256 / 256 : Nat) : Int) - 1103823438081 * (B : Int) + 281474976710656 * (1 - (((18446744073709551616 - 72340172838076673 * B + X) / 18446744073709551616 : Nat) : Int)), ?_⟩
  have h1 : (D : Int) = (((X % 256 : Nat) : Int) - 1 * (B : Int)) + 256 * (((X / 256 % 256 : Nat) : Int) - (B : Int) + 256 * (((X / 256 / 256 : Nat) : Int) - 1103823438081 * (B : Int) + 281474976710656 * (1 - (((18446744073709551616 - 72340172838076673 * B + X) / 18446744073709551616 : Nat) : Int)))) := by omega
  have h2 : 0 ≤ ((X % 256 : Nat) : Int) - 1 * (B : Int) ∧ ((X % 256 : Nat) : Int) - 1 * (B : Int) < 256 := by omega
  generalize ((X % 256 : Nat) : Int) - 1 * (B : Int) = y at *
  generalize ((X / 256 % 256 : Nat) : Int) - (B : Int) + 256 * (((X / 256 / 256 : Nat) : Int) - 1103823438081 * (B : Int) + 281474976710656 * (1 - (((18446744073709551616 - 72340172838076673 * B + X) / 18446744073709551616 : Nat) : Int))) = w at *
  omega
theorem own_lo1 (X B D : Nat) (hX : X < 18446744073709551616) (hB : B ≤ 128) (hD : D = (18446744073709551616 - 72340172838076673 * B + X) % 18446744073709551616) (hl : 1 * B ≤ X % 256) (hb : B ≤ X / 256 % 256) : D / 32768 % 2 = 1 → X / 32768 % 2 = 1 := by
  obtain ⟨z, hz⟩ := own_st1 X B D hX hB hD hl
  have e1 : D / 32768 = D / 256 / 128 := (Nat.div_div_eq_div_mul D 256 128).symm
  have e2 : X / 32768 = X / 256 / 128 := (Nat.div_div_eq_div_mul X 256 128).symm
  rw [e1, e2]
  generalize D / 256 = d at *
  generalize X / 256 = x at *
  clear hD hl hX
  omega
theorem own_hi1 (X B D : Nat) (hX : X < 18446744073709551616) (hB : B ≤ 128) (hD : D = (18446744073709551616 - 72340172838076673 * B + X) % 18446744073709551616) (hl : 1 * B ≤ X % 256) (hb : X / 256 % 256 < B) : D / 32768 % 2 = 1 ∧ X / 32768 % 2 = 0 := by
  obtain ⟨z, hz⟩ := own_st1 X B D hX hB hD hl
  have e1 : D / 32768 = D / 256 / 128 := (Nat.div_div_eq_div_mul D 256 128).symm
  have e2 : X / 32768 = X / 256 / 128 := (Nat.div_div_eq_div_mul X 256 128).symm
  rw [e1, e2]
  generalize D / 256 = d at *
  generalize X / 256 = x at *
  clear hD hl hX
  omega
theorem own_nb2 (X B : Nat) (hl : 257 * B ≤ X % 65536) (hb : B ≤ X / 65536 % 256) : 65793 * B ≤ X % 16777216 := by omega
theorem own_st2 (X B D : Nat) (hX : X < 18446744073709551616) (hB : B ≤ 128) (hD : D = (18446744073709551616 - 72340172838076673 * B + X) % 18446744073709551616) (hl : 257 * B ≤ X % 65536) : ∃ z : Int, ((D / 65536 : Nat) : Int) = ((X / 65536 % 256 : Nat) : Int) - (B : Int) + 256 * z := by
  refine ⟨((X / 65536 / 256 : Nat) : Int) - 4311810305 * (B : Int) + 1099511627776 * (1 - (((18446744073709551616 - 72340172838076673 * B + X) / 18446744073709551616 : Nat) : Int)), ?_⟩
  have h1 : (D : Int) = (((X % 65536 : Nat) : Int) - 257 * (B : Int)) + 65536 * (((X / 65536 % 256 : Nat) : Int) - (B : Int) + 256 * (((X / 65536 / 256 : Nat) : Int) - 4311810305 * (B : Int) + 1099511627776 * (1 - (((18446744073709551616 - 72340172838076673 * B + X) / 18446744073709551616 : Nat) : Int)))) := by omega
  have h2 : 0 ≤ ((X % 65536 : Nat) : Int) - 257 * (B : Int) ∧ ((X % 65536 : Nat) : Int) - 257 * (B : Int) < 65536 := by omega
  generalize ((X % 65536 : Nat) : Int) - 257 * (B : Int) = y at *
  generalize ((X / 65536 % 256 : Nat) : Int) - (B : Int) + 256 * (((X / 65536 / 256 : Nat) : Int) - 4311810305 * (B : Int) + 1099511627776 * (1 - (((18446744073709551616 - 72340172838076673 * B + X) / 18446744073709551616 : Nat) : Int))) = w at *
  omega
theorem own_lo2 (X B D : Nat) (hX : X < 18446744073709551616) (hB : B ≤ 128) (hD : D = (18446744073709551616 - 72340172838076673 * B + X) % 18446744073709551616) (hl : 257 * B ≤ X % 65536) (hb : B ≤ X / 65536 % 256) : D / 8388608 % 2 = 1 → X / 8388608 % 2 = 1 := by
  obtain ⟨z, hz⟩ := own_st2 X B D hX hB hD hl
  have e1 : D / 8388608 = D / 65536 / 128 := (Nat.div_div_eq_div_mul D 65536 128).symm
  have e2 : X / 8388608 = X / 65536 / 128 := (Nat.div_div_eq_div_mul X 65536 128).symm
  rw [e1, e2]
  generalize D / 65536 = d at *
  generalize X / 65536 = x at *
  clear hD hl hX
  omega
theorem own_hi2 (X B D : Nat) (hX : X < 18446744073709551616) (hB : B ≤ 128) (hD : D = (18446744073709551616 - 72340172838076673 * B + X) % 18446744073709551616) (hl : 257 * B ≤ X % 65536) (hb : X / 65536 % 256 < B) : D / 8388608 % 2 = 1 ∧ X / 8388608 % 2 = 0 := by
  obtain ⟨z, hz⟩ := own_st2 X B D hX hB hD hl
  have e1 : D / 8388608 = D / 65536 / 128 := (Nat.div_div_eq_div_mul D 65536 128).symm
  have e2 : X / 8388608 = X / 65536 / 128 := (Nat.div_div_eq_div_mul X 65536 128).symm
  rw [e1, e2]
  generalize D / 65536 = d at *
  generalize X / 65536 = x at *
  clear hD hl hX
  omega
theorem own_nb3 (X B : Nat) (hl : 65793 * B ≤ X % 16777216) (hb : B ≤ X / 16777216 % 256) : 16843009 * B ≤ X % 4294967296 := by omega
theorem own_st3 (X B D : Nat) (hX : X < 18446744073709551616) (hB : B ≤ 128) (hD : D = (18446744073709551616 - 72340172838076673 * B + X) % 18446744073709551616) (hl : 65793 * B ≤ X % 16777216) : ∃ z : Int, ((D / 16777216 : Nat) : Int) = ((X / 16777216 % 256 : Nat) : Int) - (B : Int) + 256 * z := by
  refine ⟨((X / 16777216 / 256 : Nat) : Int) - 16843009 * (B : Int) + 4294967296 * (1 - (((18446744073709551616 - 72340172838076673 * B + X) / 18446744073709551616 : Nat) : Int)), ?_⟩
  have h1 : (D : Int) = (((X % 16777216 : Nat) : Int) - 65793 * (B : Int)) + 16777216 * (((X / 16777216 % 256 : Nat) : Int) - (B : Int) + 256 * (((X / 16777216 / 256 : Nat) : Int) - 16843009 * (B : Int) + 4294967296 * (1 - (((18446744073709551616 - 72340172838076673 * B + X) / 18446744073709551616 : Nat) : Int)))) := by omega
  have h2 : 0 ≤ ((X % 16777216 : Nat) : Int) - 65793 * (B : Int) ∧ ((X % 16777216 : Nat) : Int) - 65793 * (B : Int) < 16777216 := by omega
  generalize ((X % 16777216 : Nat) : Int) - 65793 * (B : Int) = y at *
  generalize ((X / 16777216 % 256 : Nat) : Int) - (B : Int) + 256 * (((X / 16777216 / 256 : Nat) : Int) - 16843009 * (B : Int) + 4294967296 * (1 - (((18446744073709551616 - 72340172838076673 * B + X) / 18446744073709551616 : Nat) : Int))) = w at *
  omega
theorem own_lo3 (X B D : Nat) (hX : X < 18446744073709551616) (hB : B ≤ 128) (hD : D = (18446744073709551616 - 72340172838076673 * B + X) % 18446744073709551616) (hl : 65793 * B ≤ X % 16777216) (hb : B ≤ X / 16777216 % 256) : D / 2147483648 % 2 = 1 → X / 2147483648 % 2 = 1 := by
  obtain ⟨z, hz⟩ := own_st3 X B D hX hB hD hl
  have e1 : D / 2147483648 = D / 16777216 / 128 := (Nat.div_div_eq_div_mul D 16777216 128).symm
  have e2 : X / 2147483648 = X / 16777216 / 128 := (Nat.div_div_eq_div_mul X 16777216 128).symm
  rw [e1, e2]
  generalize D / 16777216 = d at *
  generalize X / 16777216 = x at *
  clear hD hl hX
  omega
theorem own_hi3 (X B D : Nat) (hX : X < 18446744073709551616) (hB : B ≤ 128) (hD : D = (18446744073709551616 - 72340172838076673 * B + X) % 18446744073709551616) (hl : 65793 * B ≤ X % 16777216) (hb : X / 16777216 % 256 < B) : D / 2147483648 % 2 = 1 ∧ X / 2147483648 % 2 = 0 := by
  obtain ⟨z, hz⟩ := own_st3 X B D hX hB hD hl
  have e1 : D / 2147483648 = D / 16777216 / 128 := (Nat.div_div_eq_div_mul D 16777216 128).symm
  have e2 : X / 2147483648 = X / 16777216 / 128 := (Nat.div_div_eq_div_mul X 16777216 128).symm
  rw [e1, e2]
  generalize D / 16777216 = d at *
  generalize X / 16777216 = x at *
  clear hD hl hX
  omega
theorem own_nb4 (X B : Nat) (hl : 16843009 * B ≤ X % 4294967296) (hb : B ≤ X / 4294967296 % 256) : 4311810305 * B ≤ X % 1099511627776 := by omega
theorem own_st4 (X B D : Nat) (hX : X < 18446744073709551616) (hB : B ≤ 128) (hD : D = (18446744073709551616 - 72340172838076673 * B + X) % 18446744073709551616) (hl : 16843009 * B ≤ X % 4294967296) : ∃ z : Int, ((D / 4294967296 : Nat) : Int) = ((X / 4294967296 % 256 : Nat) : Int) - (B : Int) + 256 * z := by
  refine ⟨((X / 4294967296 / 256 : Nat) : Int) - 65793 * (B : Int) + 16777216 * (1 - (((18446744073709551616 - 72340172838076673 * B + X) / 18446744073709551616 : Nat) : Int)), ?_⟩
  have h1 : (D : Int) = (((X % 4294967296 : Nat) : Int) - 16843009 * (B : Int)) + 4294967296 * (((X / 4294967296 % 256 : Nat) : Int) - (B : Int) + 256 * (((X / 4294967296 / 256 : Nat) : Int) - 65793 * (B : Int) + 16777216 * (1 - (((18446744073709551616 - 72340172838076673 * B + X) / 18446744073709551616 : Nat) : Int)))) := by omega
  have h2 : 0 ≤ ((X % 4294967296 : Nat) : Int) - 16843009 * (B : Int) ∧ ((X % 4294967296 : Nat) : Int) - 16843009 * (B : Int) < 4294967296 := by omega
  generalize ((X % 4294967296 : Nat) : Int) - 16843009 * (B : Int) = y at *
  generalize ((X / 4294967296 % 256 : Nat) : Int) - (B : Int) + 256 * (((X / 4294967296 / 256 : Nat) : Int) - 65793 * (B : Int) + 16777216 * (1 - (((18446744073709551616 - 72340172838076673 * B + X) / 18446744073709551616 : Nat) : Int))) = w at *
  omega
theorem own_lo4 (X B D : Nat) (hX : X < 18446744073709551616) (hB : B ≤ 128) (hD : D = (18446744073709551616 - 72340172838076673 * B + X) % 18446744073709551616) (hl : 16843009 * B ≤ X % 4294967296) (hb : B ≤ X / 4294967296 % 256) : D / 549755813888 % 2 = 1 → X / 549755813888 % 2 = 1 := by
  obtain ⟨z, hz⟩ := own_st4 X B D hX hB hD hl
  have e1 : D / 549755813888 = D / 4294967296 / 128 := (Nat.div_div_eq_div_mul D 4294967296 128).symm
  have e2 : X / 549755813888 = X / 4294967296 / 128 := (Nat.div_div_eq_div_mul X 4294967296 128).symm
  rw [e1, e2]
  generalize D / 4294967296 = d at *
  generalize X / 4294967296 = x at *
  clear hD hl hX
  omega
theorem own_hi4 (X B D : Nat) (hX : X < 18446744073709551616) (hB : B ≤ 128) (hD : D = (18446744073709551616 - 72340172838076673 * B + X) % 18446744073709551616) (hl : 16843009 * B ≤ X % 4294967296) (hb : X / 4294967296 % 256 < B) : D / 549755813888 % 2 = 1 ∧ X / 549755813888 % 2 = 0 := by
  obtain ⟨z, hz⟩ := own_st4 X B D hX hB hD hl
  have e1 : D / 549755813888 = D / 4294967296 / 128 := (Nat.div_div_eq_div_mul D 4294967296 128).symm
  have e2 : X / 549755813888 = X / 4294967296 / 128 := (Nat.div_div_eq_div_mul X 4294967296 128).symm
  rw [e1, e2]
  generalize D / 4294967296 = d at *
  generalize X / 4294967296 = x at *
  clear hD hl hX
  omega
theorem own_nb5 (X B : Nat) (hl : 4311810305 * B ≤ X % 1099511627776) (hb : B ≤ X / 1099511627776 % 256) : 1103823438081 * B ≤ X % 281474976710656 := by omega
theorem own_st5 (X B D : Nat) (hX : X < 18446744073709551616) (hB : B ≤ 128) (hD : D = (18446744073709551616 - 72340172838076673 * B + X) % 18446744073709551616) (hl : 4311810305 * B ≤ X % 1099511627776) : ∃ z : Int, ((D / 1099511627776 : Nat) : Int) = ((X / 1099511627776 % 256 : Nat) : Int) - (B : Int) + 256 * z := by
  refine ⟨((X / 1099511627776 / 256 : Nat) : Int) - 257 * (B : Int) + 65536 * (1 - (((18446744073709551616 - 72340172838076673 * B + X) / 18446744073709551616 : Nat) : Int)), ?_⟩
  have h1 : (D : Int) = (((X % 1099511627776 : Nat) : Int) - 4311810305 * (B : Int)) + 1099511627776 * (((X / 1099511627776 % 256 : Nat) : Int) - (B : Int) + 256 * (((X / 1099511627776 / 256 : Nat) : Int) - 257 * (B : Int) + 65536 * (1 - (((18446744073709551616 - 72340172838076673 * B + X) / 18446744073709551616 : Nat) : Int)))) := by omega
  have h2 : 0 ≤ ((X % 1099511627776 : Nat) : Int) - 4311810305 * (B : Int) ∧ ((X % 1099511627776 : Nat) : Int) - 4311810305 * (B : Int) < 1099511627776 := by omega
  generalize ((X % 1099511627776 : Nat) : Int) - 4311810305 * (B : Int) = y at *
  generalize ((X / 1099511627776 % 256 : Nat) : Int) - (B : Int) + 256 * (((X / 1099511627776 / 256 : Nat) : Int) - 257 * (B : Int) + 65536 * (1 - (((18446744073709551616 - 72340172838076673 * B + X) / 18446744073709551616 : Nat) : Int))) = w at *
  omega
theorem own_lo5 (X B D : Nat) (hX : X < 18446744073709551616) (hB : B ≤ 128) (hD : D = (18446744073709551616 - 72340172838076673 * B + X) % 18446744073709551616) (hl : 4311810305 * B ≤ X % 1099511627776) (hb : B ≤ X / 1099511627776 % 256) : D / 140737488355328 % 2 = 1 → X / 140737488355328 % 2 = 1 := by
  obtain ⟨z, hz⟩ := own_st5 X B D hX hB hD hl
  have e1 : D / 140737488355328 = D / 1099511627776 / 128 := (Nat.div_div_eq_div_mul D 1099511627776 128).symm
  have e2 : X / 140737488355328 = X / 1099511627776 / 128 := (Nat.div_div_eq_div_mul X 1099511627776 128).symm
  rw [e1, e2]
  generalize D / 1099511627776 = d at *
  generalize X / 1099511627776 = x at *
  clear hD hl hX
  omega
theorem own_hi5 (X B D : Nat) (hX : X < 18446744073709551616) (hB : B ≤ 128) (hD : D = (18446744073709551616 - 72340172838076673 * B + X) % 18446744073709551616) (hl : 4311810305 * B ≤ X % 1099511627776) (hb : X / 1099511627776 % 256 < B) : D / 140737488355328 % 2 = 1 ∧ X / 140737488355328 % 2 = 0 := by
  obtain ⟨z, hz⟩ := own_st5 X B D hX hB hD hl
  have e1 : D / 140737488355328 = D / 1099511627776 / 128 := (Nat.div_div_eq_div_mul D 1099511627776 128).symm
  have e2 : X / 140737488355328 = X / 1099511627776 / 128 := (Nat.div_div_eq_div_mul X 1099511627776 128).symm
  rw [e1, e2]
  generalize D / 1099511627776 = d at *
  generalize X / 1099511627776 = x at *
  clear hD hl hX
  omega
theorem own_nb6 (X B : Nat) (hl : 1103823438081 * B ≤ X % 281474976710656) (hb : B ≤ X / 281474976710656 % 256) : 282578800148737 * B ≤ X % 72057594037927936 := by omega
theorem own_st6 (X B D : Nat) (hX : X < 18446744073709551616) (hB : B ≤ 128) (hD : D = (18446744073709551616 - 72340172838076673 * B + X) % 18446744073709551616) (hl : 1103823438081 * B ≤ X % 281474976710656) : ∃ z : Int, ((D / 281474976710656 : Nat) : Int) = ((X / 281474976710656 % 256 : Nat) : Int) - (B : Int) + 256 * z := by
  refine ⟨((X / 281474976710656 / 256 : Nat) : Int) - 1 * (B : Int) + 256 * (1 - (((18446744073709551616 - 72340172838076673 * B + X) / 18446744073709551616 : Nat) : Int)), ?_⟩
  have h1 : (D : Int) = (((X % 281474976710656 : Nat) : Int) - 1103823438081 * (B : Int)) + 281474976710656 * (((X / 281474976710656 % 256 : Nat) : Int) - (B : Int) + 256 * (((X / 281474976710656 / 256 : Nat) : Int) - 1 * (B : Int) + 256 * (1 - (((18446744073709551616 - 72340172838076673 * B + X) / 18446744073709551616 : Nat) : Int)))) := by omega
  have h2 : 0 ≤ ((X % 281474976710656 : Nat) : Int) - 1103823438081 * (B : Int) ∧ ((X % 281474976710656 : Nat) : Int) - 1103823438081 * (B : Int) < 281474976710656 := by omega
  generalize ((X % 281474976710656 : Nat) : Int) - 1103823438081 * (B : Int) = y at *
  generalize ((X / 281474976710656 % 256 : Nat) : Int) - (B : Int) + 256 * (((X / 281474976710656 / 256 : Nat) : Int) - 1 * (B : Int) + 256 * (1 - (((18446744073709551616 - 72340172838076673 * B + X) / 18446744073709551616 : Nat) : Int))) = w at *
  omega
theorem own_lo6 (X B D : Nat) (hX : X < 18446744073709551616) (hB : B ≤ 128) (hD : D = (18446744073709551616 - 72340172838076673 * B + X) % 18446744073709551616) (hl : 1103823438081 * B ≤ X % 281474976710656) (hb : B ≤ X / 281474976710656 % 256) : D / 36028797018963968 % 2 = 1 → X / 36028797018963968 % 2 = 1 := by
  obtain ⟨z, hz⟩ := own_st6 X B D hX hB hD hl
  have e1 : D / 36028797018963968 = D / 281474976710656 / 128 := (Nat.div_div_eq_div_mul D 281474976710656 128).symm
  have e2 : X / 36028797018963968 = X / 281474976710656 / 128 := (Nat.div_div_eq_div_mul X 281474976710656 128).symm
  rw [e1, e2]
  generalize D / 281474976710656 = d at *
  generalize X / 281474976710656 = x at *
  clear hD hl hX
  omega
theorem own_hi6 (X B D : Nat) (hX : X < 18446744073709551616) (hB : B ≤ 128) (hD : D = (18446744073709551616 - 72340172838076673 * B + X) % 18446744073709551616) (hl : 1103823438081 * B ≤ X % 281474976710656) (hb : X / 281474976710656 % 256 < B) : D / 36028797018963968 % 2 = 1 ∧ X / 36028797018963968 % 2 = 0 := by
  obtain ⟨z, hz⟩ := own_st6 X B D hX hB hD hl
  have e1 : D / 36028797018963968 = D / 281474976710656 / 128 := (Nat.div_div_eq_div_mul D 281474976710656 128).symm
  have e2 : X / 36028797018963968 = X / 281474976710656 / 128 := (Nat.div_div_eq_div_mul X 281474976710656 128).symm
  rw [e1, e2]
  generalize D / 281474976710656 = d at *
  generalize X / 281474976710656 = x at *
  clear hD hl hX
  omega
theorem own_nb7 (X B : Nat) (hl : 282578800148737 * B ≤ X % 72057594037927936) (hb : B ≤ X / 72057594037927936 % 256) : 72340172838076673 * B ≤ X % 18446744073709551616 := by omega
theorem own_st7 (X B D : Nat) (hX : X < 18446744073709551616) (hB : B ≤ 128) (hD : D = (18446744073709551616 - 72340172838076673 * B + X) % 18446744073709551616) (hl : 282578800148737 * B ≤ X % 72057594037927936) : ∃ z : Int, ((D / 72057594037927936 : Nat) : Int) = ((X / 72057594037927936 % 256 : Nat) : Int) - (B : Int) + 256 * z := by
  refine ⟨((X / 72057594037927936 / 256 : Nat) : Int) - 0 * (B : Int) + 1 * (1 - (((18446744073709551616 - 72340172838076673 * B + X) / 18446744073709551616 : Nat) : Int)), ?_⟩
  have h1 : (D : Int) = (((X % 72057594037927936 : Nat) : Int) - 282578800148737 * (B : Int)) + 72057594037927936 * (((X / 72057594037927936 % 256 : Nat) : Int) - (B : Int) + 256 * (((X / 72057594037927936 / 256 : Nat) : Int) - 0 * (B : Int) + 1 * (1 - (((18446744073709551616 - 72340172838076673 * B + X) / 18446744073709551616 : Nat) : Int)))) := by omega
  have h2 : 0 ≤ ((X % 72057594037927936 : Nat) : Int) - 282578800148737 * (B : Int) ∧ ((X % 72057594037927936 : Nat) : Int) - 282578800148737 * (B : Int) < 72057594037927936 := by omega
  generalize ((X % 72057594037927936 : Nat) : Int) - 282578800148737 * (B : Int) = y at *
  generalize ((X / 72057594037927936 % 256 : Nat) : Int) - (B : Int) + 256 * (((X / 72057594037927936 / 256 : Nat) : Int) - 0 * (B : Int) + 1 * (1 - (((18446744073709551616 - 72340172838076673 * B + X) / 18446744073709551616 : Nat) : Int))) = w at *
  omega
theorem own_lo7 (X B D : Nat) (hX : X < 18446744073709551616) (hB : B ≤ 128) (hD : D = (18446744073709551616 - 72340172838076673 * B + X) % 18446744073709551616) (hl : 282578800148737 * B ≤ X % 72057594037927936) (hb : B ≤ X / 72057594037927936 % 256) : D / 9223372036854775808 % 2 = 1 → X / 9223372036854775808 % 2 = 1 := by
  obtain ⟨z, hz⟩ := own_st7 X B D hX hB hD hl
  have e1 : D / 9223372036854775808 = D / 72057594037927936 / 128 := (Nat.div_div_eq_div_mul D 72057594037927936 128).symm
  have e2 : X / 9223372036854775808 = X / 72057594037927936 / 128 := (Nat.div_div_eq_div_mul X 72057594037927936 128).symm
  rw [e1, e2]
  generalize D / 72057594037927936 = d at *
  generalize X / 72057594037927936 = x at *
  clear hD hl hX
  omega
theorem own_hi7 (X B D : Nat) (hX : X < 18446744073709551616) (hB : B ≤ 128) (hD : D = (18446744073709551616 - 72340172838076673 * B + X) % 18446744073709551616) (hl : 282578800148737 * B ≤ X % 72057594037927936) (hb : X / 72057594037927936 % 256 < B) : D / 9223372036854775808 % 2 = 1 ∧ X / 9223372036854775808 % 2 = 0 := by
  obtain ⟨z, hz⟩ := own_st7 X B D hX hB hD hl
  have e1 : D / 9223372036854775808 = D / 72057594037927936 / 128 := (Nat.div_div_eq_div_mul D 72057594037927936 128).symm
  have e2 : X / 9223372036854775808 = X / 72057594037927936 / 128 := (Nat.div_div_eq_div_mul X 72057594037927936 128).symm
  rw [e1, e2]
  generalize D / 72057594037927936 = d at *
  generalize X / 72057594037927936 = x at *
  clear hD hl hX
  omega
theorem own_no0 (X : BitVec 64) (B : Nat) (hB : B ≤ 128) (hl : 0 * B ≤ X.toNat % 1) (hb : B ≤ X.toNat / 1 % 256) : (own_M X B).getLsbD 7 = false := by
  rw [own_Mbit X B 7 (by decide), own_bit, own_bit, own_D X B hB]
  have h := own_lo0 X.toNat B _ X.isLt hB rfl hl hb
  by_cases q : (18446744073709551616 - 72340172838076673 * B + X.toNat) % 18446744073709551616 / 2 ^ 7 % 2 = 1
  · have r : X.toNat / 2 ^ 7 % 2 = 1 := h q
    simp [q, r]
  · simp [q]
theorem own_yes0 (X : BitVec 64) (B : Nat) (hB : B ≤ 128) (hl : 0 * B ≤ X.toNat % 1) (hb : X.toNat / 1 % 256 < B) : (own_M X B).getLsbD 7 = true := by
  rw [own_Mbit X B 7 (by decide), own_bit, own_bit, own_D X B hB]
  have h := own_hi0 X.toNat B _ X.isLt hB rfl hl hb
  have q : (18446744073709551616 - 72340172838076673 * B + X.toNat) % 18446744073709551616 / 2 ^ 7 % 2 = 1 := h.1
  have r : X.toNat / 2 ^ 7 % 2 = 0 := h.2
  simp [q, r]
theorem own_no1 (X : BitVec 64) (B : Nat) (hB : B ≤ 128) (hl : 1 * B ≤ X.toNat % 256) (hb : B ≤ X.toNat / 256 % 256) : (own_M X B).getLsbD 15 = false := by
  rw [own_Mbit X B 15 (by decide), own_bit, own_bit, own_D X B hB]
  have h := own_lo1 X.toNat B _ X.isLt hB rfl hl hb
  by_cases q : (18446744073709551616 - 72340172838076673 * B + X.toNat) % 18446744073709551616 / 2 ^ 15 % 2 = 1
  · have r : X.toNat / 2 ^ 15 % 2 = 1 := h q
    simp [q, r]
  · simp [q]
theorem own_yes1 (X : BitVec 64) (B : Nat) (hB : B ≤ 128) (hl : 1 * B ≤ X.toNat % 256) (hb : X.toNat / 256 % 256 < B) : (own_M X B).getLsbD 15 = true := by
  rw [own_Mbit X B 15 (by decide), own_bit, own_bit, own_D X B hB]
  have h := own_hi1 X.toNat B _ X.isLt hB rfl hl hb
  have q : (18446744073709551616 - 72340172838076673 * B + X.toNat) % 18446744073709551616 / 2 ^ 15 % 2 = 1 := h.1
  have r : X.toNat / 2 ^ 15 % 2 = 0 := h.2
  simp [q, r]
theorem own_no2 (X : BitVec 64) (B : Nat) (hB : B ≤ 128) (hl : 257 * B ≤ X.toNat % 65536) (hb : B ≤ X.toNat / 65536 % 256) : (own_M X B).getLsbD 23 = false := by
  rw [own_Mbit X B 23 (by decide), own_bit, own_bit, own_D X B hB]
  have h := own_lo2 X.toNat B _ X.isLt hB rfl hl hb
  by_cases q : (18446744073709551616 - 72340172838076673 * B + X.toNat) % 18446744073709551616 / 2 ^ 23 % 2 = 1
  · have r : X.toNat / 2 ^ 23 % 2 = 1 := h q
    simp [q, r]
  · simp [q]
theorem own_yes2 (X : BitVec 64) (B : Nat) (hB : B ≤ 128) (hl : 257 * B ≤ X.toNat % 65536) (hb : X.toNat / 65536 % 256 < B) : (own_M X B).getLsbD 23 = true := by
  rw [own_Mbit X B 23 (by decide), own_bit, own_bit, own_D X B hB]
  have h := own_hi2 X.toNat B _ X.isLt hB rfl hl hb
  have q : (18446744073709551616 - 72340172838076673 * B + X.toNat) % 18446744073709551616 / 2 ^ 23 % 2 = 1 := h.1
  have r : X.toNat / 2 ^ 23 % 2 = 0 := h.2
  simp [q, r]
theorem own_no3 (X : BitVec 64) (B : Nat) (hB : B ≤ 128) (hl : 65793 * B ≤ X.toNat % 16777216) (hb : B ≤ X.toNat / 16777216 % 256) : (own_M X B).getLsbD 31 = false := by
  rw [own_Mbit X B 31 (by decide), own_bit, own_bit, own_D X B hB]
  have h := own_lo3 X.toNat B _ X.isLt hB rfl hl hb
  by_cases q : (18446744073709551616 - 72340172838076673 * B + X.toNat) % 18446744073709551616 / 2 ^ 31 % 2 = 1
  · have r : X.toNat / 2 ^ 31 % 2 = 1 := h q
    simp [q, r]
  · simp [q]
theorem own_yes3 (X : BitVec 64) (B : Nat) (hB : B ≤ 128) (hl : 65793 * B ≤ X.toNat % 16777216) (hb : X.toNat / 16777216 % 256 < B) : (own_M X B).getLsbD 31 = true := by
  rw [own_Mbit X B 31 (by decide), own_bit, own_bit, own_D X B hB]
  have h := own_hi3 X.toNat B _ X.isLt hB rfl hl hb
  have q : (18446744073709551616 - 72340172838076673 * B + X.toNat) % 18446744073709551616 / 2 ^ 31 % 2 = 1 := h.1
  have r : X.toNat / 2 ^ 31 % 2 = 0 := h.2
  simp [q, r]
theorem own_no4 (X : BitVec 64) (B : Nat) (hB : B ≤ 128) (hl : 16843009 * B ≤ X.toNat % 4294967296) (hb : B ≤ X.toNat / 4294967296 % 256) : (own_M X B).getLsbD 39 = false := by
  rw [own_Mbit X B 39 (by decide), own_bit, own_bit, own_D X B hB]
  have h := own_lo4 X.toNat B _ X.isLt hB rfl hl hb
  by_cases q : (18446744073709551616 - 72340172838076673 * B + X.toNat) % 18446744073709551616 / 2 ^ 39 % 2 = 1
  · have r : X.toNat / 2 ^ 39 % 2 = 1 := h q
    simp [q, r]
  · simp [q]
theorem own_yes4 (X : BitVec 64) (B : Nat) (hB : B ≤ 128) (hl : 16843009 * B ≤ X.toNat % 4294967296) (hb : X.toNat / 4294967296 % 256 < B) : (own_M X B).getLsbD 39 = true := by
  rw [own_Mbit X B 39 (by decide), own_bit, own_bit, own_D X B hB]
  have h := own_hi4 X.toNat B _ X.isLt hB rfl hl hb
  have q : (18446744073709551616 - 72340172838076673 * B + X.toNat) % 18446744073709551616 / 2 ^ 39 % 2 = 1 := h.1
  have r : X.toNat / 2 ^ 39 % 2 = 0 := h.2
  simp [q, r]
theorem own_no5 (X : BitVec 64) (B : Nat) (hB : B ≤ 128) (hl : 4311810305 * B ≤ X.toNat % 1099511627776) (hb : B ≤ X.toNat / 1099511627776 % 256) : (own_M X B).getLsbD 47 = false := by
  rw [own_Mbit X B 47 (by decide), own_bit, own_bit, own_D X B hB]
  have h := own_lo5 X.toNat B _ X.isLt hB rfl hl hb
  by_cases q : (18446744073709551616 - 72340172838076673 * B + X.toNat) % 18446744073709551616 / 2 ^ 47 % 2 = 1
  · have r : X.toNat / 2 ^ 47 % 2 = 1 := h q
    simp [q, r]
  · simp [q]
theorem own_yes5 (X : BitVec 64) (B : Nat) (hB : B ≤ 128) (hl : 4311810305 * B ≤ X.toNat % 1099511627776) (hb : X.toNat / 1099511627776 % 256 < B) : (own_M X B).getLsbD 47 = true := by
  rw [own_Mbit X B 47 (by decide), own_bit, own_bit, own_D X B hB]
  have h := own_hi5 X.toNat B _ X.isLt hB rfl hl hb
  have q : (18446744073709551616 - 72340172838076673 * B + X.toNat) % 18446744073709551616 / 2 ^ 47 % 2 = 1 := h.1
  have r : X.toNat / 2 ^ 47 % 2 = 0 := h.2
  simp [q, r]
theorem own_no6 (X : BitVec 64) (B : Nat) (hB : B ≤ 128) (hl : 1103823438081 * B ≤ X.toNat % 281474976710656) (hb : B ≤ X.toNat / 281474976710656 % 256) : (own_M X B).getLsbD 55 = false := by
  rw [own_Mbit X B 55 (by decide), own_bit, own_bit, own_D X B hB]
  have h := own_lo6 X.toNat B _ X.isLt hB rfl hl hb
  by_cases q : (18446744073709551616 - 72340172838076673 * B + X.toNat) % 18446744073709551616 / 2 ^ 55 % 2 = 1
  · have r : X.toNat / 2 ^ 55 % 2 = 1 := h q
    simp [q, r]
  · simp [q]
theorem own_yes6 (X : BitVec 64) (B : Nat) (hB : B ≤ 128) (hl : 1103823438081 * B ≤ X.toNat % 281474976710656) (hb : X.toNat / 281474976710656 % 256 < B) : (own_M X B).getLsbD 55 = true := by
  rw [own_Mbit X B 55 (by decide), own_bit, own_bit, own_D X B hB]
  have h := own_hi6 X.toNat B _ X.isLt hB rfl hl hb
  have q : (18446744073709551616 - 72340172838076673 * B + X.toNat) % 18446744073709551616 / 2 ^ 55 % 2 = 1 := h.1
  have r : X.toNat / 2 ^ 55 % 2 = 0 := h.2
  simp [q, r]
theorem own_no7 (X : BitVec 64) (B : Nat) (hB : B ≤ 128) (hl : 282578800148737 * B ≤ X.toNat % 72057594037927936) (hb : B ≤ X.toNat / 72057594037927936 % 256) : (own_M X B).getLsbD 63 = false := by
  rw [own_Mbit X B 63 (by decide), own_bit, own_bit, own_D X B hB]
  have h := own_lo7 X.toNat B _ X.isLt hB rfl hl hb
  by_cases q : (18446744073709551616 - 72340172838076673 * B + X.toNat) % 18446744073709551616 / 2 ^ 63 % 2 = 1
  · have r : X.toNat / 2 ^ 63 % 2 = 1 := h q
    simp [q, r]
  · simp [q]
theorem own_yes7 (X : BitVec 64) (B : Nat) (hB : B ≤ 128) (hl : 282578800148737 * B ≤ X.toNat % 72057594037927936) (hb : X.toNat / 72057594037927936 % 256 < B) : (own_M X B).getLsbD 63 = true := by
  rw [own_Mbit X B 63 (by decide), own_bit, own_bit, own_D X B hB]
  have h := own_hi7 X.toNat B _ X.isLt hB rfl hl hb
  have q : (18446744073709551616 - 72340172838076673 * B + X.toNat) % 18446744073709551616 / 2 ^ 63 % 2 = 1 := h.1
  have r : X.toNat / 2 ^ 63 % 2 = 0 := h.2
  simp [q, r]
theorem own_off (X : BitVec 64) (B t : Nat) (ht : t < 64) (h : ¬ t % 8 = 7) : (own_M X B).getLsbD t = false := by
  rw [own_Mbit X B t ht]; simp [h]
theorem own_first0 (X : BitVec 64) (B : Nat) (hB : B ≤ 128) (g : X.toNat / 1 % 256 < B) : (own_M X B).getLsbD 7 = true ∧ ∀ t, t < 7 → (own_M X B).getLsbD t = false := by
  have l0 : 0 * B ≤ X.toNat % 1 := by omega
  refine ⟨own_yes0 X B hB l0 g, fun t ht => ?_⟩
  by_cases q : t % 8 = 7
  · omega
  · exact own_off X B t (by omega) q
theorem own_first1 (X : BitVec 64) (B : Nat) (hB : B ≤ 128) (h0 : B ≤ X.toNat / 1 % 256) (g : X.toNat / 256 % 256 < B) : (own_M X B).getLsbD 15 = true ∧ ∀ t, t < 15 → (own_M X B).getLsbD t = false := by
  have l0 : 0 * B ≤ X.toNat % 1 := by omega
  have l1 := own_nb0 _ _ l0 h0
  have n0 := own_no0 X B hB l0 h0
  refine ⟨own_yes1 X B hB l1 g, fun t ht => ?_⟩
  by_cases q : t % 8 = 7
  · obtain rfl : t = 7 := by omega
    · exact n0
  · exact own_off X B t (by omega) q
theorem own_first2 (X : BitVec 64) (B : Nat) (hB : B ≤ 128) (h0 : B ≤ X.toNat / 1 % 256) (h1 : B ≤ X.toNat / 256 % 256) (g : X.toNat / 65536 % 256 < B) : (own_M X B).getLsbD 23 = true ∧ ∀ t, t < 23 → (own_M X B).getLsbD t = false := by
  have l0 : 0 * B ≤ X.toNat % 1 := by omega
  have l1 := own_nb0 _ _ l0 h0
  have n0 := own_no0 X B hB l0 h0
  have l2 := own_nb1 _ _ l1 h1
  have n1 := own_no1 X B hB l1 h1
  refine ⟨own_yes2 X B hB l2 g, fun t ht => ?_⟩
  by_cases q : t % 8 = 7
  · obtain rfl | rfl : t = 7 ∨ t = 15 := by omega
    · exact n0
    · exact n1
  · exact own_off X B t (by omega) q
theorem own_first3 (X : BitVec 64) (B : Nat) (hB : B ≤ 128) (h0 : B ≤ X.toNat / 1 % 256) (h1 : B ≤ X.toNat / 256 % 256) (h2 : B ≤ X.toNat / 65536 % 256) (g : X.toNat / 16777216 % 256 < B) : (own_M X B).getLsbD 31 = true ∧ ∀ t, t < 31 → (own_M X B).getLsbD t = false := by
  have l0 : 0 * B ≤ X.toNat % 1 := by omega
  have l1 := own_nb0 _ _ l0 h0
  have n0 := own_no0 X B hB l0 h0
  have l2 := own_nb1 _ _ l1 h1
  have n1 := own_no1 X B hB l1 h1
  have l3 := own_nb2 _ _ l2 h2
  have n2 := own_no2 X B hB l2 h2
  refine ⟨own_yes3 X B hB l3 g, fun t ht => ?_⟩
  by_cases q : t % 8 = 7
  · obtain rfl | rfl | rfl : t = 7 ∨ t = 15 ∨ t = 23 := by omega
    · exact n0
    · exact n1
    · exact n2
  · exact own_off X B t (by omega) q
theorem own_first4 (X : BitVec 64) (B : Nat) (hB : B ≤ 128) (h0 : B ≤ X.toNat / 1 % 256) (h1 : B ≤ X.toNat / 256 % 256) (h2 : B ≤ X.toNat / 65536 % 256) (h3 : B ≤ X.toNat / 16777216 % 256) (g : X.toNat / 4294967296 % 256 < B) : (own_M X B).getLsbD 39 = true ∧ ∀ t, t < 39 → (own_M X B).getLsbD t = false := by
  have l0 : 0 * B ≤ X.toNat % 1 := by omega
  have l1 := own_nb0 _ _ l0 h0
  have n0 := own_no0 X B hB l0 h0
  have l2 := own_nb1 _ _ l1 h1
  have n1 := own_no1 X B hB l1 h1
  have l3 := own_nb2 _ _ l2 h2
  have n2 := own_no2 X B hB l2 h2
  have l4 := own_nb3 _ _ l3 h3
  have n3 := own_no3 X B hB l3 h3
  refine ⟨own_yes4 X B hB l4 g, fun t ht => ?_⟩
  by_cases q : t % 8 = 7
  · obtain rfl | rfl | rfl | rfl : t = 7 ∨ t = 15 ∨ t = 23 ∨ t = 31 := by omega
    · exact n0
    · exact n1
    · exact n2
    · exact n3
  · exact own_off X B t (by omega) q
theorem own_first5 (X : BitVec 64) (B : Nat) (hB : B ≤ 128) (h0 : B ≤ X.toNat / 1 % 256) (h1 : B ≤ X.toNat / 256 % 256) (h2 : B ≤ X.toNat / 65536 % 256) (h3 : B ≤ X.toNat / 16777216 % 256) (h4 : B ≤ X.toNat / 4294967296 % 256) (g : X.toNat / 1099511627776 % 256 < B) : (own_M X B).getLsbD 47 = true ∧ ∀ t, t < 47 → (own_M X B).getLsbD t = false := by
  have l0 : 0 * B ≤ X.toNat % 1 := by omega
  have l1 := own_nb0 _ _ l0 h0
  have n0 := own_no0 X B hB l0 h0
  have l2 := own_nb1 _ _ l1 h1
  have n1 := own_no1 X B hB l1 h1
  have l3 := own_nb2 _ _ l2 h2
  have n2 := own_no2 X B hB l2 h2
  have l4 := own_nb3 _ _ l3 h3
  have n3 := own_no3 X B hB l3 h3
  have l5 := own_nb4 _ _ l4 h4
  have n4 := own_no4 X B hB l4 h4
  refine ⟨own_yes5 X B hB l5 g, fun t ht => ?_⟩
  by_cases q : t % 8 = 7
  · obtain rfl | rfl | rfl | rfl | rfl : t = 7 ∨ t = 15 ∨ t = 23 ∨ t = 31 ∨ t = 39 := by omega
    · exact n0
    · exact n1
    · exact n2
    · exact n3
    · exact n4
  · exact own_off X B t (by omega) q
theorem own_first6 (X : BitVec 64) (B : Nat) (hB : B ≤ 128) (h0 : B ≤ X.toNat / 1 % 256) (h1 : B ≤ X.toNat / 256 % 256) (h2 : B ≤ X.toNat / 65536 % 256) (h3 : B ≤ X.toNat / 16777216 % 256) (h4 : B ≤ X.toNat / 4294967296 % 256) (h5 : B ≤ X.toNat / 1099511627776 % 256) (g : X.toNat / 281474976710656 % 256 < B) : (own_M X B).getLsbD 55 = true ∧ ∀ t, t < 55 → (own_M X B).getLsbD t = false := by
  have l0 : 0 * B ≤ X.toNat % 1 := by omega
  have l1 := own_nb0 _ _ l0 h0
  have n0 := own_no0 X B hB l0 h0
  have l2 := own_nb1 _ _ l1 h1
  have n1 := own_no1 X B hB l1 h1
  have l3 := own_nb2 _ _ l2 h2
  have n2 := own_no2 X B hB l2 h2
  have l4 := own_nb3 _ _ l3 h3
  have n3 := own_no3 X B hB l3 h3
  have l5 := own_nb4 _ _ l4 h4
  have n4 := own_no4 X B hB l4 h4
  have l6 := own_nb5 _ _ l5 h5
  have n5 := own_no5 X B hB l5 h5
  refine ⟨own_yes6 X B hB l6 g, fun t ht => ?_⟩
  by_cases q : t % 8 = 7
  · obtain rfl | rfl | rfl | rfl | rfl | rfl : t = 7 ∨ t = 15 ∨ t = 23 ∨ t = 31 ∨ t = 39 ∨ t = 47 := by omega
    · exact n0
    · exact n1
    · exact n2
    · exact n3
    · exact n4
    · exact n5
  · exact own_off X B t (by omega) q
theorem own_first7 (X : BitVec 64) (B : Nat) (hB : B ≤ 128) (h0 : B ≤ X.toNat / 1 % 256) (h1 : B ≤ X.toNat / 256 % 256) (h2 : B ≤ X.toNat / 65536 % 256) (h3 : B ≤ X.toNat / 16777216 % 256) (h4 : B ≤ X.toNat / 4294967296 % 256) (h5 : B ≤ X.toNat / 1099511627776 % 256) (h6 : B ≤ X.toNat / 281474976710656 % 256) (g : X.toNat / 72057594037927936 % 256 < B) : (own_M X B).getLsbD 63 = true ∧ ∀ t, t < 63 → (own_M X B).getLsbD t = false := by
  have l0 : 0 * B ≤ X.toNat % 1 := by omega
  have l1 := own_nb0 _ _ l0 h0
  have n0 := own_no0 X B hB l0 h0
  have l2 := own_nb1 _ _ l1 h1
  have n1 := own_no1 X B hB l1 h1
  have l3 := own_nb2 _ _ l2 h2
  have n2 := own_no2 X B hB l2 h2
  have l4 := own_nb3 _ _ l3 h3
  have n3 := own_no3 X B hB l3 h3
  have l5 := own_nb4 _ _ l4 h4
  have n4 := own_no4 X B hB l4 h4
  have l6 := own_nb5 _ _ l5 h5
  have n5 := own_no5 X B hB l5 h5
  have l7 := own_nb6 _ _ l6 h6
  have n6 := own_no6 X B hB l6 h6
  refine ⟨own_yes7 X B hB l7 g, fun t ht => ?_⟩
  by_cases q : t % 8 = 7
  · obtain rfl | rfl | rfl | rfl | rfl | rfl | rfl : t = 7 ∨ t = 15 ∨ t = 23 ∨ t = 31 ∨ t = 39 ∨ t = 47 ∨ t = 55 := by omega
    · exact n0
    · exact n1
    · exact n2
    · exact n3
    · exact n4
    · exact n5
    · exact n6
  · exact own_off X B t (by omega) q
theorem own_none (X : BitVec 64) (B : Nat) (hB : B ≤ 128) (h0 : B ≤ X.toNat / 1 % 256) (h1 : B ≤ X.toNat / 256 % 256) (h2 : B ≤ X.toNat / 65536 % 256) (h3 : B ≤ X.toNat / 16777216 % 256) (h4 : B ≤ X.toNat / 4294967296 % 256) (h5 : B ≤ X.toNat / 1099511627776 % 256) (h6 : B ≤ X.toNat / 281474976710656 % 256) (h7 : B ≤ X.toNat / 72057594037927936 % 256) : own_M X B = 0#64 := by
  have l0 : 0 * B ≤ X.toNat % 1 := by omega
  have l1 := own_nb0 _ _ l0 h0
  have n0 := own_no0 X B hB l0 h0
  have l2 := own_nb1 _ _ l1 h1
  have n1 := own_no1 X B hB l1 h1
  have l3 := own_nb2 _ _ l2 h2
  have n2 := own_no2 X B hB l2 h2
  have l4 := own_nb3 _ _ l3 h3
  have n3 := own_no3 X B hB l3 h3
  have l5 := own_nb4 _ _ l4 h4
  have n4 := own_no4 X B hB l4 h4
  have l6 := own_nb5 _ _ l5 h5
  have n5 := own_no5 X B hB l5 h5
  have l7 := own_nb6 _ _ l6 h6
  have n6 := own_no6 X B hB l6 h6
  have l8 := own_nb7 _ _ l7 h7
  have n7 := own_no7 X B hB l7 h7
  apply BitVec.eq_of_getLsbD_eq
  intro t ht
  rw [BitVec.getLsbD_zero]
  by_cases q : t % 8 = 7
  · obtain rfl | rfl | rfl | rfl | rfl | rfl | rfl | rfl : t = 7 ∨ t = 15 ∨ t = 23 ∨ t = 31 ∨ t = 39 ∨ t = 47 ∨ t = 55 ∨ t = 63 := by omega
    · exact n0
    · exact n1
    · exact n2
    · exact n3
    · exact n4
    · exact n5
    · exact n6
    · exact n7
  · exact own_off X B t ht q
theorem own_byte0 (w : Int64) : (f3 w 0).toInt = ((w.toBitVec.toNat / 1 % 256 : Nat) : Int) := by
  have e : ((w.toUInt64 >>> (((8 : Int32) * (0 : Int32)) &&& 0x3f).toInt64.toUInt64).toInt64 &&& (255 : Int64)).toBitVec = (w.toBitVec >>> 0) &&& 255#64 := rfl
  have t : (255#64).toNat = 2 ^ 8 - 1 := rfl
  have hs : ((w.toUInt64 >>> (((8 : Int32) * (0 : Int32)) &&& 0x3f).toInt64.toUInt64).toInt64 &&& (255 : Int64)).toBitVec.toNat = w.toBitVec.toNat / 2 ^ 0 % 2 ^ 8 := by
    rw [e, BitVec.toNat_and, BitVec.toNat_ushiftRight, Nat.shiftRight_eq_div_pow, t, Nat.and_two_pow_sub_one_eq_mod]
  have hi : ((w.toUInt64 >>> (((8 : Int32) * (0 : Int32)) &&& 0x3f).toInt64.toUInt64).toInt64 &&& (255 : Int64)).toInt = ((w.toBitVec.toNat / 1 % 256 : Nat) : Int) := by
    have h0 := BitVec.toInt_eq_toNat_cond ((w.toUInt64 >>> (((8 : Int32) * (0 : Int32)) &&& 0x3f).toInt64.toUInt64).toInt64 &&& (255 : Int64)).toBitVec
    rw [hs] at h0
    refine Eq.trans (show _ = BitVec.toInt _ from rfl) (h0.trans ?_)
    have hlt : w.toBitVec.toNat / 2 ^ 0 % 2 ^ 8 < 256 := Nat.mod_lt _ (by decide)
    rw [if_pos (by omega)]
  unfold f3
  rw [XT.narrowInt ⟨by rw [hi]; omega, by rw [hi]; omega⟩, hi]
theorem own_byte1 (w : Int64) : (f3 w 1).toInt = ((w.toBitVec.toNat / 256 % 256 : Nat) : Int) := by
  have e : ((w.toUInt64 >>> (((8 : Int32) * (1 : Int32)) &&& 0x3f).toInt64.toUInt64).toInt64 &&& (255 : Int64)).toBitVec = (w.toBitVec >>> 8) &&& 255#64 := rfl
  have t : (255#64).toNat = 2 ^ 8 - 1 := rfl
  have hs : ((w.toUInt64 >>> (((8 : Int32) * (1 : Int32)) &&& 0x3f).toInt64.toUInt64).toInt64 &&& (255 : Int64)).toBitVec.toNat = w.toBitVec.toNat / 2 ^ 8 % 2 ^ 8 := by
    rw [e, BitVec.toNat_and, BitVec.toNat_ushiftRight, Nat.shiftRight_eq_div_pow, t, Nat.and_two_pow_sub_one_eq_mod]
  have hi : ((w.toUInt64 >>> (((8 : Int32) * (1 : Int32)) &&& 0x3f).toInt64.toUInt64).toInt64 &&& (255 : Int64)).toInt = ((w.toBitVec.toNat / 256 % 256 : Nat) : Int) := by
    have h0 := BitVec.toInt_eq_toNat_cond ((w.toUInt64 >>> (((8 : Int32) * (1 : Int32)) &&& 0x3f).toInt64.toUInt64).toInt64 &&& (255 : Int64)).toBitVec
    rw [hs] at h0
    refine Eq.trans (show _ = BitVec.toInt _ from rfl) (h0.trans ?_)
    have hlt : w.toBitVec.toNat / 2 ^ 8 % 2 ^ 8 < 256 := Nat.mod_lt _ (by decide)
    rw [if_pos (by omega)]
  unfold f3
  rw [XT.narrowInt ⟨by rw [hi]; omega, by rw [hi]; omega⟩, hi]
theorem own_byte2 (w : Int64) : (f3 w 2).toInt = ((w.toBitVec.toNat / 65536 % 256 : Nat) : Int) := by
  have e : ((w.toUInt64 >>> (((8 : Int32) * (2 : Int32)) &&& 0x3f).toInt64.toUInt64).toInt64 &&& (255 : Int64)).toBitVec = (w.toBitVec >>> 16) &&& 255#64 := rfl
  have t : (255#64).toNat = 2 ^ 8 - 1 := rfl
  have hs : ((w.toUInt64 >>> (((8 : Int32) * (2 : Int32)) &&& 0x3f).toInt64.toUInt64).toInt64 &&& (255 : Int64)).toBitVec.toNat = w.toBitVec.toNat / 2 ^ 16 % 2 ^ 8 := by
    rw [e, BitVec.toNat_and, BitVec.toNat_ushiftRight, Nat.shiftRight_eq_div_pow, t, Nat.and_two_pow_sub_one_eq_mod]
  have hi : ((w.toUInt64 >>> (((8 : Int32) * (2 : Int32)) &&& 0x3f).toInt64.toUInt64).toInt64 &&& (255 : Int64)).toInt = ((w.toBitVec.toNat / 65536 % 256 : Nat) : Int) := by
    have h0 := BitVec.toInt_eq_toNat_cond ((w.toUInt64 >>> (((8 : Int32) * (2 : Int32)) &&& 0x3f).toInt64.toUInt64).toInt64 &&& (255 : Int64)).toBitVec
    rw [hs] at h0
    refine Eq.trans (show _ = BitVec.toInt _ from rfl) (h0.trans ?_)
    have hlt : w.toBitVec.toNat / 2 ^ 16 % 2 ^ 8 < 256 := Nat.mod_lt _ (by decide)
    rw [if_pos (by omega)]
  unfold f3
  rw [XT.narrowInt ⟨by rw [hi]; omega, by rw [hi]; omega⟩, hi]
theorem own_byte3 (w : Int64) : (f3 w 3).toInt = ((w.toBitVec.toNat / 16777216 % 256 : Nat) : Int) := by
  have e : ((w.toUInt64 >>> (((8 : Int32) * (3 : Int32)) &&& 0x3f).toInt64.toUInt64).toInt64 &&& (255 : Int64)).toBitVec = (w.toBitVec >>> 24) &&& 255#64 := rfl
  have t : (255#64).toNat = 2 ^ 8 - 1 := rfl
  have hs : ((w.toUInt64 >>> (((8 : Int32) * (3 : Int32)) &&& 0x3f).toInt64.toUInt64).toInt64 &&& (255 : Int64)).toBitVec.toNat = w.toBitVec.toNat / 2 ^ 24 % 2 ^ 8 := by
    rw [e, BitVec.toNat_and, BitVec.toNat_ushiftRight, Nat.shiftRight_eq_div_pow, t, Nat.and_two_pow_sub_one_eq_mod]
  have hi : ((w.toUInt64 >>> (((8 : Int32) * (3 : Int32)) &&& 0x3f).toInt64.toUInt64).toInt64 &&& (255 : Int64)).toInt = ((w.toBitVec.toNat / 16777216 % 256 : Nat) : Int) := by
    have h0 := BitVec.toInt_eq_toNat_cond ((w.toUInt64 >>> (((8 : Int32) * (3 : Int32)) &&& 0x3f).toInt64.toUInt64).toInt64 &&& (255 : Int64)).toBitVec
    rw [hs] at h0
    refine Eq.trans (show _ = BitVec.toInt _ from rfl) (h0.trans ?_)
    have hlt : w.toBitVec.toNat / 2 ^ 24 % 2 ^ 8 < 256 := Nat.mod_lt _ (by decide)
    rw [if_pos (by omega)]
  unfold f3
  rw [XT.narrowInt ⟨by rw [hi]; omega, by rw [hi]; omega⟩, hi]
theorem own_byte4 (w : Int64) : (f3 w 4).toInt = ((w.toBitVec.toNat / 4294967296 % 256 : Nat) : Int) := by
  have e : ((w.toUInt64 >>> (((8 : Int32) * (4 : Int32)) &&& 0x3f).toInt64.toUInt64).toInt64 &&& (255 : Int64)).toBitVec = (w.toBitVec >>> 32) &&& 255#64 := rfl
  have t : (255#64).toNat = 2 ^ 8 - 1 := rfl
  have hs : ((w.toUInt64 >>> (((8 : Int32) * (4 : Int32)) &&& 0x3f).toInt64.toUInt64).toInt64 &&& (255 : Int64)).toBitVec.toNat = w.toBitVec.toNat / 2 ^ 32 % 2 ^ 8 := by
    rw [e, BitVec.toNat_and, BitVec.toNat_ushiftRight, Nat.shiftRight_eq_div_pow, t, Nat.and_two_pow_sub_one_eq_mod]
  have hi : ((w.toUInt64 >>> (((8 : Int32) * (4 : Int32)) &&& 0x3f).toInt64.toUInt64).toInt64 &&& (255 : Int64)).toInt = ((w.toBitVec.toNat / 4294967296 % 256 : Nat) : Int) := by
    have h0 := BitVec.toInt_eq_toNat_cond ((w.toUInt64 >>> (((8 : Int32) * (4 : Int32)) &&& 0x3f).toInt64.toUInt64).toInt64 &&& (255 : Int64)).toBitVec
    rw [hs] at h0
    refine Eq.trans (show _ = BitVec.toInt _ from rfl) (h0.trans ?_)
    have hlt : w.toBitVec.toNat / 2 ^ 32 % 2 ^ 8 < 256 := Nat.mod_lt _ (by decide)
    rw [if_pos (by omega)]
  unfold f3
  rw [XT.narrowInt ⟨by rw [hi]; omega, by rw [hi]; omega⟩, hi]
theorem own_byte5 (w : Int64) : (f3 w 5).toInt = ((w.toBitVec.toNat / 1099511627776 % 256 : Nat) : Int) := by
  have e : ((w.toUInt64 >>> (((8 : Int32) * (5 : Int32)) &&& 0x3f).toInt64.toUInt64).toInt64 &&& (255 : Int64)).toBitVec = (w.toBitVec >>> 40) &&& 255#64 := rfl
  have t : (255#64).toNat = 2 ^ 8 - 1 := rfl
  have hs : ((w.toUInt64 >>> (((8 : Int32) * (5 : Int32)) &&& 0x3f).toInt64.toUInt64).toInt64 &&& (255 : Int64)).toBitVec.toNat = w.toBitVec.toNat / 2 ^ 40 % 2 ^ 8 := by
    rw [e, BitVec.toNat_and, BitVec.toNat_ushiftRight, Nat.shiftRight_eq_div_pow, t, Nat.and_two_pow_sub_one_eq_mod]
  have hi : ((w.toUInt64 >>> (((8 : Int32) * (5 : Int32)) &&& 0x3f).toInt64.toUInt64).toInt64 &&& (255 : Int64)).toInt = ((w.toBitVec.toNat / 1099511627776 % 256 : Nat) : Int) := by
    have h0 := BitVec.toInt_eq_toNat_cond ((w.toUInt64 >>> (((8 : Int32) * (5 : Int32)) &&& 0x3f).toInt64.toUInt64).toInt64 &&& (255 : Int64)).toBitVec
    rw [hs] at h0
    refine Eq.trans (show _ = BitVec.toInt _ from rfl) (h0.trans ?_)
    have hlt : w.toBitVec.toNat / 2 ^ 40 % 2 ^ 8 < 256 := Nat.mod_lt _ (by decide)
    rw [if_pos (by omega)]
  unfold f3
  rw [XT.narrowInt ⟨by rw [hi]; omega, by rw [hi]; omega⟩, hi]
theorem own_byte6 (w : Int64) : (f3 w 6).toInt = ((w.toBitVec.toNat / 281474976710656 % 256 : Nat) : Int) := by
  have e : ((w.toUInt64 >>> (((8 : Int32) * (6 : Int32)) &&& 0x3f).toInt64.toUInt64).toInt64 &&& (255 : Int64)).toBitVec = (w.toBitVec >>> 48) &&& 255#64 := rfl
  have t : (255#64).toNat = 2 ^ 8 - 1 := rfl
  have hs : ((w.toUInt64 >>> (((8 : Int32) * (6 : Int32)) &&& 0x3f).toInt64.toUInt64).toInt64 &&& (255 : Int64)).toBitVec.toNat = w.toBitVec.toNat / 2 ^ 48 % 2 ^ 8 := by
    rw [e, BitVec.toNat_and, BitVec.toNat_ushiftRight, Nat.shiftRight_eq_div_pow, t, Nat.and_two_pow_sub_one_eq_mod]
  have hi : ((w.toUInt64 >>> (((8 : Int32) * (6 : Int32)) &&& 0x3f).toInt64.toUInt64).toInt64 &&& (255 : Int64)).toInt = ((w.toBitVec.toNat / 281474976710656 % 256 : Nat) : Int) := by
    have h0 := BitVec.toInt_eq_toNat_cond ((w.toUInt64 >>> (((8 : Int32) * (6 : Int32)) &&& 0x3f).toInt64.toUInt64).toInt64 &&& (255 : Int64)).toBitVec
    rw [hs] at h0
    refine Eq.trans (show _ = BitVec.toInt _ from rfl) (h0.trans ?_)
    have hlt : w.toBitVec.toNat / 2 ^ 48 % 2 ^ 8 < 256 := Nat.mod_lt _ (by decide)
    rw [if_pos (by omega)]
  unfold f3
  rw [XT.narrowInt ⟨by rw [hi]; omega, by rw [hi]; omega⟩, hi]
theorem own_byte7 (w : Int64) : (f3 w 7).toInt = ((w.toBitVec.toNat / 72057594037927936 % 256 : Nat) : Int) := by
  have e : ((w.toUInt64 >>> (((8 : Int32) * (7 : Int32)) &&& 0x3f).toInt64.toUInt64).toInt64 &&& (255 : Int64)).toBitVec = (w.toBitVec >>> 56) &&& 255#64 := rfl
  have t : (255#64).toNat = 2 ^ 8 - 1 := rfl
  have hs : ((w.toUInt64 >>> (((8 : Int32) * (7 : Int32)) &&& 0x3f).toInt64.toUInt64).toInt64 &&& (255 : Int64)).toBitVec.toNat = w.toBitVec.toNat / 2 ^ 56 % 2 ^ 8 := by
    rw [e, BitVec.toNat_and, BitVec.toNat_ushiftRight, Nat.shiftRight_eq_div_pow, t, Nat.and_two_pow_sub_one_eq_mod]
  have hi : ((w.toUInt64 >>> (((8 : Int32) * (7 : Int32)) &&& 0x3f).toInt64.toUInt64).toInt64 &&& (255 : Int64)).toInt = ((w.toBitVec.toNat / 72057594037927936 % 256 : Nat) : Int) := by
    have h0 := BitVec.toInt_eq_toNat_cond ((w.toUInt64 >>> (((8 : Int32) * (7 : Int32)) &&& 0x3f).toInt64.toUInt64).toInt64 &&& (255 : Int64)).toBitVec
    rw [hs] at h0
    refine Eq.trans (show _ = BitVec.toInt _ from rfl) (h0.trans ?_)
    have hlt : w.toBitVec.toNat / 2 ^ 56 % 2 ^ 8 < 256 := Nat.mod_lt _ (by decide)
    rw [if_pos (by omega)]
  unfold f3
  rw [XT.narrowInt ⟨by rw [hi]; omega, by rw [hi]; omega⟩, hi]
theorem own_f1 (w : Int64) (B : Int32) (h0 : 0 ≤ B.toInt) (h1 : B.toInt ≤ 128) : (f1 w B).toBitVec = own_M w.toBitVec B.toInt.toNat := by
  have e1 : (f1 w B).toBitVec = (w.toBitVec - 72340172838076673#64 * B.toInt64.toBitVec) &&& (w.toBitVec ^^^ BitVec.allOnes 64) &&& 9259542123273814144#64 := rfl
  have e2 : B.toInt64.toBitVec = BitVec.ofNat 64 B.toInt.toNat := by
    apply BitVec.eq_of_toInt_eq
    have q1 : B.toInt64.toBitVec.toInt = B.toInt := c_i2l B
    rw [q1, BitVec.toInt_eq_toNat_cond, BitVec.toNat_ofNat, Nat.mod_eq_of_lt (by omega)]
    split <;> omega
  rw [e1, e2, BitVec.xor_allOnes]
  unfold own_M
  rw [BitVec.ofNat_mul]
theorem own_lt {x B : Int32} {n : Nat} (h : x.toInt = (n : Int)) (h0 : 0 ≤ B.toInt) : x < B ↔ n < B.toInt.toNat := by rw [Int32.lt_iff_toInt_lt, h]; omega
theorem own_bound (p : Int32) : 0 ≤ ((p &&& (2147483647 : Int32)) % (129 : Int32)).toInt ∧ ((p &&& (2147483647 : Int32)) % (129 : Int32)).toInt ≤ 128 := by
  have m := c_mask p 2147483647 31 (by decide) (by decide)
  have r := c_irem (p &&& 2147483647) 129 129 rfl
  omega
theorem own_a1 (w : Int64) (B : Int32) : (f1 w B &&& ((-9187201950435737472 : Int64) ^^^ (-1 : Int64))) = (0 : Int64) := by
  unfold f1
  rw [Int64.and_assoc]
  have : ((-9187201950435737472 : Int64) &&& ((-9187201950435737472 : Int64) ^^^ (-1 : Int64))) = 0 := by decide
  rw [this]
  exact Int64.and_zero
theorem own_a2 (w : Int64) (B : Int32) : (f1 w B &&& w) = (0 : Int64) := by
  apply Int64.toBitVec_inj.mp
  have e : (f1 w B &&& w).toBitVec = (w.toBitVec - 72340172838076673#64 * B.toInt64.toBitVec) &&& (w.toBitVec ^^^ BitVec.allOnes 64) &&& 9259542123273814144#64 &&& w.toBitVec := rfl
  have e0 : (0 : Int64).toBitVec = 0#64 := rfl
  rw [e, e0]
  apply BitVec.eq_of_getLsbD_eq
  intro t ht
  rw [BitVec.xor_allOnes, BitVec.getLsbD_and, BitVec.getLsbD_and, BitVec.getLsbD_and, BitVec.getLsbD_not]
  cases w.toBitVec.getLsbD t <;> simp
def own_exp (k : Int32) : Int64 := if k = (8 : Int32) then (0 : Int64) else ((128 : Int64) <<< (((8 : Int32) * k) &&& 0x3f).toInt64)
theorem own_a3 (w : Int64) (B : Int32) (h0 : 0 ≤ B.toInt) (h1 : B.toInt ≤ 128) : (f1 w B &&& (-(f1 w B))) = own_exp (f2 w B) := by
  have hM := own_f1 w B h0 h1
  have hB : B.toInt.toNat ≤ 128 := by omega
  apply Int64.toBitVec_inj.mp
  have e : (f1 w B &&& (-(f1 w B))).toBitVec = (f1 w B).toBitVec &&& -(f1 w B).toBitVec := rfl
  rw [e, hM]
  unfold f2
  have b0 := own_lt (own_byte0 w) h0
  have b1 := own_lt (own_byte1 w) h0
  have b2 := own_lt (own_byte2 w) h0
  have b3 := own_lt (own_byte3 w) h0
  have b4 := own_lt (own_byte4 w) h0
  have b5 := own_lt (own_byte5 w) h0
  have b6 := own_lt (own_byte6 w) h0
  have b7 := own_lt (own_byte7 w) h0
  by_cases c0 : f3 w 0 < B
  · rw [if_pos c0]
    have q := own_first0 w.toBitVec B.toInt.toNat hB  (b0.mp c0)
    exact (own_low _ _ q.1 q.2).trans (by decide)
  rw [if_neg c0]
  by_cases c1 : f3 w 1 < B
  · rw [if_pos c1]
    have q := own_first1 w.toBitVec B.toInt.toNat hB (Nat.le_of_not_lt fun z => c0 (b0.mpr z)) (b1.mp c1)
    exact (own_low _ _ q.1 q.2).trans (by decide)
  rw [if_neg c1]
  by_cases c2 : f3 w 2 < B
  · rw [if_pos c2]
    have q := own_first2 w.toBitVec B.toInt.toNat hB (Nat.le_of_not_lt fun z => c0 (b0.mpr z)) (Nat.le_of_not_lt fun z => c1 (b1.mpr z)) (b2.mp c2)
    exact (own_low _ _ q.1 q.2).trans (by decide)
  rw [if_neg c2]
  by_cases c3 : f3 w 3 < B
  · rw [if_pos c3]
    have q := own_first3 w.toBitVec B.toInt.toNat hB (Nat.le_of_not_lt fun z => c0 (b0.mpr z)) (Nat.le_of_not_lt fun z => c1 (b1.mpr z)) (Nat.le_of_not_lt fun z => c2 (b2.mpr z)) (b3.mp c3)
    exact (own_low _ _ q.1 q.2).trans (by decide)
  rw [if_neg c3]
  by_cases c4 : f3 w 4 < B
  · rw [if_pos c4]
    have q := own_first4 w.toBitVec B.toInt.toNat hB (Nat.le_of_not_lt fun z => c0 (b0.mpr z)) (Nat.le_of_not_lt fun z => c1 (b1.mpr z)) (Nat.le_of_not_lt fun z => c2 (b2.mpr z)) (Nat.le_of_not_lt fun z => c3 (b3.mpr z)) (b4.mp c4)
    exact (own_low _ _ q.1 q.2).trans (by decide)
  rw [if_neg c4]
  by_cases c5 : f3 w 5 < B
  · rw [if_pos c5]
    have q := own_first5 w.toBitVec B.toInt.toNat hB (Nat.le_of_not_lt fun z => c0 (b0.mpr z)) (Nat.le_of_not_lt fun z => c1 (b1.mpr z)) (Nat.le_of_not_lt fun z => c2 (b2.mpr z)) (Nat.le_of_not_lt fun z => c3 (b3.mpr z)) (Nat.le_of_not_lt fun z => c4 (b4.mpr z)) (b5.mp c5)
    exact (own_low _ _ q.1 q.2).trans (by decide)
  rw [if_neg c5]
  by_cases c6 : f3 w 6 < B
  · rw [if_pos c6]
    have q := own_first6 w.toBitVec B.toInt.toNat hB (Nat.le_of_not_lt fun z => c0 (b0.mpr z)) (Nat.le_of_not_lt fun z => c1 (b1.mpr z)) (Nat.le_of_not_lt fun z => c2 (b2.mpr z)) (Nat.le_of_not_lt fun z => c3 (b3.mpr z)) (Nat.le_of_not_lt fun z => c4 (b4.mpr z)) (Nat.le_of_not_lt fun z => c5 (b5.mpr z)) (b6.mp c6)
    exact (own_low _ _ q.1 q.2).trans (by decide)
  rw [if_neg c6]
  by_cases c7 : f3 w 7 < B
  · rw [if_pos c7]
    have q := own_first7 w.toBitVec B.toInt.toNat hB (Nat.le_of_not_lt fun z => c0 (b0.mpr z)) (Nat.le_of_not_lt fun z => c1 (b1.mpr z)) (Nat.le_of_not_lt fun z => c2 (b2.mpr z)) (Nat.le_of_not_lt fun z => c3 (b3.mpr z)) (Nat.le_of_not_lt fun z => c4 (b4.mpr z)) (Nat.le_of_not_lt fun z => c5 (b5.mpr z)) (Nat.le_of_not_lt fun z => c6 (b6.mpr z)) (b7.mp c7)
    exact (own_low _ _ q.1 q.2).trans (by decide)
  rw [if_neg c7]
  rw [own_none w.toBitVec B.toInt.toNat hB (Nat.le_of_not_lt fun z => c0 (b0.mpr z)) (Nat.le_of_not_lt fun z => c1 (b1.mpr z)) (Nat.le_of_not_lt fun z => c2 (b2.mpr z)) (Nat.le_of_not_lt fun z => c3 (b3.mpr z)) (Nat.le_of_not_lt fun z => c4 (b4.mpr z)) (Nat.le_of_not_lt fun z => c5 (b5.mpr z)) (Nat.le_of_not_lt fun z => c6 (b6.mpr z)) (Nat.le_of_not_lt fun z => c7 (b7.mpr z))]
  decide
theorem own_law (i0 : Int64) (i1 : Int32) : f0 i0 i1 = 1 := by
  have hb := own_bound i1
  unfold f0
  rw [if_pos (own_a1 i0 _)]
  unfold f0_40
  rw [if_pos (own_a2 i0 _)]
  unfold f0_56 f0_85 f0_104
  generalize ((i1 &&& (2147483647 : Int32)) % (129 : Int32)) = B at *
  have a3 := own_a3 i0 B hb.1 hb.2
  unfold own_exp at a3
  by_cases q : f2 i0 B = 8
  · rw [if_pos q] at a3
    rw [if_pos q, if_pos a3]
    decide
  · rw [if_neg q] at a3
    rw [if_neg q, if_pos a3]
    decide

set_option maxRecDepth 65536 in
set_option maxHeartbeats 40000000 in
theorem comes_1 {Post : Tables → Env → Array Value → State → Outcome → State → Prop} (hpost : ∀ tb e args s v u, (limb_1_1.after args s (.returned v) u = true ∧ limb_1_2.after args s (.returned v) u = true ∧ True) → FrameEnd s (.returned v) u (Jvm.fieldLocs frame_1_writes args s ++ Jvm.arrayLocs frame_1_arrays args s ++ Jvm.staticLocs frame_1_statics s) 0 0 → Post tb e args s (.returned v) u) :
    ArmFor flags0 classFile x code maxLocals ret World_1 tables_1 room_1 Calls_1 rest_1 Pre_1 Post := by
  intro l hfl _ _ p e ha hc hk s m args below hf hA hF happ hP
  obtain ⟨hcalls, hrest, hpre⟩ := hP
  obtain ⟨-, -, -, hnamed, -, -, -, hat⟩ := (Spec.applies_iff hf).mp happ
  obtain ⟨hg, hn⟩ := and_e (Cond.before_iff.mp (show (Jvm.Cond.and given_1 narrow_1).before args s = true from hpre))
  obtain ⟨g1, g2⟩ := and_e hg
  obtain ⟨g3, g4⟩ := and_e g2
  obtain ⟨w0, w1, rfl⟩ : ∃ w0 w1 : Value, args = #[w0, w1] := by
    have hs : args.size = 2 := by simpa [Cond.value, given_1] using g1
    obtain ⟨L⟩ := args
    match L, hs with
    | [w0, w1], _ => exact ⟨w0, w1, rfl⟩
  have hw := fun d (hd : d ∈ tables_1) => atoms_spec (ws := Jvm.Cond.code x code maxLocals ret :: tables_1) hat d (List.mem_cons_of_mem _ hd)
  have hfit : Fit s := fun {y c} hc i hi => by
    obtain ⟨ha, rfl⟩ := Array.getElem?_eq_some_iff.mp hc
    have q := List.all_eq_true.mp ((Array.all_eq_true_iff_forall_mem.mp hF) _ (Array.getElem_mem ha)) i (List.mem_range.mpr hi)
    simpa [Array.getElem?_eq_getElem hi] using q
  obtain ⟨i0, ei0⟩ := isL_v g3
  obtain rfl : w0 = (.long i0) := Option.some.inj ei0
  obtain ⟨i1, ei1⟩ := is_v g4
  obtain rfl : w1 = (.int i1) := Option.some.inj ei1
  obtain ⟨n, o, h1, h2, h3, v, L, rfl, ⟨rfl, hheap, rfl⟩, hq⟩ := rm0 l s _ hw tables_1 i0 i1 s.heap p e ha hc hk s m _ below hf ((Spec.applies_iff_loose hf).mp happ).1 ⟨rfl, State.Warmed39.refl s, rfl⟩ trivial
  refine ⟨n, _, h1, h2, h3, hpost _ _ _ _ _ _ ⟨Cond.after_iff.mpr rfl, Cond.after_iff.mpr (eq_i res_at (Term.int_eval (1)) (congrArg Value.int (own_law i0 i1))), trivial⟩ ⟨hq.1, hq.2.1, (hq.2.2.sift fun y hy => nomatch hy).mono (by decide) (by decide)⟩⟩
theorem main_1_1 : Claimed_1_1 := comes_1 fun _ _ _ _ _ _ h hF => ⟨h.1, hF⟩
theorem main_1_2 : Claimed_1_2 := comes_1 fun _ _ _ _ _ _ h hF => ⟨h.2.1, hF⟩
end Jvm.Pilot.@@N@@
namespace Jvm.Pilot.@@N@@
open Jvm Jvm.ClassFile Sem Op Lib Jvm.Free Jvm.Stand Jvm.Pilot.@@N@@.Jvm.D
/-! MADE BY PROGRAM (witnessworld.py) out of the Statement's table words and the real class files: 9 classes; the members and pool entries that the words name. The judged class is class 1, her method 3. -/
namespace start1
open Jvm.ClassFile
def u (s : String) : CpInfo := .utf8 (stringToUtf16 s)
/-- a pool by its gaps: so many unusable entries, then the entry; so many at the end -/
def gap : Nat → List CpInfo → List CpInfo
  | 0, r => r
  | n + 1, r => .unusable :: gap n r
def poolList (es : List (Nat × CpInfo)) (last : Nat) : List CpInfo := es.foldr (fun e r => gap e.1 (e.2 :: r)) (gap last [])
def pool (es : List (Nat × CpInfo)) (last : Nat) : Array CpInfo := ⟨poolList es last⟩
def fileOf (pool : Array CpInfo) (this : Nat) (attrs : Array Attribute := #[]) (ms : Array MethodInfo := #[]) (fl : Nat := 33) (sup : Nat := 0) (ifs : Array Nat := #[]) (fds : Array FieldInfo := #[]) : ClassFile where
  minorVersion := 0
  majorVersion := 65
  constantPool := pool
  accessFlags := fl
  thisClass := this
  superClass := sup
  interfaces := ifs
  fields := fds
  methods := ms
  attributes := attrs
def plain (name : String) (sup : Option ClassId) : Class where
  name := name
  kind := .ordinary
  loader := none
  accessFlags := 33
  super := sup
  interfaces := #[]
  cf := none
  fields := #[]
  methods := #[]
  instanceTypes := #[]
  staticTypes := #[]
  resolved := #[]
  callSites := []
  init := .initialized
  statics := none
  mirror := none

def pool0 : Array CpInfo := pool [(5, u "<init>"), (0, u "()V"), (1, .class_ 10), (1, u "java/lang/Object")] 113

def k0m0 : Method := { name := "<init>", desc := "()V", sig := { parameters := [], returnType := none }, accessFlags := 1, code := none }
/-- java/lang/Object -/
def k0 : Class := { plain "java/lang/Object" none with
  accessFlags := 33
  interfaces := #[]
  cf := some (fileOf pool0 8 #[] #[{ accessFlags := 1, nameIndex := 5, descriptorIndex := 6, attributes := #[] }] 33 0 #[] #[])
  fields := #[]
  methods := #[k0m0]
  instanceTypes := #[]
  staticTypes := #[]
  resolved := Array.replicate 124 none
  statics := none }

def pool1 : Array CpInfo := pool [(2, .class_ 4), (1, u "java/lang/Object"), (0, u "<init>"), (0, u "()V"), (0, .long 255), (1, .methodref 10 11), (0, .class_ 12), (0, .nameAndType 13 14), (0, u "com/example/bounds/bounds/json/WordsBelowPinLaw"), (0, u "byteAt"), (0, u "(JI)I"), (0, .integer 2147483647), (0, .methodref 17 18), (0, .class_ 19), (0, .nameAndType 20 21), (0, u "com/example/bounds/bounds/json/Words"), (0, u "below"), (0, u "(JI)J"), (0, .long 9259542123273814144), (1, .long 18446744073709551615), (1, .methodref 10 27), (0, .nameAndType 28 14), (0, u "firstBelow"), (0, .long 128), (4, u "law"), (0, u "(JI)Z")] 2

def k1m0 : Method := { name := "<init>", desc := "()V", sig := { parameters := [], returnType := none }, accessFlags := 2, code := none }
def k1c1 : Code := { maxStack := 4, maxLocals := 3, code := method_2_code, exceptionTable := #[], attributes := #[] }
def k1m1 : Method := { name := "byteAt", desc := "(JI)I", sig := { parameters := [.long, .int], returnType := some .int }, accessFlags := 10, code := some k1c1 }
def k1c2 : Code := { maxStack := 3, maxLocals := 3, code := method_3_code, exceptionTable := #[], attributes := #[] }
def k1m2 : Method := { name := "firstBelow", desc := "(JI)I", sig := { parameters := [.long, .int], returnType := some .int }, accessFlags := 10, code := some k1c2 }
def k1c3 : Code := { maxStack := 6, maxLocals := 14, code := code, exceptionTable := #[], attributes := #[] }
def k1m3 : Method := { name := "law", desc := "(JI)Z", sig := { parameters := [.long, .int], returnType := some .boolean }, accessFlags := 9, code := some k1c3 }
/-- com/example/bounds/bounds/json/WordsBelowPinLaw -/
def k1 : Class := { plain "com/example/bounds/bounds/json/WordsBelowPinLaw" (some 0) with
  accessFlags := 49
  interfaces := #[]
  cf := some (fileOf pool1 10 #[] #[{ accessFlags := 2, nameIndex := 5, descriptorIndex := 6, attributes := #[] }, { accessFlags := 10, nameIndex := 13, descriptorIndex := 14, attributes := #[] }, { accessFlags := 10, nameIndex := 28, descriptorIndex := 14, attributes := #[] }, { accessFlags := 9, nameIndex := 34, descriptorIndex := 35, attributes := #[] }] 49 2 #[] #[])
  fields := #[]
  methods := #[k1m0, k1m1, k1m2, k1m3]
  instanceTypes := #[]
  staticTypes := #[]
  resolved := Array.replicate 38 none
  statics := none }

def pool2 : Array CpInfo := pool [(4, .class_ 6), (1, u "java/lang/Object"), (0, u "<init>"), (0, u "()V"), (0, .class_ 10), (0, u "com/example/bounds/bounds/json/Words"), (8, u "WORDS"), (0, u "Ljava/lang/invoke/VarHandle;"), (8, .long 72340172838076673), (1, .long 18446744073709551615), (1, .long 9259542123273814144), (19, u "SIZE"), (0, u "I"), (2, u "ONES"), (0, u "J"), (0, u "HIGHS"), (7, u "below"), (0, u "(JI)J")] 7

def k2m0 : Method := { name := "<init>", desc := "()V", sig := { parameters := [], returnType := none }, accessFlags := 2, code := none }
def k2c1 : Code := { maxStack := 6, maxLocals := 3, code := prog_9_method_5_code, exceptionTable := #[], attributes := #[] }
def k2m1 : Method := { name := "below", desc := "(JI)J", sig := { parameters := [.long, .int], returnType := some .long }, accessFlags := 8, code := some k2c1 }
/-- com/example/bounds/bounds/json/Words -/
def k2 : Class := { plain "com/example/bounds/bounds/json/Words" (some 0) with
  accessFlags := 32
  interfaces := #[]
  cf := some (fileOf pool2 9 #[] #[{ accessFlags := 2, nameIndex := 7, descriptorIndex := 8, attributes := #[] }, { accessFlags := 8, nameIndex := 67, descriptorIndex := 68, attributes := #[] }] 32 4 #[] #[{ accessFlags := 24, nameIndex := 53, descriptorIndex := 54, attributes := #[] }, { accessFlags := 26, nameIndex := 57, descriptorIndex := 58, attributes := #[] }, { accessFlags := 26, nameIndex := 59, descriptorIndex := 58, attributes := #[] }, { accessFlags := 26, nameIndex := 19, descriptorIndex := 20, attributes := #[] }])
  fields := #[{ name := "SIZE", type := .int, accessFlags := 24, slot := 0, constantValue := 0 }, { name := "ONES", type := .long, accessFlags := 26, slot := 1, constantValue := 0 }, { name := "HIGHS", type := .long, accessFlags := 26, slot := 2, constantValue := 0 }, { name := "WORDS", type := (.object "java/lang/invoke/VarHandle"), accessFlags := 26, slot := 3, constantValue := 0 }]
  methods := #[k2m0, k2m1]
  instanceTypes := #[]
  staticTypes := #[.int, .long, .long, (.object "java/lang/invoke/VarHandle")]
  resolved := Array.replicate 76 none
  statics := none }

def pool3 : Array CpInfo := pool [(1, u "java/lang/Cloneable"), (0, .class_ 1), (0, u "java/lang/Object"), (0, .class_ 3)] 3

/-- java/lang/Cloneable -/
def k3 : Class := { plain "java/lang/Cloneable" (some 0) with
  accessFlags := 1537
  interfaces := #[]
  cf := some (fileOf pool3 2 #[] #[] 1537 4 #[] #[])
  fields := #[]
  methods := #[]
  instanceTypes := #[]
  staticTypes := #[]
  resolved := Array.replicate 8 none
  statics := none }

def pool4 : Array CpInfo := pool [(1, u "java/io/Serializable"), (0, .class_ 1), (0, u "java/lang/Object"), (0, .class_ 3)] 3

/-- java/io/Serializable -/
def k4 : Class := { plain "java/io/Serializable" (some 0) with
  accessFlags := 1537
  interfaces := #[]
  cf := some (fileOf pool4 2 #[] #[] 1537 4 #[] #[])
  fields := #[]
  methods := #[]
  instanceTypes := #[]
  staticTypes := #[]
  resolved := Array.replicate 8 none
  statics := none }

/-- the primitive byte -/
def k5 : Class := { plain "byte" none with kind := .primitive 'B', accessFlags := 0x411 }
/-- [B -/
def k6 : Class := { plain "[B" (some 0) with kind := .array 5 .byte, interfaces := #[3, 4], accessFlags := 1041 }

/-- the primitive int -/
def k7 : Class := { plain "int" none with kind := .primitive 'I', accessFlags := 0x411 }
/-- [I -/
def k8 : Class := { plain "[I" (some 0) with kind := .array 7 .int, interfaces := #[3, 4], accessFlags := 1041 }

def heap : Heap := #[]
def classes : Array Class := #[k0, k1, k2, k3, k4, k5, k6, k7, k8]
def interned : List (Array UInt16 × Addr) := []
def slotsUsed : Nat := 0
def theMethod : MethodId := ⟨1, 3⟩
def args0 : Array Value := #[.long 5, .int 7]
def aboutOver (below : List Frame) : State where
  vm := { classes := classes, interned := interned.toArray }
  heap := heap
  slotsUsed := slotsUsed
  threads := #[{ frames := .invoking theMethod args0 :: below }]
def below0 : List Frame := [.native { method := ⟨0, 0⟩, args := #[] }]
def about1 : State := aboutOver below0
def p0 : Program := .bare "" "" ""
def e0 : Env := launch0.env 0 0 0
theorem w_frames : about1.frames = Frame.invoking theMethod args0 :: below0 := rfl
set_option maxRecDepth 65536 in
theorem w_args : argsFit about1.vm theMethod args0 = true := by decide +kernel
set_option maxRecDepth 65536 in
theorem w_heap : heapFits about1 = true := by decide +kernel
set_option maxRecDepth 65536 in
theorem w_runnable : about1.curStatus? = some .runnable := by decide +kernel
set_option maxRecDepth 65536 in
theorem w_alone : about1.alone = true := by decide +kernel
set_option maxRecDepth 65536 in
theorem w_named : about1.methodNamed? x = some theMethod := by decide +kernel
set_option maxRecDepth 65536 in
theorem w_hears : about1.hears theMethod below0 = true := by decide +kernel
set_option maxRecDepth 65536 in
theorem w_ripe : about1.ripe theMethod args0 below0 = true := by decide +kernel
theorem w_running : about1.status = .running := rfl
set_option maxRecDepth 65536 in
theorem w_room : about1.hasRoom e0.platform room_1 = true :=
  launch0.hasRoom_least _ room_1 (by decide +kernel) (by decide +kernel) (by decide +kernel) (by decide +kernel) (by decide +kernel) (by decide +kernel)
theorem allAtoms_all (ts : List Jvm.Cond) (a : Array Jvm.Value) (st : Jvm.State) : (allAtoms ts).before a st = ts.all (fun c => c.before a st) := by
  induction ts with
  | nil => rfl
  | cons c t ih =>
    show (Jvm.Cond.and c (allAtoms t)).before a st = _
    rw [Jvm.Cond.before_and, ih, List.all_cons]
def words1 : List Jvm.Cond := Jvm.Cond.code x code maxLocals ret :: tables_1
/-- a 'code' word, met by the world's own term for the bytes: nothing is compared byte by byte -/
theorem code_word {y : MethodName} {bytes : ByteArray} {mx : Nat} {rt : Option FieldType} {a : Array Value} {s : State} {m : MethodId} {meth : Method} {c : Code} (h1 : s.methodNamed? y = some m) (h2 : s.vm.method? m = some meth) (h3 : meth.code = some c) (h4 : c.code = bytes)
    (h5 : (c.maxLocals == mx && c.exceptionTable.isEmpty && decide (c.maxStack ≤ mostOperands) && decide (meth.sig.returnType = rt) && !meth.locks && decide (parseMethodDescriptor y.desc = some meth.sig)) = true) : (Jvm.Cond.code y bytes mx rt).before a s = true := by
  simp only [Bool.and_eq_true, beq_iff_eq, Bool.not_eq_true', decide_eq_true_eq] at h5
  obtain ⟨⟨⟨⟨⟨g1, g2⟩, g3⟩, g4⟩, g5⟩, g6⟩ := h5
  simp [Cond.before, Cond.holds, Cond.value, h1, h2, h3, h4, g1, g2, g3, g4, g5, g6]
def isCode : Jvm.Cond → Bool
  | .code _ _ _ _ => true
  | _ => false
theorem all_split {L : List Jvm.Cond} {P : Jvm.Cond → Bool} (h1 : L.all (fun c => isCode c || P c) = true) (h2 : ∀ c ∈ L.filter isCode, P c = true) : L.all P = true := by
  refine List.all_eq_true.mpr fun c hc => ?_
  have h := List.all_eq_true.mp h1 c hc
  rcases Bool.eq_false_or_eq_true (isCode c) with hi | hi
  · exact h2 c (List.mem_filter.mpr ⟨hc, hi⟩)
  · simpa [hi] using h
set_option maxRecDepth 65536 in
theorem w_c0 : (Jvm.Cond.code x code maxLocals ret).before args0 about1 = true := code_word (m := ⟨1, 3⟩) (meth := k1m3) (c := k1c3) (by decide +kernel) rfl rfl rfl (by decide +kernel)
set_option maxRecDepth 65536 in
theorem w_c1 : (Jvm.Cond.code ({ cls := "com/example/bounds/bounds/json/Words", name := "below", desc := "(JI)J" } : Jvm.MethodName) prog_9_method_5_code (3 : Nat) (Option.some Jvm.ClassFile.FieldType.long)).before args0 about1 = true := code_word (m := ⟨2, 1⟩) (meth := k2m1) (c := k2c1) (by decide +kernel) rfl rfl rfl (by decide +kernel)
set_option maxRecDepth 65536 in
theorem w_c2 : (Jvm.Cond.code ({ cls := "com/example/bounds/bounds/json/WordsBelowPinLaw", name := "firstBelow", desc := "(JI)I" } : Jvm.MethodName) method_3_code (3 : Nat) (Option.some Jvm.ClassFile.FieldType.int)).before args0 about1 = true := code_word (m := ⟨1, 2⟩) (meth := k1m2) (c := k1c2) (by decide +kernel) rfl rfl rfl (by decide +kernel)
set_option maxRecDepth 65536 in
theorem w_c3 : (Jvm.Cond.code ({ cls := "com/example/bounds/bounds/json/WordsBelowPinLaw", name := "byteAt", desc := "(JI)I" } : Jvm.MethodName) method_2_code (3 : Nat) (Option.some Jvm.ClassFile.FieldType.int)).before args0 about1 = true := code_word (m := ⟨1, 1⟩) (meth := k1m1) (c := k1c1) (by decide +kernel) rfl rfl rfl (by decide +kernel)
def codes1 : List Jvm.Cond := [Jvm.Cond.code x code maxLocals ret, Jvm.Cond.code ({ cls := "com/example/bounds/bounds/json/Words", name := "below", desc := "(JI)J" } : Jvm.MethodName) prog_9_method_5_code (3 : Nat) (Option.some Jvm.ClassFile.FieldType.long), Jvm.Cond.code ({ cls := "com/example/bounds/bounds/json/WordsBelowPinLaw", name := "firstBelow", desc := "(JI)I" } : Jvm.MethodName) method_3_code (3 : Nat) (Option.some Jvm.ClassFile.FieldType.int), Jvm.Cond.code ({ cls := "com/example/bounds/bounds/json/WordsBelowPinLaw", name := "byteAt", desc := "(JI)I" } : Jvm.MethodName) method_2_code (3 : Nat) (Option.some Jvm.ClassFile.FieldType.int)]
set_option maxRecDepth 65536 in
theorem codes_eq : words1.filter isCode = codes1 := rfl
theorem w_codes : ∀ c ∈ words1.filter isCode, c.before args0 about1 = true := by
  rw [codes_eq]
  intro c hc
  simp only [codes1, List.mem_cons, List.not_mem_nil, or_false] at hc
  rcases hc with rfl | rfl | rfl | rfl
  · exact w_c0
  · exact w_c1
  · exact w_c2
  · exact w_c3
set_option maxRecDepth 65536 in
theorem w_t1 : words1.all (fun c => isCode c || c.before args0 about1) = true := by decide +kernel
theorem w_tables : (allAtoms (Jvm.Cond.code x code maxLocals ret :: tables_1)).before args0 about1 = true := by
  rw [allAtoms_all]
  show words1.all (fun c => c.before args0 about1) = true
  refine all_split ?_ w_codes
  rw [w_t1]
set_option maxRecDepth 65536 in
theorem w_case : (Jvm.Cond.and given_1 narrow_1).before args0 about1 = true := by decide +kernel
theorem w_applies : (headSpec (Jvm.Cond.code x code maxLocals ret :: tables_1) room_1).applies x e0.platform about1 = true :=
  (Spec.applies_iff w_frames).mpr ⟨w_running, w_runnable, w_alone, w_named, w_hears, w_ripe, w_room, w_tables⟩
theorem atStart : AtStart classFile x code maxLocals ret World_1 tables_1 room_1 Calls_1 rest_1 Pre_1 launch0 p0 e0 about1 theMethod args0 below0 :=
  ⟨lists_1, trivial, launch0.admits_env _ _ _, launch0.least_env, fairChoices_fair.cas, fairChoices_fair.clock, w_frames, w_args, w_heap, w_applies, trivial, trivial, w_case⟩
end start1
theorem witness_1 : WitnessClaimed_1 := ⟨start1.p0, start1.e0, start1.about1, start1.theMethod, start1.args0, start1.below0, start1.atStart⟩
end Jvm.Pilot.@@N@@
