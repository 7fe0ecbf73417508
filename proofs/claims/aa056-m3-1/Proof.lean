import JvmDerived
import JvmDerived.Pilot.@@N@@Statement
import JvmDerived.Pilot.@@N@@Code
set_option linter.unusedVariables false
set_option linter.unusedSimpArgs false
namespace Jvm.RoadKit
open Sem ClassFile Op Lib Jvm.Stand Jvm.Free Jvm.LawKit
section New
variable {p : Program} {l : Launch} {e : Env} {R : Room} {s : State} {m : MethodId} {args : Array Value} {below : List Frame} {meth : Method} {c : Code} {T : State} {locs : List Loc} {cells slots : Nat}
theorem retI (X : Stand p l e R s m args below meth c T locs cells slots) (hx : p.tables.exec = Jvm.exec) {pc : Nat} {Ls : Array Slot} {z : Int32} {rest : List Value} (hret : meth.sig.returnType = some .int) (hd : decode c.code pc = .ok (.ireturn, 1)) {fs : List Frame}
    (hl : ∀ (f : JFrame) (acts : List Action), f.method = m → f.locked = none → f.entered = [] → (doReturn e (T.setTop f) acts (some (.int z))).1 = T.setFrames fs) : Steps p.tables e below (T.setTop (mkF m pc Ls (.int z :: rest))) (T.setFrames fs) := by
  have hm' : T.vm.method? m = some meth := X.method'
  have hn : narrow .int (.int z) = .int z := rfl
  show Steps p.tables e below (T.setTop { method := m, pc := pc, locals := Ls, stack := _ :: rest, locked := none }) _
  jvm_step X.here [X.here.top, hx, hd, hm', hret, hn]
  first | (intro acts; rw [hl _ acts rfl rfl rfl]) | rw [hl _ _ rfl rfl rfl]
  exact Steps.refl _
end New
end Jvm.RoadKit
namespace Jvm.Pilot.@@N@@
open Jvm Jvm.ClassFile Sem Op Lib Jvm.Free Jvm.Stand Jvm.LawKit Jvm.RoadKit Bundle Jvm.Pilot.@@N@@.Jvm.D

/-! the walk's goal: from this frame the run comes to its end, and Q holds of what it returns, of the heap and of the places written -/
def Fini (p : Program) (e : Env) (below : List Frame) (s : State) (Q : Option Value → Heap → List Loc → Prop) (C S : Nat) (T : State) (g : JFrame) : Prop :=
  ∃ s₂ o, Steps p.tables e below (T.setTop g) s₂ ∧ s₂.status = .running ∧ Ended s₂ below o ∧ ∃ v L, o = .returned v ∧ Q v s₂.heap L ∧ FrameEnd s o s₂ L C S
abbrev Cmet (l : Launch) (Z : State) (y : MethodName) (bytes : ByteArray) (ml : Nat) (ret : Option FieldType) (ws : List Jvm.Cond) (rm : Room) (as : Array Value) (h0 : Heap) (Q : Option Value → Heap → List Loc → Prop) : Prop :=
  MetFree l y (head1 (Jvm.Cond.code y bytes ml ret :: ws) rm) (fun a U => a = as ∧ Z.Warmed39 U.vm ∧ U.heap = h0) (fun _ _ _ _ _ => True) (fun _ U o U' => ∃ v L, o = .returned v ∧ Q v U'.heap L ∧ FrameEnd U o U' L rm.cells rm.slots)
section Own
variable {p : Program} {l : Launch} {e : Env} {R : Room} {s : State} {m : MethodId} {args : Array Value} {below : List Frame} {meth : Method} {c : Code} {T T' : State} {locs : List Loc} {cells slots : Nat} {Q : Option Value → Heap → List Loc → Prop} {C S : Nat} {g g' : JFrame} {Z : State} {a0 : Array Value} {h : Heap}
theorem Fini.st (k : ∀ t, Steps p.tables e below (T'.setTop g') t → Steps p.tables e below (T.setTop g) t) (f : Fini p e below s Q C S T' g') : Fini p e below s Q C S T g := by
  obtain ⟨s2, o, h1, r⟩ := f
  exact ⟨s2, o, k _ h1, r⟩
theorem Fini.cast (q : g = g') (f : Fini p e below s Q C S T g') : Fini p e below s Q C S T g := q ▸ f
theorem Fini.retI (X : Stand p l e R s m args below meth c T locs cells slots) (hx : p.tables.exec = Jvm.exec) (hl : meth.locks = false) (hret : meth.sig.returnType = some .int) {pc : Nat} {Ls : Array Slot} {z : Int32} {rest : List Value} (hd : decode c.code pc = .ok (.ireturn, 1))
    (hC : cells ≤ C) (hS : slots ≤ S) (hQ : Q (some (.int z)) T.heap locs) : Fini p e below s Q C S T (mkF m pc Ls (.int z :: rest)) := by
  obtain ⟨fs, hr, hrun, hended, hW, hsame⟩ := X.leave (v := some (.int z)) (fun h => by rw [hret] at h; cases h) hl
  exact ⟨_, _, Jvm.RoadKit.retI X hx hret hd hr, hrun, hended, _, _, rfl, hQ, ⟨_, rfl⟩, hW, hsame.mono hC hS⟩
theorem Fini.retN (X : Stand p l e R s m args below meth c T locs cells slots) (hx : p.tables.exec = Jvm.exec) (hl : meth.locks = false) {t : FieldType} (hret : meth.sig.returnType = some t) (ht : t = .boolean ∨ t = .byte ∨ t = .char ∨ t = .short) {pc : Nat} {Ls : Array Slot} {z z' : Int32} {rest : List Value} (hd : decode c.code pc = .ok (.ireturn, 1))
    (hz : nar t z = z') (hC : cells ≤ C) (hS : slots ≤ S) (hQ : Q (some (.int z')) T.heap locs) : Fini p e below s Q C S T (mkF m pc Ls (.int z :: rest)) := by
  subst hz
  obtain ⟨fs, hr, hrun, hended, hW, hsame⟩ := X.leave (v := some (.int (nar t z))) (fun h => by rw [hret] at h; cases h) hl
  exact ⟨_, _, Jvm.RoadKit.retN X hx hret ht hd hr, hrun, hended, _, _, rfl, hQ, ⟨_, rfl⟩, hW, hsame.mono hC hS⟩
theorem Fini.retJ (X : Stand p l e R s m args below meth c T locs cells slots) (hx : p.tables.exec = Jvm.exec) (hl : meth.locks = false) (hret : meth.sig.returnType = some .long) {pc : Nat} {Ls : Array Slot} {z : Int64} {rest : List Value} (hd : decode c.code pc = .ok (.lreturn, 1))
    (hC : cells ≤ C) (hS : slots ≤ S) (hQ : Q (some (.long z)) T.heap locs) : Fini p e below s Q C S T (mkF m pc Ls (.long z :: rest)) := by
  obtain ⟨fs, hr, hrun, hended, hW, hsame⟩ := X.leave (v := some (.long z)) (fun h => by rw [hret] at h; cases h) hl
  exact ⟨_, _, retOut X hx hret rfl (Or.inr (Or.inl ⟨rfl, rfl, z, rfl⟩)) hd hr, hrun, hended, _, _, rfl, hQ, ⟨_, rfl⟩, hW, hsame.mono hC hS⟩
theorem Fini.retA (X : Stand p l e R s m args below meth c T locs cells slots) (hx : p.tables.exec = Jvm.exec) (hl : meth.locks = false) {t : FieldType} (hret : meth.sig.returnType = some t) (ht : t.isReference = true) {pc : Nat} {Ls : Array Slot} {w : Value} {rest : List Value} (hd : decode c.code pc = .ok (.areturn, 1)) (hw : w.isRef = true) (hn : narrow t w = w)
    (hC : cells ≤ C) (hS : slots ≤ S) (hQ : Q (some w) T.heap locs) : Fini p e below s Q C S T (mkF m pc Ls (w :: rest)) := by
  obtain ⟨fs, hr, hrun, hended, hW, hsame⟩ := X.leave (v := some w) (fun h => by rw [hret] at h; cases h) hl
  exact ⟨_, _, retOut X hx hret hn (Or.inr (Or.inr (Or.inr (Or.inr ⟨rfl, ht, hw⟩)))) hd hr, hrun, hended, _, _, rfl, hQ, ⟨_, rfl⟩, hW, hsame.mono hC hS⟩
theorem Fini.ret0 (X : Stand p l e R s m args below meth c T locs cells slots) (hx : p.tables.exec = Jvm.exec) (hl : meth.locks = false) (hret : meth.sig.returnType = none) {pc : Nat} {Ls : Array Slot} (hd : decode c.code pc = .ok (.return_, 1))
    (hC : cells ≤ C) (hS : slots ≤ S) (hQ : Q none T.heap locs) : Fini p e below s Q C S T (mkF m pc Ls []) := by
  obtain ⟨fs, hr, hrun, hended, hW, hsame⟩ := X.leave (v := none) (fun _ => rfl) hl
  exact ⟨_, _, X.returnOut hx hret hd hr, hrun, hended, _, _, rfl, hQ, ⟨_, rfl⟩, hW, hsame.mono hC hS⟩
/-- a static call by its contract -/
theorem callQ (X : Stand p l e R s m args below meth c T locs cells slots) (hx : p.tables.exec = Jvm.exec) (hZ : Z.Warmed39 s.vm) {own : String} {index : Nat} {y : MethodName} {bytes : ByteArray} {maxL : Nat} {ret : Option FieldType} {rm : Room} {as : Array Value}
    (hown : s.vm.findClass own = some m.cls) (w1 : (Cond.methodLink own index y).before a0 Z = true) (w2 : (Cond.static y).before a0 Z = true) (w3 : (Cond.initialized y.cls).before a0 Z = true) (w4 : (Cond.code y bytes maxL ret).before a0 Z = true)
    (hy : y.cls ≠ "java/lang/invoke/MethodHandle" ∧ y.cls ≠ "java/lang/invoke/VarHandle") (M : Cmet l Z y bytes maxL ret [] rm as h Q) (eT : T.heap = h) {W : Nat} (hf : rm.frames + 1 ≤ R.frames) (hl : W + (maxL + 11) + rm.locals ≤ R.locals) (hc : cells + rm.cells ≤ R.cells) (hs : slots + rm.slots ≤ R.slots)
    (hg : g.method = m) (hsize : g.locals.size = c.maxLocals) {argsL rest : List Value} (has : argsL.toArray = as) (hlen : ∀ sig, parseMethodDescriptor y.desc = some sig → argsL.length = sig.parameters.length)
    (hstack : g.stack = argsL.reverse ++ rest) (hW : 2 * g.monitorRoom + (rest.map fun v => v.category).sum ≤ W) (hdg : decode c.code g.pc = .ok (.invokestatic index, 3)) :
    ∃ (v : Option Value) (T' : State) (L : List Loc), Stand p l e R s m args below meth c T' (locs ++ L) (cells + rm.cells) (slots + rm.slots) ∧ Q v T'.heap L ∧
      ∀ target, Steps p.tables e below (T'.setTop { g with pc := g.pc + 3, stack := v.toList ++ rest }) target → Steps p.tables e below (T.setTop g) target := by
  obtain ⟨v, vm1, ⟨T', L', c', n'⟩, -, X', ⟨L, hQ, q1, q2, q3⟩, st⟩ := Jvm.LawKit.callS X hx hown (mvT hZ w1) (mvT hZ w2) (mvT hZ w3) (mvT hZ w4) hy (backOf (W := W) M hZ w4 w3 hf hl) hg hsize hlen hstack hW hdg (fun _ _ => ⟨has, eT, hc, hs⟩)
  dsimp only [Pt.U, Pt.locs, Pt.cells, Pt.slots] at X' q1 q2 q3 st hQ
  subst q1 q2 q3
  exact ⟨v, T', L, X', hQ, st⟩
/-- a static call that leaves the heap as it was -/
theorem pureS (X : Stand p l e R s m args below meth c T locs cells slots) (hx : p.tables.exec = Jvm.exec) (hZ : Z.Warmed39 s.vm) {own : String} {index : Nat} {y : MethodName} {bytes : ByteArray} {maxL : Nat} {ret : Option FieldType} {fr lo : Nat} {as : Array Value} {w : Option Value}
    (hown : s.vm.findClass own = some m.cls) (w1 : (Cond.methodLink own index y).before a0 Z = true) (w2 : (Cond.static y).before a0 Z = true) (w3 : (Cond.initialized y.cls).before a0 Z = true) (w4 : (Cond.code y bytes maxL ret).before a0 Z = true)
    (hy : y.cls ≠ "java/lang/invoke/MethodHandle" ∧ y.cls ≠ "java/lang/invoke/VarHandle") (M : Cmet l Z y bytes maxL ret [] ({ frames := fr, cells := 0, slots := 0, locals := lo } : Room) as h (fun v h' L => v = w ∧ h' = h ∧ L = [])) (eT : T.heap = h) {W : Nat} (hf : fr + 1 ≤ R.frames) (hl : W + (maxL + 11) + lo ≤ R.locals) (hc : cells ≤ R.cells) (hs : slots ≤ R.slots)
    (hg : g.method = m) (hsize : g.locals.size = c.maxLocals) {argsL rest : List Value} (has : argsL.toArray = as) (hlen : ∀ sig, parseMethodDescriptor y.desc = some sig → argsL.length = sig.parameters.length)
    (hstack : g.stack = argsL.reverse ++ rest) (hW : 2 * g.monitorRoom + (rest.map fun v => v.category).sum ≤ W) (hdg : decode c.code g.pc = .ok (.invokestatic index, 3)) :
    ∃ (T' : State), Stand p l e R s m args below meth c T' locs cells slots ∧ T'.heap = h ∧
      ∀ target, Steps p.tables e below (T'.setTop { g with pc := g.pc + 3, stack := w.toList ++ rest }) target → Steps p.tables e below (T.setTop g) target := by
  obtain ⟨v, T', L, X', ⟨rfl, q, rfl⟩, st⟩ := callQ X hx hZ hown w1 w2 w3 w4 hy M eT (W := W) hf hl hc hs hg hsize has hlen hstack hW hdg
  rw [List.append_nil] at X'
  exact ⟨T', X', q, st⟩
/-- an instance method by the contract of the body that the receiver's class selects -/
theorem callV (X : Stand p l e R s m args below meth c T locs cells slots) (hx : p.tables.exec = Jvm.exec) (hZ : Z.Warmed39 s.vm) {own C' : String} {index : Nat} {y z : MethodName} {bytes : ByteArray} {maxL : Nat} {ret : Option FieldType} {rm : Room} {as : Array Value} {b : Addr}
    (hown : s.vm.findClass own = some m.cls) (w1 : (Cond.methodLink own index y).before a0 Z = true) (w2 : (Cond.declares y).before a0 Z = true) (w3 : (Cond.selects C' y z).before a0 Z = true) (w4 : (Cond.instanceMethod z).before a0 Z = true) (w5 : (Cond.initialized z.cls).before a0 Z = true) (w6 : (Cond.code z bytes maxL ret).before a0 Z = true)
    (nf : NotFace s y) (E : Exa Z h b C') (hy : y.cls ≠ "java/lang/invoke/MethodHandle" ∧ y.cls ≠ "java/lang/invoke/VarHandle") (M : Cmet l Z z bytes maxL ret [] rm as h Q) (eT : T.heap = h) {W : Nat} (hf : rm.frames + 1 ≤ R.frames) (hl : W + (maxL + 11) + rm.locals ≤ R.locals) (hc : cells + rm.cells ≤ R.cells) (hs : slots + rm.slots ≤ R.slots)
    (hg : g.method = m) (hsize : g.locals.size = c.maxLocals) {argsL rest : List Value} (has : (Value.ref b :: argsL).toArray = as) (hlen : ∀ sig, parseMethodDescriptor y.desc = some sig → argsL.length = sig.parameters.length)
    (hstack : g.stack = argsL.reverse ++ .ref b :: rest) (hW : 2 * g.monitorRoom + (rest.map fun v => v.category).sum ≤ W) (hdg : decode c.code g.pc = .ok (.invokevirtual index, 3)) :
    ∃ (v : Option Value) (T' : State) (L : List Loc), Stand p l e R s m args below meth c T' (locs ++ L) (cells + rm.cells) (slots + rm.slots) ∧ Q v T'.heap L ∧
      ∀ target, Steps p.tables e below (T'.setTop { g with pc := g.pc + 3, stack := v.toList ++ rest }) target → Steps p.tables e below (T.setTop g) target := by
  obtain ⟨cB, kB, q1, q2, q3⟩ := isOf hZ eT E
  obtain ⟨v, vm1, ⟨T', L', c', n'⟩, -, X', ⟨L, hQ, r1, r2, r3⟩, st⟩ := X.virtualBack hx hown (mvT hZ w1) (mvT hZ w2) nf (mvT hZ w3) (mvT hZ w4) hy (backOf (W := W) M hZ w6 w5 hf hl) q1 q3 hg hsize (Steps.refl _) hlen hstack hW hdg (fun _ _ => ⟨has, eT, hc, hs⟩)
  dsimp only [Pt.U, Pt.locs, Pt.cells, Pt.slots] at X' r1 r2 r3 st hQ
  subst r1 r2 r3
  exact ⟨v, T', L, X', hQ, fun _ k => st.trans k⟩
theorem pureV (X : Stand p l e R s m args below meth c T locs cells slots) (hx : p.tables.exec = Jvm.exec) (hZ : Z.Warmed39 s.vm) {own C' : String} {index : Nat} {y z : MethodName} {bytes : ByteArray} {maxL : Nat} {ret : Option FieldType} {fr lo : Nat} {as : Array Value} {b : Addr} {w : Option Value}
    (hown : s.vm.findClass own = some m.cls) (w1 : (Cond.methodLink own index y).before a0 Z = true) (w2 : (Cond.declares y).before a0 Z = true) (w3 : (Cond.selects C' y z).before a0 Z = true) (w4 : (Cond.instanceMethod z).before a0 Z = true) (w5 : (Cond.initialized z.cls).before a0 Z = true) (w6 : (Cond.code z bytes maxL ret).before a0 Z = true)
    (nf : NotFace s y) (E : Exa Z h b C') (hy : y.cls ≠ "java/lang/invoke/MethodHandle" ∧ y.cls ≠ "java/lang/invoke/VarHandle") (M : Cmet l Z z bytes maxL ret [] ({ frames := fr, cells := 0, slots := 0, locals := lo } : Room) as h (fun v h' L => v = w ∧ h' = h ∧ L = [])) (eT : T.heap = h) {W : Nat} (hf : fr + 1 ≤ R.frames) (hl : W + (maxL + 11) + lo ≤ R.locals) (hc : cells ≤ R.cells) (hs : slots ≤ R.slots)
    (hg : g.method = m) (hsize : g.locals.size = c.maxLocals) {argsL rest : List Value} (has : (Value.ref b :: argsL).toArray = as) (hlen : ∀ sig, parseMethodDescriptor y.desc = some sig → argsL.length = sig.parameters.length)
    (hstack : g.stack = argsL.reverse ++ .ref b :: rest) (hW : 2 * g.monitorRoom + (rest.map fun v => v.category).sum ≤ W) (hdg : decode c.code g.pc = .ok (.invokevirtual index, 3)) :
    ∃ (T' : State), Stand p l e R s m args below meth c T' locs cells slots ∧ T'.heap = h ∧
      ∀ target, Steps p.tables e below (T'.setTop { g with pc := g.pc + 3, stack := w.toList ++ rest }) target → Steps p.tables e below (T.setTop g) target := by
  obtain ⟨v, T', L, X', ⟨rfl, q, rfl⟩, st⟩ := callV X hx hZ hown w1 w2 w3 w4 w5 w6 nf E hy M eT (W := W) hf hl hc hs hg hsize has hlen hstack hW hdg
  rw [List.append_nil] at X'
  exact ⟨T', X', q, st⟩
/-- a constructor by its contract -/
theorem callNew (X : Stand p l e R s m args below meth c T locs cells slots) (hx : p.tables.exec = Jvm.exec) (hZ : Z.Warmed39 s.vm) {own : String} {index : Nat} {y : MethodName} {bytes : ByteArray} {maxL : Nat} {rm : Room} {as : Array Value} {b : Addr}
    (hown : s.vm.findClass own = some m.cls) (hy1 : y.name = "<init>") (w1 : (Cond.methodLink own index y).before a0 Z = true) (w2 : (Cond.instanceMethod y).before a0 Z = true) (w3 : (Cond.initialized y.cls).before a0 Z = true) (w4 : (Cond.code y bytes maxL none).before a0 Z = true)
    (hy : y.cls ≠ "java/lang/invoke/MethodHandle" ∧ y.cls ≠ "java/lang/invoke/VarHandle") (M : Cmet l Z y bytes maxL none [] rm as h Q) (eT : T.heap = h) {W : Nat} (hf : rm.frames + 1 ≤ R.frames) (hl : W + (maxL + 11) + rm.locals ≤ R.locals) (hc : cells + rm.cells ≤ R.cells) (hs : slots + rm.slots ≤ R.slots)
    (hg : g.method = m) (hsize : g.locals.size = c.maxLocals) {argsL rest : List Value} (has : (Value.ref b :: argsL).toArray = as) (hlen : ∀ sig, parseMethodDescriptor y.desc = some sig → argsL.length = sig.parameters.length)
    (hstack : g.stack = argsL.reverse ++ .ref b :: rest) (hW : 2 * g.monitorRoom + (rest.map fun v => v.category).sum ≤ W) (hdg : decode c.code g.pc = .ok (.invokespecial index, 3)) :
    ∃ (v : Option Value) (T' : State) (L : List Loc), Stand p l e R s m args below meth c T' (locs ++ L) (cells + rm.cells) (slots + rm.slots) ∧ Q v T'.heap L ∧
      ∀ target, Steps p.tables e below (T'.setTop { g with pc := g.pc + 3, stack := v.toList ++ rest }) target → Steps p.tables e below (T.setTop g) target := by
  obtain ⟨v, vm1, ⟨T', L', c', n'⟩, -, X', ⟨L, hQ, r1, r2, r3⟩, st⟩ := X.specialBack hx hy1 hown (mvT hZ w1) (mvT hZ w2) (mvT hZ w4) hy (backOf (W := W) M hZ w4 w3 hf hl) hg hsize (Steps.refl _) hlen hstack hW hdg (fun _ _ => ⟨has, eT, hc, hs⟩)
  dsimp only [Pt.U, Pt.locs, Pt.cells, Pt.slots] at X' r1 r2 r3 st hQ
  subst r1 r2 r3
  exact ⟨v, T', L, X', hQ, fun _ k => st.trans k⟩
theorem nb0 : nar .boolean (0 : Int32) = 0 := by decide
theorem nb1 : nar .boolean (1 : Int32) = 1 := by decide
end Own
theorem d1_0 : decode prog_1_method_6_code 0 = .ok (.iload_n 1, 1) := by decide +kernel
theorem d1_1 : decode prog_1_method_6_code 1 = .ok (.aload_n 0, 1) := by decide +kernel
theorem d1_2 : decode prog_1_method_6_code 2 = .ok (.getfield 46, 3) := by decide +kernel
theorem d1_5 : decode prog_1_method_6_code 5 = .ok (.if_icmp .ge 7, 3) := by decide +kernel
theorem d1_8 : decode prog_1_method_6_code 8 = .ok (.iconst 1, 1) := by decide +kernel
theorem d1_9 : decode prog_1_method_6_code 9 = .ok (.goto 4, 3) := by decide +kernel
theorem d1_12 : decode prog_1_method_6_code 12 = .ok (.iconst 0, 1) := by decide +kernel
theorem d1_13 : decode prog_1_method_6_code 13 = .ok (.ireturn, 1) := by decide +kernel
theorem pn_0 : plainName "com/example/bounds/bounds/Combination" = true := by first | (simp [plainName, overriddenIn]; done) | decide +kernel
theorem ef1 (m : MethodId) (x0 : Addr) (x1 : Int32) : entryFrame m #[(.ref x0), (.int x1)] 2 = mkF m 0 #[.val (.ref x0), .val (.int x1)] [] := by first | (simp [entryFrame, mkF, argsToLocals, Value.category]; done) | rfl
def f1 (p1 : Int32) (t : Int32) : Int32 := (if p1 < t then (1 : Int32) else (0 : Int32))
set_option maxRecDepth 65536 in
set_option maxHeartbeats 40000000 in
theorem rm1 (l : Launch) (Z : State) (a0 : Array Value) (hw : ∀ d ∈ tables_1, d.before a0 Z = true) (ws : List Jvm.Cond) (o0 : Addr) (p1 : Int32) (t : Int32) (h0 : Heap) (F_taken : Fld Z h0 o0 "com/example/bounds/bounds/Combination" "taken" "I" (.int t)) :
    Cmet l Z (⟨"com/example/bounds/bounds/Combination", "counts", "(I)Z"⟩ : MethodName) prog_1_method_6_code 2 (some .boolean) ws ({ frames := 0, cells := 0, slots := 0, locals := 0 } : Room) #[(.ref o0), (.int p1)] h0 (fun v h' L => v = some (.int (f1 p1 t)) ∧ h' = h0 ∧ L = []) := by
  refine MetFree.of_bodySF (plainFor_of_name pn_0) hisR ?_
  intro p e s m args below meth c s₁ Bd hml0 hP hK
  obtain ⟨rfl, hZ, hh⟩ := hP
  have hx := Bd.exec
  have hlk : meth.locks = false := BodyLoose.notSynchronized Bd
  have hby := Bd.bytes
  have hml : c.maxLocals = 2 := hml0
  have hown : s.vm.findClass "com/example/bounds/bounds/Combination" = some m.cls := findClass_of_methodNamed Bd.named
  have hnm := (name_of_methodNamed Bd.named Bd.method).1
  have X0 : Stand p l e ({ frames := 0, cells := 0, slots := 0, locals := 0 } : Room) s m #[(.ref o0), (.int p1)] below meth c s₁ [] 0 0 := Stand.of_body Bd
  have e0 : s₁.heap = h0 := by rw [← hh, Bd.state]; rfl
  have hv0 : f1 p1 t = f1 p1 t := rfl
  show Fini p e below s (fun v h' L => v = some (.int (f1 p1 t)) ∧ h' = h0 ∧ L = []) _ _ s₁ (entryFrame m #[(.ref o0), (.int p1)] 2)
  refine Fini.cast (ef1 m o0 p1) ?_
  show Fini p e below s _ _ _ s₁ (mkF m 0 #[.val (.ref o0), .val (.int p1)] [])
  refine Fini.st (fun _ k => XS.iloadN X0.here hx rfl (hb hby d1_0) rfl k) ?_
  show Fini p e below s _ _ _ s₁ (mkF m 1 #[.val (.ref o0), .val (.int p1)] [(.int p1)])
  refine Fini.st (fun _ k => XS.aloadN X0.here hx rfl (hb hby d1_1) rfl rfl k) ?_
  show Fini p e below s _ _ _ s₁ (mkF m 2 #[.val (.ref o0), .val (.int p1)] [(.ref o0), (.int p1)])
  obtain ⟨T1, X1, e1, st1⟩ := getF X0 hx hZ hown (host := "") (Or.inl (hw _ (List.mem_of_getElem? (i := 9) rfl))) Via.refl e0 F_taken (g := (mkF m 2 #[.val (.ref o0), .val (.int p1)] [(.ref o0), (.int p1)])) rfl rfl (hb hby d1_2)
  refine Fini.st st1 ?_
  show Fini p e below s _ _ _ T1 (mkF m 5 #[.val (.ref o0), .val (.int p1)] [(.int t), (.int p1)])
  by_cases c2 : p1 < t
  · have hv3 := hv0.trans (if_pos c2)
    refine Fini.st (fun _ k => XS.icmpNo X1.here hx rfl (hb hby d1_5) rfl (XT.ii_ge_f c2) k) ?_
    show Fini p e below s _ _ _ T1 (mkF m 8 #[.val (.ref o0), .val (.int p1)] [])
    refine Fini.st (fun _ k => XS.iconst X1.here hx rfl (hb hby d1_8) k) ?_
    show Fini p e below s _ _ _ T1 (mkF m 9 #[.val (.ref o0), .val (.int p1)] [(.int (1 : Int32))])
    refine Fini.st (fun _ k => XS.goto X1.here hx rfl (pc0 := 9) (pc' := 13) rfl (hb hby d1_9) (by decide) (by decide) k) ?_
    show Fini p e below s _ _ _ T1 (mkF m 13 #[.val (.ref o0), .val (.int p1)] [(.int (1 : Int32))])
    exact Fini.retN X1 hx hlk (t := .boolean) Bd.returns (by simp) (hb hby d1_13) nb1 (by decide) (by decide) ⟨congrArg (fun z => some (Value.int z)) hv3.symm, e1, rfl⟩
  · have hv4 := hv0.trans (if_neg c2)
    refine Fini.st (fun _ k => XS.icmpYes X1.here hx rfl (pc0 := 5) (pc' := 12) rfl (hb hby d1_5) rfl (XT.ii_ge_t c2) (by decide) (by decide) k) ?_
    show Fini p e below s _ _ _ T1 (mkF m 12 #[.val (.ref o0), .val (.int p1)] [])
    refine Fini.st (fun _ k => XS.iconst X1.here hx rfl (hb hby d1_12) k) ?_
    show Fini p e below s _ _ _ T1 (mkF m 13 #[.val (.ref o0), .val (.int p1)] [(.int (0 : Int32))])
    exact Fini.retN X1 hx hlk (t := .boolean) Bd.returns (by simp) (hb hby d1_13) nb0 (by decide) (by decide) ⟨congrArg (fun z => some (Value.int z)) hv4.symm, e1, rfl⟩
theorem pd_0 : parseMethodDescriptor "(I)Z" = some ⟨[.int], some .boolean⟩ := by decide +kernel
theorem pn_1 : plainName "com/example/bounds/bounds/CombinationCountsPinLaw" = true := by first | (simp [plainName, overriddenIn]; done) | decide +kernel
theorem ef0 (m : MethodId) (x0 : Int32) (x1 : Int32) : entryFrame m #[(.int x0), (.int x1)] maxLocals = mkF m 0 #[.val (.int x0), .val (.int x1), .unset, .unset, .unset] [] := by first | (simp [entryFrame, mkF, argsToLocals, Value.category, maxLocals]; done) | rfl
def f0_68 (p0 : Int32) (p1 : Int32) (z68_s0 : Int32) : Int32 := (if (f1 (p1 &&& (1 : Int32)) (1 : Int32)) = z68_s0 then (1 : Int32) else (0 : Int32))
def f0 (p0 : Int32) (p1 : Int32) : Int32 := (if (p0 &&& (3 : Int32)) = (0 : Int32) then (nar .boolean (f1 ((p1 &&& (2147483647 : Int32)) % (2147483647 : Int32)) (2147483647 : Int32))) else (if (p0 &&& (3 : Int32)) = (1 : Int32) then (nar .boolean (f1 ((p1 &&& (2147483647 : Int32)) % (2147483647 : Int32)) (2147483647 : Int32))) else (if (p0 &&& (3 : Int32)) = (2 : Int32) then (if (p1 &&& (1 : Int32)) = (0 : Int32) then (f0_68 p0 p1 (1 : Int32)) else (f0_68 p0 p1 (0 : Int32))) else (if (f1 (0 : Int32) (0 : Int32)) = (0 : Int32) then (1 : Int32) else (0 : Int32)))))
set_option maxRecDepth 65536 in
set_option maxHeartbeats 40000000 in
theorem rm0 (l : Launch) (Z : State) (a0 : Array Value) (hw : ∀ d ∈ tables_1, d.before a0 Z = true) (ws : List Jvm.Cond) (p0 : Int32) (p1 : Int32) (u0 : Addr) (u1 : Addr) (u2 : Addr) (u3 : Addr) (h0 : Heap) (S_UNION : Sta Z h0 "com/example/bounds/bounds/Combination" "UNION" "Lcom/example/bounds/bounds/Combination;" (.ref u0)) (E_UNION : Exa Z h0 u0 "com/example/bounds/bounds/Combination") (F_UNION : Fld Z h0 u0 "com/example/bounds/bounds/Combination" "taken" "I" (.int (2147483647 : Int32))) (S_INTERSECTION : Sta Z h0 "com/example/bounds/bounds/Combination" "INTERSECTION" "Lcom/example/bounds/bounds/Combination;" (.ref u1)) (E_INTERSECTION : Exa Z h0 u1 "com/example/bounds/bounds/Combination") (F_INTERSECTION : Fld Z h0 u1 "com/example/bounds/bounds/Combination" "taken" "I" (.int (2147483647 : Int32))) (S_DIFFERENCE : Sta Z h0 "com/example/bounds/bounds/Combination" "DIFFERENCE" "Lcom/example/bounds/bounds/Combination;" (.ref u2)) (E_DIFFERENCE : Exa Z h0 u2 "com/example/bounds/bounds/Combination") (F_DIFFERENCE : Fld Z h0 u2 "com/example/bounds/bounds/Combination" "taken" "I" (.int (1 : Int32))) (S_OUTSIDE : Sta Z h0 "com/example/bounds/bounds/Combination" "OUTSIDE" "Lcom/example/bounds/bounds/Combination;" (.ref u3)) (E_OUTSIDE : Exa Z h0 u3 "com/example/bounds/bounds/Combination") (F_OUTSIDE : Fld Z h0 u3 "com/example/bounds/bounds/Combination" "taken" "I" (.int (0 : Int32))) :
    Cmet l Z x code maxLocals ret ws room_1 #[(.int p0), (.int p1)] h0 (fun v h' L => v = some (.int (f0 p0 p1)) ∧ h' = h0 ∧ L = []) := by
  refine MetFree.of_bodySF (plainFor_of_name pn_1) hisR ?_
  intro p e s m args below meth c s₁ Bd hml0 hP hK
  obtain ⟨rfl, hZ, hh⟩ := hP
  have hx := Bd.exec
  have hlk : meth.locks = false := BodyLoose.notSynchronized Bd
  have hby := Bd.bytes
  have hml : c.maxLocals = 5 := hml0
  have hown : s.vm.findClass "com/example/bounds/bounds/CombinationCountsPinLaw" = some m.cls := findClass_of_methodNamed Bd.named
  have hnm := (name_of_methodNamed Bd.named Bd.method).1
  have X0 : Stand p l e room_1 s m #[(.int p0), (.int p1)] below meth c s₁ [] 0 0 := Stand.of_body Bd
  have e0 : s₁.heap = h0 := by rw [← hh, Bd.state]; rfl
  have hv0 : f0 p0 p1 = f0 p0 p1 := rfl
  have B68 : ∀ (T_68 : State) (X_68 : Stand p l e room_1 s m #[(.int p0), (.int p1)] below meth c T_68 [] 0 0) (e_68 : T_68.heap = h0) (z68_s0 : Int32), f0 p0 p1 = f0_68 p0 p1 z68_s0 → Fini p e below s (fun v h' L => v = some (.int (f0 p0 p1)) ∧ h' = h0 ∧ L = []) (Room.cells room_1) (Room.slots room_1) T_68 (mkF m 68 #[.val (.int p0), .val (.int p1), .val (.int (p0 &&& (3 : Int32))), .val (.int (p1 &&& (1 : Int32))), .unset] [(.int z68_s0), (.int (f1 (p1 &&& (1 : Int32)) (1 : Int32)))]) := by
    intro T_68 X_68 e_68 z68_s0 hv_68
    by_cases c24 : (f1 (p1 &&& (1 : Int32)) (1 : Int32)) = z68_s0
    · have hv25 := hv_68.trans (if_pos c24)
      refine Fini.st (fun _ k => XS.icmpNo X_68.here hx rfl (hb hby at_68) rfl (XT.ii_ne_f c24) k) ?_
      show Fini p e below s _ _ _ T_68 (mkF m 71 #[.val (.int p0), .val (.int p1), .val (.int (p0 &&& (3 : Int32))), .val (.int (p1 &&& (1 : Int32))), .unset] [])
      refine Fini.st (fun _ k => XS.iconst X_68.here hx rfl (hb hby at_71) k) ?_
      show Fini p e below s _ _ _ T_68 (mkF m 72 #[.val (.int p0), .val (.int p1), .val (.int (p0 &&& (3 : Int32))), .val (.int (p1 &&& (1 : Int32))), .unset] [(.int (1 : Int32))])
      refine Fini.st (fun _ k => XS.goto X_68.here hx rfl (pc0 := 72) (pc' := 76) rfl (hb hby at_72) (by decide) (by decide) k) ?_
      show Fini p e below s _ _ _ T_68 (mkF m 76 #[.val (.int p0), .val (.int p1), .val (.int (p0 &&& (3 : Int32))), .val (.int (p1 &&& (1 : Int32))), .unset] [(.int (1 : Int32))])
      exact Fini.retN X_68 hx hlk (t := .boolean) Bd.returns (by simp) (hb hby at_76) nb1 (by decide) (by decide) ⟨congrArg (fun z => some (Value.int z)) hv25.symm, e_68, rfl⟩
    · have hv26 := hv_68.trans (if_neg c24)
      refine Fini.st (fun _ k => XS.icmpYes X_68.here hx rfl (pc0 := 68) (pc' := 75) rfl (hb hby at_68) rfl (XT.ii_ne_t c24) (by decide) (by decide) k) ?_
      show Fini p e below s _ _ _ T_68 (mkF m 75 #[.val (.int p0), .val (.int p1), .val (.int (p0 &&& (3 : Int32))), .val (.int (p1 &&& (1 : Int32))), .unset] [])
      refine Fini.st (fun _ k => XS.iconst X_68.here hx rfl (hb hby at_75) k) ?_
      show Fini p e below s _ _ _ T_68 (mkF m 76 #[.val (.int p0), .val (.int p1), .val (.int (p0 &&& (3 : Int32))), .val (.int (p1 &&& (1 : Int32))), .unset] [(.int (0 : Int32))])
      exact Fini.retN X_68 hx hlk (t := .boolean) Bd.returns (by simp) (hb hby at_76) nb0 (by decide) (by decide) ⟨congrArg (fun z => some (Value.int z)) hv26.symm, e_68, rfl⟩
  show Fini p e below s (fun v h' L => v = some (.int (f0 p0 p1)) ∧ h' = h0 ∧ L = []) _ _ s₁ (entryFrame m #[(.int p0), (.int p1)] maxLocals)
  refine Fini.cast (ef0 m p0 p1) ?_
  show Fini p e below s _ _ _ s₁ (mkF m 0 #[.val (.int p0), .val (.int p1), .unset, .unset, .unset] [])
  refine Fini.st (fun _ k => XS.iloadN X0.here hx rfl (hb hby at_0) rfl k) ?_
  show Fini p e below s _ _ _ s₁ (mkF m 1 #[.val (.int p0), .val (.int p1), .unset, .unset, .unset] [(.int p0)])
  refine Fini.st (fun _ k => XS.iconst X0.here hx rfl (hb hby at_1) k) ?_
  show Fini p e below s _ _ _ s₁ (mkF m 2 #[.val (.int p0), .val (.int p1), .unset, .unset, .unset] [(.int (3 : Int32)), (.int p0)])
  refine Fini.st (fun _ k => XS.iand X0.here hx rfl (hb hby at_2) rfl k) ?_
  show Fini p e below s _ _ _ s₁ (mkF m 3 #[.val (.int p0), .val (.int p1), .unset, .unset, .unset] [(.int (p0 &&& (3 : Int32)))])
  refine Fini.st (fun _ k => XS.istoreN X0.here hx rfl (hb hby at_3) rfl (l' := #[.val (.int p0), .val (.int p1), .val (.int (p0 &&& (3 : Int32))), .unset, .unset]) rfl k) ?_
  show Fini p e below s _ _ _ s₁ (mkF m 4 #[.val (.int p0), .val (.int p1), .val (.int (p0 &&& (3 : Int32))), .unset, .unset] [])
  refine Fini.st (fun _ k => XS.iloadN X0.here hx rfl (hb hby at_4) rfl k) ?_
  show Fini p e below s _ _ _ s₁ (mkF m 5 #[.val (.int p0), .val (.int p1), .val (.int (p0 &&& (3 : Int32))), .unset, .unset] [(.int (p0 &&& (3 : Int32)))])
  by_cases c1 : (p0 &&& (3 : Int32)) = (0 : Int32)
  · have hv2 := hv0.trans (if_pos c1)
    refine Fini.st (fun _ k => XS.ifYes X0.here hx rfl (pc0 := 5) (pc' := 13) rfl (hb hby at_5) rfl (XT.i0_eq_t c1) (by decide) (by decide) k) ?_
    show Fini p e below s _ _ _ s₁ (mkF m 13 #[.val (.int p0), .val (.int p1), .val (.int (p0 &&& (3 : Int32))), .unset, .unset] [])
    refine Fini.st (fun _ k => XS.iloadN X0.here hx rfl (hb hby at_13) rfl k) ?_
    show Fini p e below s _ _ _ s₁ (mkF m 14 #[.val (.int p0), .val (.int p1), .val (.int (p0 &&& (3 : Int32))), .unset, .unset] [(.int (p0 &&& (3 : Int32)))])
    refine Fini.st (fun _ k => XS.ifNo X0.here hx rfl (hb hby at_14) rfl (XT.i0_ne_f c1) k) ?_
    show Fini p e below s _ _ _ s₁ (mkF m 17 #[.val (.int p0), .val (.int p1), .val (.int (p0 &&& (3 : Int32))), .unset, .unset] [])
    obtain ⟨T3, X3, e3, st3⟩ := getS2 X0 hx hZ hown (host := "") (Or.inl (hw _ (List.mem_of_getElem? (i := 0) rfl))) Via.refl e0 S_UNION (g := (mkF m 17 #[.val (.int p0), .val (.int p1), .val (.int (p0 &&& (3 : Int32))), .unset, .unset] [])) rfl (hb hby at_17)
    refine Fini.st st3 ?_
    show Fini p e below s _ _ _ T3 (mkF m 20 #[.val (.int p0), .val (.int p1), .val (.int (p0 &&& (3 : Int32))), .unset, .unset] [(.ref u0)])
    refine Fini.st (fun _ k => XS.goto X3.here hx rfl (pc0 := 20) (pc' := 26) rfl (hb hby at_20) (by decide) (by decide) k) ?_
    show Fini p e below s _ _ _ T3 (mkF m 26 #[.val (.int p0), .val (.int p1), .val (.int (p0 &&& (3 : Int32))), .unset, .unset] [(.ref u0)])
    refine Fini.st (fun _ k => XS.astoreN X3.here hx rfl (hb hby at_26) rfl rfl (l' := #[.val (.int p0), .val (.int p1), .val (.int (p0 &&& (3 : Int32))), .val (.ref u0), .unset]) rfl k) ?_
    show Fini p e below s _ _ _ T3 (mkF m 27 #[.val (.int p0), .val (.int p1), .val (.int (p0 &&& (3 : Int32))), .val (.ref u0), .unset] [])
    refine Fini.st (fun _ k => XS.iloadN X3.here hx rfl (hb hby at_27) rfl k) ?_
    show Fini p e below s _ _ _ T3 (mkF m 28 #[.val (.int p0), .val (.int p1), .val (.int (p0 &&& (3 : Int32))), .val (.ref u0), .unset] [(.int p1)])
    refine Fini.st (fun _ k => X3.ldcI hx hown (mvT hZ (hw _ (List.mem_of_getElem? (i := 3) rfl))) rfl (hb hby at_28) k) ?_
    show Fini p e below s _ _ _ T3 (mkF m 30 #[.val (.int p0), .val (.int p1), .val (.int (p0 &&& (3 : Int32))), .val (.ref u0), .unset] [(.int (2147483647 : Int32)), (.int p1)])
    refine Fini.st (fun _ k => XS.iand X3.here hx rfl (hb hby at_30) rfl k) ?_
    show Fini p e below s _ _ _ T3 (mkF m 31 #[.val (.int p0), .val (.int p1), .val (.int (p0 &&& (3 : Int32))), .val (.ref u0), .unset] [(.int (p1 &&& (2147483647 : Int32)))])
    refine Fini.st (fun _ k => X3.ldcI hx hown (mvT hZ (hw _ (List.mem_of_getElem? (i := 3) rfl))) rfl (hb hby at_31) k) ?_
    show Fini p e below s _ _ _ T3 (mkF m 33 #[.val (.int p0), .val (.int p1), .val (.int (p0 &&& (3 : Int32))), .val (.ref u0), .unset] [(.int (2147483647 : Int32)), (.int (p1 &&& (2147483647 : Int32)))])
    refine Fini.st (fun _ k => iremM X3 hx rfl (hb hby at_33) rfl (by decide) k) ?_
    show Fini p e below s _ _ _ T3 (mkF m 34 #[.val (.int p0), .val (.int p1), .val (.int (p0 &&& (3 : Int32))), .val (.ref u0), .unset] [(.int ((p1 &&& (2147483647 : Int32)) % (2147483647 : Int32)))])
    refine Fini.st (fun _ k => XS.istore X3.here hx rfl (hb hby at_34) rfl (l' := #[.val (.int p0), .val (.int p1), .val (.int (p0 &&& (3 : Int32))), .val (.ref u0), .val (.int ((p1 &&& (2147483647 : Int32)) % (2147483647 : Int32)))]) rfl k) ?_
    show Fini p e below s _ _ _ T3 (mkF m 36 #[.val (.int p0), .val (.int p1), .val (.int (p0 &&& (3 : Int32))), .val (.ref u0), .val (.int ((p1 &&& (2147483647 : Int32)) % (2147483647 : Int32)))] [])
    refine Fini.st (fun _ k => XS.aloadN X3.here hx rfl (hb hby at_36) rfl rfl k) ?_
    show Fini p e below s _ _ _ T3 (mkF m 37 #[.val (.int p0), .val (.int p1), .val (.int (p0 &&& (3 : Int32))), .val (.ref u0), .val (.int ((p1 &&& (2147483647 : Int32)) % (2147483647 : Int32)))] [(.ref u0)])
    refine Fini.st (fun _ k => XS.iload X3.here hx rfl (hb hby at_37) rfl k) ?_
    show Fini p e below s _ _ _ T3 (mkF m 39 #[.val (.int p0), .val (.int p1), .val (.int (p0 &&& (3 : Int32))), .val (.ref u0), .val (.int ((p1 &&& (2147483647 : Int32)) % (2147483647 : Int32)))] [(.int ((p1 &&& (2147483647 : Int32)) % (2147483647 : Int32))), (.ref u0)])
    obtain ⟨T4, X4, e4, st4⟩ := pureV X3 hx hZ hown (hw _ (List.mem_of_getElem? (i := 4) rfl)) (hw _ (List.mem_of_getElem? (i := 5) rfl)) (hw _ (List.mem_of_getElem? (i := 7) rfl)) (hw _ (List.mem_of_getElem? (i := 6) rfl)) (hw _ (List.mem_of_getElem? (i := 1) rfl)) (hw _ (List.mem_of_getElem? (i := 8) rfl)) (notFace_of_selects (args := #[]) (mvT hZ (hw _ (List.mem_of_getElem? (i := 7) rfl)))) E_UNION (by decide) (rm1 l Z a0 hw [] u0 ((p1 &&& (2147483647 : Int32)) % (2147483647 : Int32)) (2147483647 : Int32) h0 F_UNION) e3 (W := 0) (by decide) (by decide) (by decide) (by decide) (g := (mkF m 39 #[.val (.int p0), .val (.int p1), .val (.int (p0 &&& (3 : Int32))), .val (.ref u0), .val (.int ((p1 &&& (2147483647 : Int32)) % (2147483647 : Int32)))] [(.int ((p1 &&& (2147483647 : Int32)) % (2147483647 : Int32))), (.ref u0)])) rfl (by rw [hml]; rfl) (argsL := [(.int ((p1 &&& (2147483647 : Int32)) % (2147483647 : Int32)))]) (rest := []) rfl (lenOf pd_0 rfl) rfl (by show 2 * 0 + _ ≤ _; exact Nat.le_of_eq rfl) (hb hby at_39)
    refine Fini.st st4 ?_
    show Fini p e below s _ _ _ T4 (mkF m 42 #[.val (.int p0), .val (.int p1), .val (.int (p0 &&& (3 : Int32))), .val (.ref u0), .val (.int ((p1 &&& (2147483647 : Int32)) % (2147483647 : Int32)))] [(.int (f1 ((p1 &&& (2147483647 : Int32)) % (2147483647 : Int32)) (2147483647 : Int32)))])
    exact Fini.retN X4 hx hlk (t := .boolean) Bd.returns (by simp) (hb hby at_42) rfl (by decide) (by decide) ⟨congrArg (fun z => some (Value.int z)) hv2.symm, e4, rfl⟩
  · have hv5 := hv0.trans (if_neg c1)
    refine Fini.st (fun _ k => XS.ifNo X0.here hx rfl (hb hby at_5) rfl (XT.i0_eq_f c1) k) ?_
    show Fini p e below s _ _ _ s₁ (mkF m 8 #[.val (.int p0), .val (.int p1), .val (.int (p0 &&& (3 : Int32))), .unset, .unset] [])
    refine Fini.st (fun _ k => XS.iloadN X0.here hx rfl (hb hby at_8) rfl k) ?_
    show Fini p e below s _ _ _ s₁ (mkF m 9 #[.val (.int p0), .val (.int p1), .val (.int (p0 &&& (3 : Int32))), .unset, .unset] [(.int (p0 &&& (3 : Int32)))])
    refine Fini.st (fun _ k => XS.iconst X0.here hx rfl (hb hby at_9) k) ?_
    show Fini p e below s _ _ _ s₁ (mkF m 10 #[.val (.int p0), .val (.int p1), .val (.int (p0 &&& (3 : Int32))), .unset, .unset] [(.int (1 : Int32)), (.int (p0 &&& (3 : Int32)))])
    by_cases c6 : (p0 &&& (3 : Int32)) = (1 : Int32)
    · have hv7 := hv5.trans (if_pos c6)
      refine Fini.st (fun _ k => XS.icmpNo X0.here hx rfl (hb hby at_10) rfl (XT.ii_ne_f c6) k) ?_
      show Fini p e below s _ _ _ s₁ (mkF m 13 #[.val (.int p0), .val (.int p1), .val (.int (p0 &&& (3 : Int32))), .unset, .unset] [])
      refine Fini.st (fun _ k => XS.iloadN X0.here hx rfl (hb hby at_13) rfl k) ?_
      show Fini p e below s _ _ _ s₁ (mkF m 14 #[.val (.int p0), .val (.int p1), .val (.int (p0 &&& (3 : Int32))), .unset, .unset] [(.int (p0 &&& (3 : Int32)))])
      refine Fini.st (fun _ k => XS.ifYes X0.here hx rfl (pc0 := 14) (pc' := 23) rfl (hb hby at_14) rfl (XT.i0_ne_t c1) (by decide) (by decide) k) ?_
      show Fini p e below s _ _ _ s₁ (mkF m 23 #[.val (.int p0), .val (.int p1), .val (.int (p0 &&& (3 : Int32))), .unset, .unset] [])
      obtain ⟨T8, X8, e8, st8⟩ := getS2 X0 hx hZ hown (host := "") (Or.inl (hw _ (List.mem_of_getElem? (i := 13) rfl))) Via.refl e0 S_INTERSECTION (g := (mkF m 23 #[.val (.int p0), .val (.int p1), .val (.int (p0 &&& (3 : Int32))), .unset, .unset] [])) rfl (hb hby at_23)
      refine Fini.st st8 ?_
      show Fini p e below s _ _ _ T8 (mkF m 26 #[.val (.int p0), .val (.int p1), .val (.int (p0 &&& (3 : Int32))), .unset, .unset] [(.ref u1)])
      refine Fini.st (fun _ k => XS.astoreN X8.here hx rfl (hb hby at_26) rfl rfl (l' := #[.val (.int p0), .val (.int p1), .val (.int (p0 &&& (3 : Int32))), .val (.ref u1), .unset]) rfl k) ?_
      show Fini p e below s _ _ _ T8 (mkF m 27 #[.val (.int p0), .val (.int p1), .val (.int (p0 &&& (3 : Int32))), .val (.ref u1), .unset] [])
      refine Fini.st (fun _ k => XS.iloadN X8.here hx rfl (hb hby at_27) rfl k) ?_
      show Fini p e below s _ _ _ T8 (mkF m 28 #[.val (.int p0), .val (.int p1), .val (.int (p0 &&& (3 : Int32))), .val (.ref u1), .unset] [(.int p1)])
      refine Fini.st (fun _ k => X8.ldcI hx hown (mvT hZ (hw _ (List.mem_of_getElem? (i := 3) rfl))) rfl (hb hby at_28) k) ?_
      show Fini p e below s _ _ _ T8 (mkF m 30 #[.val (.int p0), .val (.int p1), .val (.int (p0 &&& (3 : Int32))), .val (.ref u1), .unset] [(.int (2147483647 : Int32)), (.int p1)])
      refine Fini.st (fun _ k => XS.iand X8.here hx rfl (hb hby at_30) rfl k) ?_
      show Fini p e below s _ _ _ T8 (mkF m 31 #[.val (.int p0), .val (.int p1), .val (.int (p0 &&& (3 : Int32))), .val (.ref u1), .unset] [(.int (p1 &&& (2147483647 : Int32)))])
      refine Fini.st (fun _ k => X8.ldcI hx hown (mvT hZ (hw _ (List.mem_of_getElem? (i := 3) rfl))) rfl (hb hby at_31) k) ?_
      show Fini p e below s _ _ _ T8 (mkF m 33 #[.val (.int p0), .val (.int p1), .val (.int (p0 &&& (3 : Int32))), .val (.ref u1), .unset] [(.int (2147483647 : Int32)), (.int (p1 &&& (2147483647 : Int32)))])
      refine Fini.st (fun _ k => iremM X8 hx rfl (hb hby at_33) rfl (by decide) k) ?_
      show Fini p e below s _ _ _ T8 (mkF m 34 #[.val (.int p0), .val (.int p1), .val (.int (p0 &&& (3 : Int32))), .val (.ref u1), .unset] [(.int ((p1 &&& (2147483647 : Int32)) % (2147483647 : Int32)))])
      refine Fini.st (fun _ k => XS.istore X8.here hx rfl (hb hby at_34) rfl (l' := #[.val (.int p0), .val (.int p1), .val (.int (p0 &&& (3 : Int32))), .val (.ref u1), .val (.int ((p1 &&& (2147483647 : Int32)) % (2147483647 : Int32)))]) rfl k) ?_
      show Fini p e below s _ _ _ T8 (mkF m 36 #[.val (.int p0), .val (.int p1), .val (.int (p0 &&& (3 : Int32))), .val (.ref u1), .val (.int ((p1 &&& (2147483647 : Int32)) % (2147483647 : Int32)))] [])
      refine Fini.st (fun _ k => XS.aloadN X8.here hx rfl (hb hby at_36) rfl rfl k) ?_
      show Fini p e below s _ _ _ T8 (mkF m 37 #[.val (.int p0), .val (.int p1), .val (.int (p0 &&& (3 : Int32))), .val (.ref u1), .val (.int ((p1 &&& (2147483647 : Int32)) % (2147483647 : Int32)))] [(.ref u1)])
      refine Fini.st (fun _ k => XS.iload X8.here hx rfl (hb hby at_37) rfl k) ?_
      show Fini p e below s _ _ _ T8 (mkF m 39 #[.val (.int p0), .val (.int p1), .val (.int (p0 &&& (3 : Int32))), .val (.ref u1), .val (.int ((p1 &&& (2147483647 : Int32)) % (2147483647 : Int32)))] [(.int ((p1 &&& (2147483647 : Int32)) % (2147483647 : Int32))), (.ref u1)])
      obtain ⟨T9, X9, e9, st9⟩ := pureV X8 hx hZ hown (hw _ (List.mem_of_getElem? (i := 4) rfl)) (hw _ (List.mem_of_getElem? (i := 5) rfl)) (hw _ (List.mem_of_getElem? (i := 7) rfl)) (hw _ (List.mem_of_getElem? (i := 6) rfl)) (hw _ (List.mem_of_getElem? (i := 1) rfl)) (hw _ (List.mem_of_getElem? (i := 8) rfl)) (notFace_of_selects (args := #[]) (mvT hZ (hw _ (List.mem_of_getElem? (i := 7) rfl)))) E_INTERSECTION (by decide) (rm1 l Z a0 hw [] u1 ((p1 &&& (2147483647 : Int32)) % (2147483647 : Int32)) (2147483647 : Int32) h0 F_INTERSECTION) e8 (W := 0) (by decide) (by decide) (by decide) (by decide) (g := (mkF m 39 #[.val (.int p0), .val (.int p1), .val (.int (p0 &&& (3 : Int32))), .val (.ref u1), .val (.int ((p1 &&& (2147483647 : Int32)) % (2147483647 : Int32)))] [(.int ((p1 &&& (2147483647 : Int32)) % (2147483647 : Int32))), (.ref u1)])) rfl (by rw [hml]; rfl) (argsL := [(.int ((p1 &&& (2147483647 : Int32)) % (2147483647 : Int32)))]) (rest := []) rfl (lenOf pd_0 rfl) rfl (by show 2 * 0 + _ ≤ _; exact Nat.le_of_eq rfl) (hb hby at_39)
      refine Fini.st st9 ?_
      show Fini p e below s _ _ _ T9 (mkF m 42 #[.val (.int p0), .val (.int p1), .val (.int (p0 &&& (3 : Int32))), .val (.ref u1), .val (.int ((p1 &&& (2147483647 : Int32)) % (2147483647 : Int32)))] [(.int (f1 ((p1 &&& (2147483647 : Int32)) % (2147483647 : Int32)) (2147483647 : Int32)))])
      exact Fini.retN X9 hx hlk (t := .boolean) Bd.returns (by simp) (hb hby at_42) rfl (by decide) (by decide) ⟨congrArg (fun z => some (Value.int z)) hv7.symm, e9, rfl⟩
    · have hv10 := hv5.trans (if_neg c6)
      refine Fini.st (fun _ k => XS.icmpYes X0.here hx rfl (pc0 := 10) (pc' := 43) rfl (hb hby at_10) rfl (XT.ii_ne_t c6) (by decide) (by decide) k) ?_
      show Fini p e below s _ _ _ s₁ (mkF m 43 #[.val (.int p0), .val (.int p1), .val (.int (p0 &&& (3 : Int32))), .unset, .unset] [])
      refine Fini.st (fun _ k => XS.iloadN X0.here hx rfl (hb hby at_43) rfl k) ?_
      show Fini p e below s _ _ _ s₁ (mkF m 44 #[.val (.int p0), .val (.int p1), .val (.int (p0 &&& (3 : Int32))), .unset, .unset] [(.int (p0 &&& (3 : Int32)))])
      refine Fini.st (fun _ k => XS.iconst X0.here hx rfl (hb hby at_44) k) ?_
      show Fini p e below s _ _ _ s₁ (mkF m 45 #[.val (.int p0), .val (.int p1), .val (.int (p0 &&& (3 : Int32))), .unset, .unset] [(.int (2 : Int32)), (.int (p0 &&& (3 : Int32)))])
      by_cases c11 : (p0 &&& (3 : Int32)) = (2 : Int32)
      · have hv12 := hv10.trans (if_pos c11)
        refine Fini.st (fun _ k => XS.icmpNo X0.here hx rfl (hb hby at_45) rfl (XT.ii_ne_f c11) k) ?_
        show Fini p e below s _ _ _ s₁ (mkF m 48 #[.val (.int p0), .val (.int p1), .val (.int (p0 &&& (3 : Int32))), .unset, .unset] [])
        refine Fini.st (fun _ k => XS.iloadN X0.here hx rfl (hb hby at_48) rfl k) ?_
        show Fini p e below s _ _ _ s₁ (mkF m 49 #[.val (.int p0), .val (.int p1), .val (.int (p0 &&& (3 : Int32))), .unset, .unset] [(.int p1)])
        refine Fini.st (fun _ k => XS.iconst X0.here hx rfl (hb hby at_49) k) ?_
        show Fini p e below s _ _ _ s₁ (mkF m 50 #[.val (.int p0), .val (.int p1), .val (.int (p0 &&& (3 : Int32))), .unset, .unset] [(.int (1 : Int32)), (.int p1)])
        refine Fini.st (fun _ k => XS.iand X0.here hx rfl (hb hby at_50) rfl k) ?_
        show Fini p e below s _ _ _ s₁ (mkF m 51 #[.val (.int p0), .val (.int p1), .val (.int (p0 &&& (3 : Int32))), .unset, .unset] [(.int (p1 &&& (1 : Int32)))])
        refine Fini.st (fun _ k => XS.istoreN X0.here hx rfl (hb hby at_51) rfl (l' := #[.val (.int p0), .val (.int p1), .val (.int (p0 &&& (3 : Int32))), .val (.int (p1 &&& (1 : Int32))), .unset]) rfl k) ?_
        show Fini p e below s _ _ _ s₁ (mkF m 52 #[.val (.int p0), .val (.int p1), .val (.int (p0 &&& (3 : Int32))), .val (.int (p1 &&& (1 : Int32))), .unset] [])
        obtain ⟨T13, X13, e13, st13⟩ := getS2 X0 hx hZ hown (host := "") (Or.inl (hw _ (List.mem_of_getElem? (i := 11) rfl))) Via.refl e0 S_DIFFERENCE (g := (mkF m 52 #[.val (.int p0), .val (.int p1), .val (.int (p0 &&& (3 : Int32))), .val (.int (p1 &&& (1 : Int32))), .unset] [])) rfl (hb hby at_52)
        refine Fini.st st13 ?_
        show Fini p e below s _ _ _ T13 (mkF m 55 #[.val (.int p0), .val (.int p1), .val (.int (p0 &&& (3 : Int32))), .val (.int (p1 &&& (1 : Int32))), .unset] [(.ref u2)])
        refine Fini.st (fun _ k => XS.iloadN X13.here hx rfl (hb hby at_55) rfl k) ?_
        show Fini p e below s _ _ _ T13 (mkF m 56 #[.val (.int p0), .val (.int p1), .val (.int (p0 &&& (3 : Int32))), .val (.int (p1 &&& (1 : Int32))), .unset] [(.int (p1 &&& (1 : Int32))), (.ref u2)])
        obtain ⟨T14, X14, e14, st14⟩ := pureV X13 hx hZ hown (hw _ (List.mem_of_getElem? (i := 4) rfl)) (hw _ (List.mem_of_getElem? (i := 5) rfl)) (hw _ (List.mem_of_getElem? (i := 7) rfl)) (hw _ (List.mem_of_getElem? (i := 6) rfl)) (hw _ (List.mem_of_getElem? (i := 1) rfl)) (hw _ (List.mem_of_getElem? (i := 8) rfl)) (notFace_of_selects (args := #[]) (mvT hZ (hw _ (List.mem_of_getElem? (i := 7) rfl)))) E_DIFFERENCE (by decide) (rm1 l Z a0 hw [] u2 (p1 &&& (1 : Int32)) (1 : Int32) h0 F_DIFFERENCE) e13 (W := 0) (by decide) (by decide) (by decide) (by decide) (g := (mkF m 56 #[.val (.int p0), .val (.int p1), .val (.int (p0 &&& (3 : Int32))), .val (.int (p1 &&& (1 : Int32))), .unset] [(.int (p1 &&& (1 : Int32))), (.ref u2)])) rfl (by rw [hml]; rfl) (argsL := [(.int (p1 &&& (1 : Int32)))]) (rest := []) rfl (lenOf pd_0 rfl) rfl (by show 2 * 0 + _ ≤ _; exact Nat.le_of_eq rfl) (hb hby at_56)
        refine Fini.st st14 ?_
        show Fini p e below s _ _ _ T14 (mkF m 59 #[.val (.int p0), .val (.int p1), .val (.int (p0 &&& (3 : Int32))), .val (.int (p1 &&& (1 : Int32))), .unset] [(.int (f1 (p1 &&& (1 : Int32)) (1 : Int32)))])
        refine Fini.st (fun _ k => XS.iloadN X14.here hx rfl (hb hby at_59) rfl k) ?_
        show Fini p e below s _ _ _ T14 (mkF m 60 #[.val (.int p0), .val (.int p1), .val (.int (p0 &&& (3 : Int32))), .val (.int (p1 &&& (1 : Int32))), .unset] [(.int (p1 &&& (1 : Int32))), (.int (f1 (p1 &&& (1 : Int32)) (1 : Int32)))])
        by_cases c15 : (p1 &&& (1 : Int32)) = (0 : Int32)
        · have hv16 := hv12.trans (if_pos c15)
          refine Fini.st (fun _ k => XS.ifNo X14.here hx rfl (hb hby at_60) rfl (XT.i0_ne_f c15) k) ?_
          show Fini p e below s _ _ _ T14 (mkF m 63 #[.val (.int p0), .val (.int p1), .val (.int (p0 &&& (3 : Int32))), .val (.int (p1 &&& (1 : Int32))), .unset] [(.int (f1 (p1 &&& (1 : Int32)) (1 : Int32)))])
          refine Fini.st (fun _ k => XS.iconst X14.here hx rfl (hb hby at_63) k) ?_
          show Fini p e below s _ _ _ T14 (mkF m 64 #[.val (.int p0), .val (.int p1), .val (.int (p0 &&& (3 : Int32))), .val (.int (p1 &&& (1 : Int32))), .unset] [(.int (1 : Int32)), (.int (f1 (p1 &&& (1 : Int32)) (1 : Int32)))])
          refine Fini.st (fun _ k => XS.goto X14.here hx rfl (pc0 := 64) (pc' := 68) rfl (hb hby at_64) (by decide) (by decide) k) ?_
          show Fini p e below s _ _ _ T14 (mkF m 68 #[.val (.int p0), .val (.int p1), .val (.int (p0 &&& (3 : Int32))), .val (.int (p1 &&& (1 : Int32))), .unset] [(.int (1 : Int32)), (.int (f1 (p1 &&& (1 : Int32)) (1 : Int32)))])
          exact B68 T14 X14 e14 (1 : Int32) hv16
        · have hv17 := hv12.trans (if_neg c15)
          refine Fini.st (fun _ k => XS.ifYes X14.here hx rfl (pc0 := 60) (pc' := 67) rfl (hb hby at_60) rfl (XT.i0_ne_t c15) (by decide) (by decide) k) ?_
          show Fini p e below s _ _ _ T14 (mkF m 67 #[.val (.int p0), .val (.int p1), .val (.int (p0 &&& (3 : Int32))), .val (.int (p1 &&& (1 : Int32))), .unset] [(.int (f1 (p1 &&& (1 : Int32)) (1 : Int32)))])
          refine Fini.st (fun _ k => XS.iconst X14.here hx rfl (hb hby at_67) k) ?_
          show Fini p e below s _ _ _ T14 (mkF m 68 #[.val (.int p0), .val (.int p1), .val (.int (p0 &&& (3 : Int32))), .val (.int (p1 &&& (1 : Int32))), .unset] [(.int (0 : Int32)), (.int (f1 (p1 &&& (1 : Int32)) (1 : Int32)))])
          exact B68 T14 X14 e14 (0 : Int32) hv17
      · have hv18 := hv10.trans (if_neg c11)
        refine Fini.st (fun _ k => XS.icmpYes X0.here hx rfl (pc0 := 45) (pc' := 77) rfl (hb hby at_45) rfl (XT.ii_ne_t c11) (by decide) (by decide) k) ?_
        show Fini p e below s _ _ _ s₁ (mkF m 77 #[.val (.int p0), .val (.int p1), .val (.int (p0 &&& (3 : Int32))), .unset, .unset] [])
        obtain ⟨T19, X19, e19, st19⟩ := getS2 X0 hx hZ hown (host := "") (Or.inl (hw _ (List.mem_of_getElem? (i := 15) rfl))) Via.refl e0 S_OUTSIDE (g := (mkF m 77 #[.val (.int p0), .val (.int p1), .val (.int (p0 &&& (3 : Int32))), .unset, .unset] [])) rfl (hb hby at_77)
        refine Fini.st st19 ?_
        show Fini p e below s _ _ _ T19 (mkF m 80 #[.val (.int p0), .val (.int p1), .val (.int (p0 &&& (3 : Int32))), .unset, .unset] [(.ref u3)])
        refine Fini.st (fun _ k => XS.iconst X19.here hx rfl (hb hby at_80) k) ?_
        show Fini p e below s _ _ _ T19 (mkF m 81 #[.val (.int p0), .val (.int p1), .val (.int (p0 &&& (3 : Int32))), .unset, .unset] [(.int (0 : Int32)), (.ref u3)])
        obtain ⟨T20, X20, e20, st20⟩ := pureV X19 hx hZ hown (hw _ (List.mem_of_getElem? (i := 4) rfl)) (hw _ (List.mem_of_getElem? (i := 5) rfl)) (hw _ (List.mem_of_getElem? (i := 7) rfl)) (hw _ (List.mem_of_getElem? (i := 6) rfl)) (hw _ (List.mem_of_getElem? (i := 1) rfl)) (hw _ (List.mem_of_getElem? (i := 8) rfl)) (notFace_of_selects (args := #[]) (mvT hZ (hw _ (List.mem_of_getElem? (i := 7) rfl)))) E_OUTSIDE (by decide) (rm1 l Z a0 hw [] u3 (0 : Int32) (0 : Int32) h0 F_OUTSIDE) e19 (W := 0) (by decide) (by decide) (by decide) (by decide) (g := (mkF m 81 #[.val (.int p0), .val (.int p1), .val (.int (p0 &&& (3 : Int32))), .unset, .unset] [(.int (0 : Int32)), (.ref u3)])) rfl (by rw [hml]; rfl) (argsL := [(.int (0 : Int32))]) (rest := []) rfl (lenOf pd_0 rfl) rfl (by show 2 * 0 + _ ≤ _; exact Nat.le_of_eq rfl) (hb hby at_81)
        refine Fini.st st20 ?_
        show Fini p e below s _ _ _ T20 (mkF m 84 #[.val (.int p0), .val (.int p1), .val (.int (p0 &&& (3 : Int32))), .unset, .unset] [(.int (f1 (0 : Int32) (0 : Int32)))])
        by_cases c21 : (f1 (0 : Int32) (0 : Int32)) = (0 : Int32)
        · have hv22 := hv18.trans (if_pos c21)
          refine Fini.st (fun _ k => XS.ifNo X20.here hx rfl (hb hby at_84) rfl (XT.i0_ne_f c21) k) ?_
          show Fini p e below s _ _ _ T20 (mkF m 87 #[.val (.int p0), .val (.int p1), .val (.int (p0 &&& (3 : Int32))), .unset, .unset] [])
          refine Fini.st (fun _ k => XS.iconst X20.here hx rfl (hb hby at_87) k) ?_
          show Fini p e below s _ _ _ T20 (mkF m 88 #[.val (.int p0), .val (.int p1), .val (.int (p0 &&& (3 : Int32))), .unset, .unset] [(.int (1 : Int32))])
          refine Fini.st (fun _ k => XS.goto X20.here hx rfl (pc0 := 88) (pc' := 92) rfl (hb hby at_88) (by decide) (by decide) k) ?_
          show Fini p e below s _ _ _ T20 (mkF m 92 #[.val (.int p0), .val (.int p1), .val (.int (p0 &&& (3 : Int32))), .unset, .unset] [(.int (1 : Int32))])
          exact Fini.retN X20 hx hlk (t := .boolean) Bd.returns (by simp) (hb hby at_92) nb1 (by decide) (by decide) ⟨congrArg (fun z => some (Value.int z)) hv22.symm, e20, rfl⟩
        · have hv23 := hv18.trans (if_neg c21)
          refine Fini.st (fun _ k => XS.ifYes X20.here hx rfl (pc0 := 84) (pc' := 91) rfl (hb hby at_84) rfl (XT.i0_ne_t c21) (by decide) (by decide) k) ?_
          show Fini p e below s _ _ _ T20 (mkF m 91 #[.val (.int p0), .val (.int p1), .val (.int (p0 &&& (3 : Int32))), .unset, .unset] [])
          refine Fini.st (fun _ k => XS.iconst X20.here hx rfl (hb hby at_91) k) ?_
          show Fini p e below s _ _ _ T20 (mkF m 92 #[.val (.int p0), .val (.int p1), .val (.int (p0 &&& (3 : Int32))), .unset, .unset] [(.int (0 : Int32))])
          exact Fini.retN X20 hx hlk (t := .boolean) Bd.returns (by simp) (hb hby at_92) nb0 (by decide) (by decide) ⟨congrArg (fun z => some (Value.int z)) hv23.symm, e20, rfl⟩
theorem own_law (i0 i1 : Int32) : f0 i0 i1 = 1 := by
  have m := c_mask i1 2147483647 31 (by decide) (by decide)
  have r := c_irem (i1 &&& 2147483647) 2147483647 2147483647 rfl
  have tM : (2147483647 : Int32).toInt = 2147483647 := rfl
  have h1 : f1 ((i1 &&& (2147483647 : Int32)) % (2147483647 : Int32)) (2147483647 : Int32) = 1 := by
    unfold f1
    exact if_pos (by rw [Int32.lt_iff_toInt_lt]; omega)
  unfold f0
  by_cases c0 : i0 &&& 3 = 0
  · rw [if_pos c0, h1]; exact nb1
  rw [if_neg c0]
  by_cases c1 : i0 &&& 3 = 1
  · rw [if_pos c1, h1]; exact nb1
  rw [if_neg c1]
  by_cases c2 : i0 &&& 3 = 2
  · rw [if_pos c2]
    have m1 := c_mask i1 1 1 (by decide) (by decide)
    have t0 : (0 : Int32).toInt = 0 := rfl
    have t1 : (1 : Int32).toInt = 1 := rfl
    unfold f0_68 f1
    generalize i1 &&& 1 = x at *
    by_cases q : x = 0
    · subst q; decide
    · have q' : ¬ x.toInt = 0 := fun z => q (Int32.toInt_inj.mp z)
      have r1 : x = 1 := Int32.toInt_inj.mp (by omega)
      subst r1; decide
  · rw [if_neg c2]; decide

theorem own_eqI {args : Array Value} {first s : State} {o : Option Outcome} {idx : List Nat} {a : Term} {n : Int32} (h : (Jvm.Cond.eq a (.int n)).value args first o s idx = some true) : a.eval args first o idx s = some (.int n) := by
  obtain ⟨x, y, h1, h2, k1, k2⟩ := cmp_v (Or.inl h)
  have e2 : y = .int n := Option.some.inj (h2.symm.trans (Term.int_eval n))
  subst e2
  obtain ⟨z, rfl⟩ : ∃ z, x = .int z := k2
  rw [h1, gotT (Cond.eq_ints h1 h2) h]
set_option maxRecDepth 65536 in
set_option maxHeartbeats 40000000 in
theorem comes_1 {Post : Tables → Env → Array Value → State → Outcome → State → Prop} (hpost : ∀ tb e args s v u, (limb_1_1.after args s (.returned v) u = true ∧ limb_1_2.after args s (.returned v) u = true ∧ True) → FrameEnd s (.returned v) u (Jvm.fieldLocs frame_1_writes args s ++ Jvm.arrayLocs frame_1_arrays args s ++ Jvm.staticLocs frame_1_statics s) 0 0 → Post tb e args s (.returned v) u) :
    ArmFor flags0 classFile x code maxLocals ret World_1 tables_1 room_1 Calls_1 rest_1 Pre_1 Post := by
  intro l hfl _ _ p e ha hc hk s m args below hf hA hF happ hP
  obtain ⟨hcalls, hrest, hpre⟩ := hP
  obtain ⟨-, -, -, hnamed, -, -, -, hat⟩ := (Spec.applies_iff hf).mp happ
  obtain ⟨hg, hn⟩ := and_e (Cond.before_iff.mp (show (Jvm.Cond.and given_1 narrow_1).before args s = true from hpre))
  obtain ⟨g1, g2⟩ := and_e hg
  obtain ⟨g3, g4⟩ := and_e g2
  obtain ⟨w0, w1, rfl⟩ : ∃ w0 w1 : Value, args = #[w0, w1] := by
    have hs : args.size = 2 := by simpa [Cond.value, given_1] using g1
    obtain ⟨L⟩ := args
    match L, hs with
    | [w0, w1], _ => exact ⟨w0, w1, rfl⟩
  have hw := fun d (hd : d ∈ tables_1) => atoms_spec (ws := Jvm.Cond.code x code maxLocals ret :: tables_1) hat d (List.mem_cons_of_mem _ hd)
  have hfit : Fit s := fun {y c} hc i hi => by
    obtain ⟨ha, rfl⟩ := Array.getElem?_eq_some_iff.mp hc
    have q := List.all_eq_true.mp ((Array.all_eq_true_iff_forall_mem.mp hF) _ (Array.getElem_mem ha)) i (List.mem_range.mpr hi)
    simpa [Array.getElem?_eq_getElem hi] using q
  obtain ⟨i0, ei0⟩ := is_v g3
  obtain rfl : w0 = (.int i0) := Option.some.inj ei0
  obtain ⟨i1, ei1⟩ := is_v g4
  obtain rfl : w1 = (.int i1) := Option.some.inj ei1
  obtain ⟨g5, g6⟩ := and_e hn
  obtain ⟨g7, g8⟩ := and_e g6
  obtain ⟨g9, g10⟩ := and_e g8
  obtain ⟨g11, g12⟩ := and_e g10
  obtain ⟨g13, g14⟩ := and_e g12
  obtain ⟨g15, g16⟩ := and_e g14
  obtain ⟨g17, g18⟩ := and_e g16
  obtain ⟨u0, _, _, _, ev0, -⟩ := Cond.exactly_spec (Cond.before_iff.mpr g5)
  have S0 := Sta.start ev0 (Or.inr ⟨(hw _ (List.mem_of_getElem? (i := 1) rfl)), (hw _ (List.mem_of_getElem? (i := 2) rfl))⟩)
  have E0 := Exa.start ev0 g5
  have F0 := Fld.start ((fld_at ev0).symm.trans (own_eqI g7))
  obtain ⟨u1, _, _, _, ev1, -⟩ := Cond.exactly_spec (Cond.before_iff.mpr g13)
  have S1 := Sta.start ev1 (Or.inr ⟨(hw _ (List.mem_of_getElem? (i := 1) rfl)), (hw _ (List.mem_of_getElem? (i := 14) rfl))⟩)
  have E1 := Exa.start ev1 g13
  have F1 := Fld.start ((fld_at ev1).symm.trans (own_eqI g15))
  obtain ⟨u2, _, _, _, ev2, -⟩ := Cond.exactly_spec (Cond.before_iff.mpr g9)
  have S2 := Sta.start ev2 (Or.inr ⟨(hw _ (List.mem_of_getElem? (i := 1) rfl)), (hw _ (List.mem_of_getElem? (i := 12) rfl))⟩)
  have E2 := Exa.start ev2 g9
  have F2 := Fld.start ((fld_at ev2).symm.trans (own_eqI g11))
  obtain ⟨u3, _, _, _, ev3, -⟩ := Cond.exactly_spec (Cond.before_iff.mpr g17)
  have S3 := Sta.start ev3 (Or.inr ⟨(hw _ (List.mem_of_getElem? (i := 1) rfl)), (hw _ (List.mem_of_getElem? (i := 16) rfl))⟩)
  have E3 := Exa.start ev3 g17
  have F3 := Fld.start ((fld_at ev3).symm.trans (own_eqI g18))
  obtain ⟨n, o, h1, h2, h3, v, L, rfl, ⟨rfl, hheap, rfl⟩, hq⟩ := rm0 l s _ hw tables_1 i0 i1 u0 u1 u2 u3 s.heap S0 E0 F0 S1 E1 F1 S2 E2 F2 S3 E3 F3 p e ha hc hk s m _ below hf ((Spec.applies_iff_loose hf).mp happ).1 ⟨rfl, State.Warmed39.refl s, rfl⟩ trivial
  refine ⟨n, _, h1, h2, h3, hpost _ _ _ _ _ _ ⟨Cond.after_iff.mpr rfl, Cond.after_iff.mpr (eq_i res_at (Term.int_eval (1)) (congrArg Value.int (own_law i0 i1))), trivial⟩ ⟨hq.1, hq.2.1, (hq.2.2.sift fun y hy => nomatch hy).mono (by decide) (by decide)⟩⟩
theorem main_1_1 : Claimed_1_1 := comes_1 fun _ _ _ _ _ _ h hF => ⟨h.1, hF⟩
theorem main_1_2 : Claimed_1_2 := comes_1 fun _ _ _ _ _ _ h hF => ⟨h.2.1, hF⟩
end Jvm.Pilot.@@N@@
namespace Jvm.Pilot.@@N@@
open Jvm Jvm.ClassFile Sem Op Lib Jvm.Free Jvm.Stand Jvm.Pilot.@@N@@.Jvm.D
/-! MADE BY PROGRAM (witnessworld.py) out of the Statement's table words and the real class files: 12 classes; the members and pool entries that the words name. The judged class is class 1, her method 1. -/
namespace start1
open Jvm.ClassFile
def u (s : String) : CpInfo := .utf8 (stringToUtf16 s)
/-- a pool by its gaps: so many unusable entries, then the entry; so many at the end -/
def gap : Nat → List CpInfo → List CpInfo
  | 0, r => r
  | n + 1, r => .unusable :: gap n r
def poolList (es : List (Nat × CpInfo)) (last : Nat) : List CpInfo := es.foldr (fun e r => gap e.1 (e.2 :: r)) (gap last [])
def pool (es : List (Nat × CpInfo)) (last : Nat) : Array CpInfo := ⟨poolList es last⟩
def fileOf (pool : Array CpInfo) (this : Nat) (attrs : Array Attribute := #[]) (ms : Array MethodInfo := #[]) (fl : Nat := 33) (sup : Nat := 0) (ifs : Array Nat := #[]) (fds : Array FieldInfo := #[]) : ClassFile where
  minorVersion := 0
  majorVersion := 65
  constantPool := pool
  accessFlags := fl
  thisClass := this
  superClass := sup
  interfaces := ifs
  fields := fds
  methods := ms
  attributes := attrs
def plain (name : String) (sup : Option ClassId) : Class where
  name := name
  kind := .ordinary
  loader := none
  accessFlags := 33
  super := sup
  interfaces := #[]
  cf := none
  fields := #[]
  methods := #[]
  instanceTypes := #[]
  staticTypes := #[]
  resolved := #[]
  callSites := []
  init := .initialized
  statics := none
  mirror := none

def pool0 : Array CpInfo := pool [(5, u "<init>"), (0, u "()V"), (1, .class_ 10), (1, u "java/lang/Object")] 113

def k0m0 : Method := { name := "<init>", desc := "()V", sig := { parameters := [], returnType := none }, accessFlags := 1, code := none }
/-- java/lang/Object -/
def k0 : Class := { plain "java/lang/Object" none with
  accessFlags := 33
  interfaces := #[]
  cf := some (fileOf pool0 8 #[] #[{ accessFlags := 1, nameIndex := 5, descriptorIndex := 6, attributes := #[] }] 33 0 #[] #[])
  fields := #[]
  methods := #[k0m0]
  instanceTypes := #[]
  staticTypes := #[]
  resolved := Array.replicate 124 none
  statics := none }

def pool1 : Array CpInfo := pool [(2, .class_ 4), (1, u "java/lang/Object"), (0, u "<init>"), (0, u "()V"), (0, .fieldref 8 9), (0, .class_ 10), (0, .nameAndType 11 12), (0, u "com/example/bounds/bounds/Combination"), (0, u "UNION"), (0, u "Lcom/example/bounds/bounds/Combination;"), (0, .fieldref 8 14), (0, .nameAndType 15 12), (0, u "INTERSECTION"), (0, .integer 2147483647), (0, .methodref 8 18), (0, .nameAndType 19 20), (0, u "counts"), (0, u "(I)Z"), (0, .fieldref 8 22), (0, .nameAndType 23 12), (0, u "DIFFERENCE"), (0, .fieldref 8 25), (0, .nameAndType 26 12), (0, u "OUTSIDE"), (0, .class_ 28), (0, u "com/example/bounds/bounds/CombinationCountsPinLaw"), (2, u "law"), (0, u "(II)Z")] 3

def k1m0 : Method := { name := "<init>", desc := "()V", sig := { parameters := [], returnType := none }, accessFlags := 1, code := none }
def k1c1 : Code := { maxStack := 2, maxLocals := 5, code := code, exceptionTable := #[], attributes := #[] }
def k1m1 : Method := { name := "law", desc := "(II)Z", sig := { parameters := [.int, .int], returnType := some .boolean }, accessFlags := 9, code := some k1c1 }
/-- com/example/bounds/bounds/CombinationCountsPinLaw -/
def k1 : Class := { plain "com/example/bounds/bounds/CombinationCountsPinLaw" (some 0) with
  accessFlags := 49
  interfaces := #[]
  cf := some (fileOf pool1 27 #[] #[{ accessFlags := 1, nameIndex := 5, descriptorIndex := 6, attributes := #[] }, { accessFlags := 9, nameIndex := 31, descriptorIndex := 32, attributes := #[] }] 49 2 #[] #[])
  fields := #[]
  methods := #[k1m0, k1m1]
  instanceTypes := #[]
  staticTypes := #[]
  resolved := Array.replicate 36 none
  statics := none }

def pool2 : Array CpInfo := pool [(1, .class_ 2), (0, u "java/lang/constant/Constable"), (0, .class_ 4), (0, u "java/lang/Object")] 6

/-- java/lang/constant/Constable -/
def k2 : Class := { plain "java/lang/constant/Constable" (some 0) with
  accessFlags := 1537
  interfaces := #[]
  cf := some (fileOf pool2 1 #[] #[] 1537 3 #[] #[])
  fields := #[]
  methods := #[]
  instanceTypes := #[]
  staticTypes := #[]
  resolved := Array.replicate 11 none
  statics := none }

def pool3 : Array CpInfo := pool [(1, .class_ 2), (0, u "java/lang/Comparable"), (0, .class_ 4), (0, u "java/lang/Object")] 7

/-- java/lang/Comparable -/
def k3 : Class := { plain "java/lang/Comparable" (some 0) with
  accessFlags := 1537
  interfaces := #[]
  cf := some (fileOf pool3 1 #[] #[] 1537 3 #[] #[])
  fields := #[]
  methods := #[]
  instanceTypes := #[]
  staticTypes := #[]
  resolved := Array.replicate 12 none
  statics := none }

def pool4 : Array CpInfo := pool [(1, .class_ 2), (0, u "java/io/Serializable"), (0, .class_ 4), (0, u "java/lang/Object")] 2

/-- java/io/Serializable -/
def k4 : Class := { plain "java/io/Serializable" (some 0) with
  accessFlags := 1537
  interfaces := #[]
  cf := some (fileOf pool4 1 #[] #[] 1537 3 #[] #[])
  fields := #[]
  methods := #[]
  instanceTypes := #[]
  staticTypes := #[]
  resolved := Array.replicate 7 none
  statics := none }

def pool5 : Array CpInfo := pool [(2, .class_ 4), (1, u "java/lang/Enum"), (0, u "name"), (0, u "Ljava/lang/String;"), (2, u "ordinal"), (0, u "I"), (1, .class_ 14), (1, u "java/lang/Object"), (4, u "hash"), (86, .class_ 108), (1, u "java/lang/Enum$EnumDesc"), (2, .class_ 112), (0, u "java/lang/constant/Constable"), (0, .class_ 114), (0, u "java/lang/Comparable"), (0, .class_ 116), (0, u "java/io/Serializable")] 87

/-- java/lang/Enum -/
def k5 : Class := { plain "java/lang/Enum" (some 0) with
  accessFlags := 1057
  interfaces := #[2, 3, 4]
  cf := some (fileOf pool5 2 #[.nestMembers #[106]] #[] 1057 12 #[111, 113, 115] #[{ accessFlags := 18, nameIndex := 5, descriptorIndex := 6, attributes := #[] }, { accessFlags := 18, nameIndex := 9, descriptorIndex := 10, attributes := #[] }, { accessFlags := 2, nameIndex := 19, descriptorIndex := 10, attributes := #[] }])
  fields := #[{ name := "name", type := (.object "java/lang/String"), accessFlags := 18, slot := 0, constantValue := 0 }, { name := "ordinal", type := .int, accessFlags := 18, slot := 1, constantValue := 0 }, { name := "hash", type := .int, accessFlags := 2, slot := 2, constantValue := 0 }]
  methods := #[]
  instanceTypes := #[(.object "java/lang/String"), .int, .int]
  staticTypes := #[]
  resolved := Array.replicate 204 none
  statics := none }

def pool6 : Array CpInfo := pool [(1, .class_ 2), (0, u "com/example/bounds/bounds/Combination"), (2, u "UNION"), (0, u "Lcom/example/bounds/bounds/Combination;"), (2, u "INTERSECTION"), (2, u "DIFFERENCE"), (2, u "OUTSIDE"), (2, u "$VALUES"), (0, u "[Lcom/example/bounds/bounds/Combination;"), (6, .class_ 28), (1, u "java/lang/Enum"), (8, u "fewest"), (0, u "I"), (2, u "most"), (2, u "every"), (0, u "Z"), (0, .fieldref 1 47), (0, .nameAndType 48 38), (0, u "taken"), (61, u "counts"), (0, u "(I)Z")] 25

def k6c0 : Code := { maxStack := 2, maxLocals := 2, code := prog_1_method_6_code, exceptionTable := #[], attributes := #[] }
def k6m0 : Method := { name := "counts", desc := "(I)Z", sig := { parameters := [.int], returnType := some .boolean }, accessFlags := 0, code := some k6c0 }
/-- com/example/bounds/bounds/Combination -/
def k6 : Class := { plain "com/example/bounds/bounds/Combination" (some 5) with
  accessFlags := 16433
  interfaces := #[]
  cf := some (fileOf pool6 1 #[] #[{ accessFlags := 0, nameIndex := 110, descriptorIndex := 111, attributes := #[] }] 16433 26 #[] #[{ accessFlags := 16409, nameIndex := 5, descriptorIndex := 6, attributes := #[] }, { accessFlags := 16409, nameIndex := 9, descriptorIndex := 6, attributes := #[] }, { accessFlags := 16409, nameIndex := 12, descriptorIndex := 6, attributes := #[] }, { accessFlags := 16409, nameIndex := 15, descriptorIndex := 6, attributes := #[] }, { accessFlags := 18, nameIndex := 37, descriptorIndex := 38, attributes := #[] }, { accessFlags := 18, nameIndex := 41, descriptorIndex := 38, attributes := #[] }, { accessFlags := 18, nameIndex := 44, descriptorIndex := 45, attributes := #[] }, { accessFlags := 18, nameIndex := 48, descriptorIndex := 38, attributes := #[] }, { accessFlags := 4122, nameIndex := 18, descriptorIndex := 19, attributes := #[] }])
  fields := #[{ name := "UNION", type := (.object "com/example/bounds/bounds/Combination"), accessFlags := 16409, slot := 0, constantValue := 0 }, { name := "INTERSECTION", type := (.object "com/example/bounds/bounds/Combination"), accessFlags := 16409, slot := 1, constantValue := 0 }, { name := "DIFFERENCE", type := (.object "com/example/bounds/bounds/Combination"), accessFlags := 16409, slot := 2, constantValue := 0 }, { name := "OUTSIDE", type := (.object "com/example/bounds/bounds/Combination"), accessFlags := 16409, slot := 3, constantValue := 0 }, { name := "fewest", type := .int, accessFlags := 18, slot := 3, constantValue := 0 }, { name := "most", type := .int, accessFlags := 18, slot := 4, constantValue := 0 }, { name := "every", type := .boolean, accessFlags := 18, slot := 5, constantValue := 0 }, { name := "taken", type := .int, accessFlags := 18, slot := 6, constantValue := 0 }, { name := "$VALUES", type := (.array (.object "com/example/bounds/bounds/Combination")), accessFlags := 4122, slot := 4, constantValue := 0 }]
  methods := #[k6m0]
  instanceTypes := #[(.object "java/lang/String"), .int, .int, .int, .int, .boolean, .int]
  staticTypes := #[(.object "com/example/bounds/bounds/Combination"), (.object "com/example/bounds/bounds/Combination"), (.object "com/example/bounds/bounds/Combination"), (.object "com/example/bounds/bounds/Combination"), (.array (.object "com/example/bounds/bounds/Combination"))]
  resolved := Array.replicate 137 none
  statics := some 0 }

def pool7 : Array CpInfo := pool [(1, u "java/lang/Cloneable"), (0, .class_ 1), (0, u "java/lang/Object"), (0, .class_ 3)] 3

/-- java/lang/Cloneable -/
def k7 : Class := { plain "java/lang/Cloneable" (some 0) with
  accessFlags := 1537
  interfaces := #[]
  cf := some (fileOf pool7 2 #[] #[] 1537 4 #[] #[])
  fields := #[]
  methods := #[]
  instanceTypes := #[]
  staticTypes := #[]
  resolved := Array.replicate 8 none
  statics := none }

/-- the primitive byte -/
def k8 : Class := { plain "byte" none with kind := .primitive 'B', accessFlags := 0x411 }
/-- [B -/
def k9 : Class := { plain "[B" (some 0) with kind := .array 8 .byte, interfaces := #[7, 4], accessFlags := 1041 }

/-- the primitive int -/
def k10 : Class := { plain "int" none with kind := .primitive 'I', accessFlags := 0x411 }
/-- [I -/
def k11 : Class := { plain "[I" (some 0) with kind := .array 10 .int, interfaces := #[7, 4], accessFlags := 1041 }

def heap : Heap := #[{ cls := 6, slots := #[.ref 1, .ref 2, .ref 3, .ref 4, .null], vm := .statics 6 },
  { cls := 6, slots := #[.null, .int 0, .int 0, .int 0, .int 0, .int 0, .int 2147483647], vm := .none },
  { cls := 6, slots := #[.null, .int 0, .int 0, .int 0, .int 0, .int 0, .int 2147483647], vm := .none },
  { cls := 6, slots := #[.null, .int 0, .int 0, .int 0, .int 0, .int 0, .int 1], vm := .none },
  { cls := 6, slots := #[.null, .int 0, .int 0, .int 0, .int 0, .int 0, .int 0], vm := .none }]
def classes : Array Class := #[k0, k1, k2, k3, k4, k5, k6, k7, k8, k9, k10, k11]
def interned : List (Array UInt16 × Addr) := []
def slotsUsed : Nat := 33
def theMethod : MethodId := ⟨1, 1⟩
def args0 : Array Value := #[.int 5, .int 7]
def aboutOver (below : List Frame) : State where
  vm := { classes := classes, interned := interned.toArray }
  heap := heap
  slotsUsed := slotsUsed
  threads := #[{ frames := .invoking theMethod args0 :: below }]
def below0 : List Frame := [.native { method := ⟨0, 0⟩, args := #[] }]
def about1 : State := aboutOver below0
def p0 : Program := .bare "" "" ""
def e0 : Env := launch0.env 0 0 0
theorem w_frames : about1.frames = Frame.invoking theMethod args0 :: below0 := rfl
set_option maxRecDepth 65536 in
theorem w_args : argsFit about1.vm theMethod args0 = true := by decide +kernel
set_option maxRecDepth 65536 in
theorem w_heap : heapFits about1 = true := by decide +kernel
set_option maxRecDepth 65536 in
theorem w_runnable : about1.curStatus? = some .runnable := by decide +kernel
set_option maxRecDepth 65536 in
theorem w_alone : about1.alone = true := by decide +kernel
set_option maxRecDepth 65536 in
theorem w_named : about1.methodNamed? x = some theMethod := by decide +kernel
set_option maxRecDepth 65536 in
theorem w_hears : about1.hears theMethod below0 = true := by decide +kernel
set_option maxRecDepth 65536 in
theorem w_ripe : about1.ripe theMethod args0 below0 = true := by decide +kernel
theorem w_running : about1.status = .running := rfl
set_option maxRecDepth 65536 in
theorem w_room : about1.hasRoom e0.platform room_1 = true :=
  launch0.hasRoom_least _ room_1 (by decide +kernel) (by decide +kernel) (by decide +kernel) (by decide +kernel) (by decide +kernel) (by decide +kernel)
theorem allAtoms_all (ts : List Jvm.Cond) (a : Array Jvm.Value) (st : Jvm.State) : (allAtoms ts).before a st = ts.all (fun c => c.before a st) := by
  induction ts with
  | nil => rfl
  | cons c t ih =>
    show (Jvm.Cond.and c (allAtoms t)).before a st = _
    rw [Jvm.Cond.before_and, ih, List.all_cons]
def words1 : List Jvm.Cond := Jvm.Cond.code x code maxLocals ret :: tables_1
/-- a 'code' word, met by the world's own term for the bytes: nothing is compared byte by byte -/
theorem code_word {y : MethodName} {bytes : ByteArray} {mx : Nat} {rt : Option FieldType} {a : Array Value} {s : State} {m : MethodId} {meth : Method} {c : Code} (h1 : s.methodNamed? y = some m) (h2 : s.vm.method? m = some meth) (h3 : meth.code = some c) (h4 : c.code = bytes)
    (h5 : (c.maxLocals == mx && c.exceptionTable.isEmpty && decide (c.maxStack ≤ mostOperands) && decide (meth.sig.returnType = rt) && !meth.locks && decide (parseMethodDescriptor y.desc = some meth.sig)) = true) : (Jvm.Cond.code y bytes mx rt).before a s = true := by
  simp only [Bool.and_eq_true, beq_iff_eq, Bool.not_eq_true', decide_eq_true_eq] at h5
  obtain ⟨⟨⟨⟨⟨g1, g2⟩, g3⟩, g4⟩, g5⟩, g6⟩ := h5
  simp [Cond.before, Cond.holds, Cond.value, h1, h2, h3, h4, g1, g2, g3, g4, g5, g6]
def isCode : Jvm.Cond → Bool
  | .code _ _ _ _ => true
  | _ => false
theorem all_split {L : List Jvm.Cond} {P : Jvm.Cond → Bool} (h1 : L.all (fun c => isCode c || P c) = true) (h2 : ∀ c ∈ L.filter isCode, P c = true) : L.all P = true := by
  refine List.all_eq_true.mpr fun c hc => ?_
  have h := List.all_eq_true.mp h1 c hc
  rcases Bool.eq_false_or_eq_true (isCode c) with hi | hi
  · exact h2 c (List.mem_filter.mpr ⟨hc, hi⟩)
  · simpa [hi] using h
set_option maxRecDepth 65536 in
theorem w_c0 : (Jvm.Cond.code x code maxLocals ret).before args0 about1 = true := code_word (m := ⟨1, 1⟩) (meth := k1m1) (c := k1c1) (by decide +kernel) rfl rfl rfl (by decide +kernel)
set_option maxRecDepth 65536 in
theorem w_c1 : (Jvm.Cond.code ({ cls := "com/example/bounds/bounds/Combination", name := "counts", desc := "(I)Z" } : Jvm.MethodName) prog_1_method_6_code (2 : Nat) (Option.some Jvm.ClassFile.FieldType.boolean)).before args0 about1 = true := code_word (m := ⟨6, 0⟩) (meth := k6m0) (c := k6c0) (by decide +kernel) rfl rfl rfl (by decide +kernel)
def codes1 : List Jvm.Cond := [Jvm.Cond.code x code maxLocals ret, Jvm.Cond.code ({ cls := "com/example/bounds/bounds/Combination", name := "counts", desc := "(I)Z" } : Jvm.MethodName) prog_1_method_6_code (2 : Nat) (Option.some Jvm.ClassFile.FieldType.boolean)]
set_option maxRecDepth 65536 in
theorem codes_eq : words1.filter isCode = codes1 := rfl
theorem w_codes : ∀ c ∈ words1.filter isCode, c.before args0 about1 = true := by
  rw [codes_eq]
  intro c hc
  simp only [codes1, List.mem_cons, List.not_mem_nil, or_false] at hc
  rcases hc with rfl | rfl
  · exact w_c0
  · exact w_c1
set_option maxRecDepth 65536 in
theorem w_t1 : words1.all (fun c => isCode c || c.before args0 about1) = true := by decide +kernel
theorem w_tables : (allAtoms (Jvm.Cond.code x code maxLocals ret :: tables_1)).before args0 about1 = true := by
  rw [allAtoms_all]
  show words1.all (fun c => c.before args0 about1) = true
  refine all_split ?_ w_codes
  rw [w_t1]
set_option maxRecDepth 65536 in
theorem w_case : (Jvm.Cond.and given_1 narrow_1).before args0 about1 = true := by decide +kernel
theorem w_applies : (headSpec (Jvm.Cond.code x code maxLocals ret :: tables_1) room_1).applies x e0.platform about1 = true :=
  (Spec.applies_iff w_frames).mpr ⟨w_running, w_runnable, w_alone, w_named, w_hears, w_ripe, w_room, w_tables⟩
theorem atStart : AtStart classFile x code maxLocals ret World_1 tables_1 room_1 Calls_1 rest_1 Pre_1 launch0 p0 e0 about1 theMethod args0 below0 :=
  ⟨lists_1, trivial, launch0.admits_env _ _ _, launch0.least_env, fairChoices_fair.cas, fairChoices_fair.clock, w_frames, w_args, w_heap, w_applies, trivial, trivial, w_case⟩
end start1
theorem witness_1 : WitnessClaimed_1 := ⟨start1.p0, start1.e0, start1.about1, start1.theMethod, start1.args0, start1.below0, start1.atStart⟩
end Jvm.Pilot.@@N@@
