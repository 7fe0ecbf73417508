import JvmDerived
import JvmDerived.Pilot.@@N@@Statement
import JvmDerived.Pilot.@@N@@Code
set_option linter.unusedVariables false
set_option linter.unusedSimpArgs false
namespace Jvm.RoadKit
open Sem ClassFile Op Lib Jvm.Stand Jvm.Free Jvm.LawKit
section New
variable {p : Program} {l : Launch} {e : Env} {R : Room} {s : State} {m : MethodId} {args : Array Value} {below : List Frame} {meth : Method} {c : Code} {T : State} {locs : List Loc} {cells slots : Nat}
theorem retI (X : Stand p l e R s m args below meth c T locs cells slots) (hx : p.tables.exec = Jvm.exec) {pc : Nat} {Ls : Array Slot} {z : Int32} {rest : List Value} (hret : meth.sig.returnType = some .int) (hd : decode c.code pc = .ok (.ireturn, 1)) {fs : List Frame}
    (hl : ∀ (f : JFrame) (acts : List Action), f.method = m → f.locked = none → f.entered = [] → (doReturn e (T.setTop f) acts (some (.int z))).1 = T.setFrames fs) : Steps p.tables e below (T.setTop (mkF m pc Ls (.int z :: rest))) (T.setFrames fs) := by
  have hm' : T.vm.method? m = some meth := X.method'
  have hn : narrow .int (.int z) = .int z := rfl
  show Steps p.tables e below (T.setTop { method := m, pc := pc, locals := Ls, stack := _ :: rest, locked := none }) _
  jvm_step X.here [X.here.top, hx, hd, hm', hret, hn]
  first | (intro acts; rw [hl _ acts rfl rfl rfl]) | rw [hl _ _ rfl rfl rfl]
  exact Steps.refl _
end New
end Jvm.RoadKit
namespace Jvm.Pilot.@@N@@
open Jvm Jvm.ClassFile Sem Op Lib Jvm.Free Jvm.Stand Jvm.LawKit Jvm.RoadKit Bundle Jvm.Pilot.@@N@@.Jvm.D

/-! the walk's goal: from this frame the run comes to its end, and Q holds of what it returns, of the heap and of the places written -/
def Fini (p : Program) (e : Env) (below : List Frame) (s : State) (Q : Option Value → Heap → List Loc → Prop) (C S : Nat) (T : State) (g : JFrame) : Prop :=
  ∃ s₂ o, Steps p.tables e below (T.setTop g) s₂ ∧ s₂.status = .running ∧ Ended s₂ below o ∧ ∃ v L, o = .returned v ∧ Q v s₂.heap L ∧ FrameEnd s o s₂ L C S
abbrev Cmet (l : Launch) (Z : State) (y : MethodName) (bytes : ByteArray) (ml : Nat) (ret : Option FieldType) (ws : List Jvm.Cond) (rm : Room) (as : Array Value) (h0 : Heap) (Q : Option Value → Heap → List Loc → Prop) : Prop :=
  MetFree l y (head1 (Jvm.Cond.code y bytes ml ret :: ws) rm) (fun a U => a = as ∧ Z.Warmed39 U.vm ∧ U.heap = h0) (fun _ _ _ _ _ => True) (fun _ U o U' => ∃ v L, o = .returned v ∧ Q v U'.heap L ∧ FrameEnd U o U' L rm.cells rm.slots)
section Own
variable {p : Program} {l : Launch} {e : Env} {R : Room} {s : State} {m : MethodId} {args : Array Value} {below : List Frame} {meth : Method} {c : Code} {T T' : State} {locs : List Loc} {cells slots : Nat} {Q : Option Value → Heap → List Loc → Prop} {C S : Nat} {g g' : JFrame} {Z : State} {a0 : Array Value} {h : Heap}
theorem Fini.st (k : ∀ t, Steps p.tables e below (T'.setTop g') t → Steps p.tables e below (T.setTop g) t) (f : Fini p e below s Q C S T' g') : Fini p e below s Q C S T g := by
  obtain ⟨s2, o, h1, r⟩ := f
  exact ⟨s2, o, k _ h1, r⟩
theorem Fini.cast (q : g = g') (f : Fini p e below s Q C S T g') : Fini p e below s Q C S T g := q ▸ f
theorem Fini.retI (X : Stand p l e R s m args below meth c T locs cells slots) (hx : p.tables.exec = Jvm.exec) (hl : meth.locks = false) (hret : meth.sig.returnType = some .int) {pc : Nat} {Ls : Array Slot} {z : Int32} {rest : List Value} (hd : decode c.code pc = .ok (.ireturn, 1))
    (hC : cells ≤ C) (hS : slots ≤ S) (hQ : Q (some (.int z)) T.heap locs) : Fini p e below s Q C S T (mkF m pc Ls (.int z :: rest)) := by
  obtain ⟨fs, hr, hrun, hended, hW, hsame⟩ := X.leave (v := some (.int z)) (fun h => by rw [hret] at h; cases h) hl
  exact ⟨_, _, Jvm.RoadKit.retI X hx hret hd hr, hrun, hended, _, _, rfl, hQ, ⟨_, rfl⟩, hW, hsame.mono hC hS⟩
theorem Fini.retN (X : Stand p l e R s m args below meth c T locs cells slots) (hx : p.tables.exec = Jvm.exec) (hl : meth.locks = false) {t : FieldType} (hret : meth.sig.returnType = some t) (ht : t = .boolean ∨ t = .byte ∨ t = .char ∨ t = .short) {pc : Nat} {Ls : Array Slot} {z z' : Int32} {rest : List Value} (hd : decode c.code pc = .ok (.ireturn, 1))
    (hz : nar t z = z') (hC : cells ≤ C) (hS : slots ≤ S) (hQ : Q (some (.int z')) T.heap locs) : Fini p e below s Q C S T (mkF m pc Ls (.int z :: rest)) := by
  subst hz
  obtain ⟨fs, hr, hrun, hended, hW, hsame⟩ := X.leave (v := some (.int (nar t z))) (fun h => by rw [hret] at h; cases h) hl
  exact ⟨_, _, Jvm.RoadKit.retN X hx hret ht hd hr, hrun, hended, _, _, rfl, hQ, ⟨_, rfl⟩, hW, hsame.mono hC hS⟩
theorem Fini.retJ (X : Stand p l e R s m args below meth c T locs cells slots) (hx : p.tables.exec = Jvm.exec) (hl : meth.locks = false) (hret : meth.sig.returnType = some .long) {pc : Nat} {Ls : Array Slot} {z : Int64} {rest : List Value} (hd : decode c.code pc = .ok (.lreturn, 1))
    (hC : cells ≤ C) (hS : slots ≤ S) (hQ : Q (some (.long z)) T.heap locs) : Fini p e below s Q C S T (mkF m pc Ls (.long z :: rest)) := by
  obtain ⟨fs, hr, hrun, hended, hW, hsame⟩ := X.leave (v := some (.long z)) (fun h => by rw [hret] at h; cases h) hl
  exact ⟨_, _, retOut X hx hret rfl (Or.inr (Or.inl ⟨rfl, rfl, z, rfl⟩)) hd hr, hrun, hended, _, _, rfl, hQ, ⟨_, rfl⟩, hW, hsame.mono hC hS⟩
theorem Fini.retA (X : Stand p l e R s m args below meth c T locs cells slots) (hx : p.tables.exec = Jvm.exec) (hl : meth.locks = false) {t : FieldType} (hret : meth.sig.returnType = some t) (ht : t.isReference = true) {pc : Nat} {Ls : Array Slot} {w : Value} {rest : List Value} (hd : decode c.code pc = .ok (.areturn, 1)) (hw : w.isRef = true) (hn : narrow t w = w)
    (hC : cells ≤ C) (hS : slots ≤ S) (hQ : Q (some w) T.heap locs) : Fini p e below s Q C S T (mkF m pc Ls (w :: rest)) := by
  obtain ⟨fs, hr, hrun, hended, hW, hsame⟩ := X.leave (v := some w) (fun h => by rw [hret] at h; cases h) hl
  exact ⟨_, _, retOut X hx hret hn (Or.inr (Or.inr (Or.inr (Or.inr ⟨rfl, ht, hw⟩)))) hd hr, hrun, hended, _, _, rfl, hQ, ⟨_, rfl⟩, hW, hsame.mono hC hS⟩
theorem Fini.ret0 (X : Stand p l e R s m args below meth c T locs cells slots) (hx : p.tables.exec = Jvm.exec) (hl : meth.locks = false) (hret : meth.sig.returnType = none) {pc : Nat} {Ls : Array Slot} (hd : decode c.code pc = .ok (.return_, 1))
    (hC : cells ≤ C) (hS : slots ≤ S) (hQ : Q none T.heap locs) : Fini p e below s Q C S T (mkF m pc Ls []) := by
  obtain ⟨fs, hr, hrun, hended, hW, hsame⟩ := X.leave (v := none) (fun _ => rfl) hl
  exact ⟨_, _, X.returnOut hx hret hd hr, hrun, hended, _, _, rfl, hQ, ⟨_, rfl⟩, hW, hsame.mono hC hS⟩
/-- a static call by its contract -/
theorem callQ (X : Stand p l e R s m args below meth c T locs cells slots) (hx : p.tables.exec = Jvm.exec) (hZ : Z.Warmed39 s.vm) {own : String} {index : Nat} {y : MethodName} {bytes : ByteArray} {maxL : Nat} {ret : Option FieldType} {rm : Room} {as : Array Value}
    (hown : s.vm.findClass own = some m.cls) (w1 : (Cond.methodLink own index y).before a0 Z = true) (w2 : (Cond.static y).before a0 Z = true) (w3 : (Cond.initialized y.cls).before a0 Z = true) (w4 : (Cond.code y bytes maxL ret).before a0 Z = true)
    (hy : y.cls ≠ "java/lang/invoke/MethodHandle" ∧ y.cls ≠ "java/lang/invoke/VarHandle") (M : Cmet l Z y bytes maxL ret [] rm as h Q) (eT : T.heap = h) {W : Nat} (hf : rm.frames + 1 ≤ R.frames) (hl : W + (maxL + 11) + rm.locals ≤ R.locals) (hc : cells + rm.cells ≤ R.cells) (hs : slots + rm.slots ≤ R.slots)
    (hg : g.method = m) (hsize : g.locals.size = c.maxLocals) {argsL rest : List Value} (has : argsL.toArray = as) (hlen : ∀ sig, parseMethodDescriptor y.desc = some sig → argsL.length = sig.parameters.length)
    (hstack : g.stack = argsL.reverse ++ rest) (hW : 2 * g.monitorRoom + (rest.map fun v => v.category).sum ≤ W) (hdg : decode c.code g.pc = .ok (.invokestatic index, 3)) :
    ∃ (v : Option Value) (T' : State) (L : List Loc), Stand p l e R s m args below meth c T' (locs ++ L) (cells + rm.cells) (slots + rm.slots) ∧ Q v T'.heap L ∧
      ∀ target, Steps p.tables e below (T'.setTop { g with pc := g.pc + 3, stack := v.toList ++ rest }) target → Steps p.tables e below (T.setTop g) target := by
  obtain ⟨v, vm1, ⟨T', L', c', n'⟩, -, X', ⟨L, hQ, q1, q2, q3⟩, st⟩ := Jvm.LawKit.callS X hx hown (mvT hZ w1) (mvT hZ w2) (mvT hZ w3) (mvT hZ w4) hy (backOf (W := W) M hZ w4 w3 hf hl) hg hsize hlen hstack hW hdg (fun _ _ => ⟨has, eT, hc, hs⟩)
  dsimp only [Pt.U, Pt.locs, Pt.cells, Pt.slots] at X' q1 q2 q3 st hQ
  subst q1 q2 q3
  exact ⟨v, T', L, X', hQ, st⟩
/-- a static call that leaves the heap as it was -/
theorem pureS (X : Stand p l e R s m args below meth c T locs cells slots) (hx : p.tables.exec = Jvm.exec) (hZ : Z.Warmed39 s.vm) {own : String} {index : Nat} {y : MethodName} {bytes : ByteArray} {maxL : Nat} {ret : Option FieldType} {fr lo : Nat} {as : Array Value} {w : Option Value}
    (hown : s.vm.findClass own = some m.cls) (w1 : (Cond.methodLink own index y).before a0 Z = true) (w2 : (Cond.static y).before a0 Z = true) (w3 : (Cond.initialized y.cls).before a0 Z = true) (w4 : (Cond.code y bytes maxL ret).before a0 Z = true)
    (hy : y.cls ≠ "java/lang/invoke/MethodHandle" ∧ y.cls ≠ "java/lang/invoke/VarHandle") (M : Cmet l Z y bytes maxL ret [] ({ frames := fr, cells := 0, slots := 0, locals := lo } : Room) as h (fun v h' L => v = w ∧ h' = h ∧ L = [])) (eT : T.heap = h) {W : Nat} (hf : fr + 1 ≤ R.frames) (hl : W + (maxL + 11) + lo ≤ R.locals) (hc : cells ≤ R.cells) (hs : slots ≤ R.slots)
    (hg : g.method = m) (hsize : g.locals.size = c.maxLocals) {argsL rest : List Value} (has : argsL.toArray = as) (hlen : ∀ sig, parseMethodDescriptor y.desc = some sig → argsL.length = sig.parameters.length)
    (hstack : g.stack = argsL.reverse ++ rest) (hW : 2 * g.monitorRoom + (rest.map fun v => v.category).sum ≤ W) (hdg : decode c.code g.pc = .ok (.invokestatic index, 3)) :
    ∃ (T' : State), Stand p l e R s m args below meth c T' locs cells slots ∧ T'.heap = h ∧
      ∀ target, Steps p.tables e below (T'.setTop { g with pc := g.pc + 3, stack := w.toList ++ rest }) target → Steps p.tables e below (T.setTop g) target := by
  obtain ⟨v, T', L, X', ⟨rfl, q, rfl⟩, st⟩ := callQ X hx hZ hown w1 w2 w3 w4 hy M eT (W := W) hf hl hc hs hg hsize has hlen hstack hW hdg
  rw [List.append_nil] at X'
  exact ⟨T', X', q, st⟩
/-- an instance method by the contract of the body that the receiver's class selects -/
theorem callV (X : Stand p l e R s m args below meth c T locs cells slots) (hx : p.tables.exec = Jvm.exec) (hZ : Z.Warmed39 s.vm) {own C' : String} {index : Nat} {y z : MethodName} {bytes : ByteArray} {maxL : Nat} {ret : Option FieldType} {rm : Room} {as : Array Value} {b : Addr}
    (hown : s.vm.findClass own = some m.cls) (w1 : (Cond.methodLink own index y).before a0 Z = true) (w2 : (Cond.declares y).before a0 Z = true) (w3 : (Cond.selects C' y z).before a0 Z = true) (w4 : (Cond.instanceMethod z).before a0 Z = true) (w5 : (Cond.initialized z.cls).before a0 Z = true) (w6 : (Cond.code z bytes maxL ret).before a0 Z = true)
    (nf : NotFace s y) (E : Exa Z h b C') (hy : y.cls ≠ "java/lang/invoke/MethodHandle" ∧ y.cls ≠ "java/lang/invoke/VarHandle") (M : Cmet l Z z bytes maxL ret [] rm as h Q) (eT : T.heap = h) {W : Nat} (hf : rm.frames + 1 ≤ R.frames) (hl : W + (maxL + 11) + rm.locals ≤ R.locals) (hc : cells + rm.cells ≤ R.cells) (hs : slots + rm.slots ≤ R.slots)
    (hg : g.method = m) (hsize : g.locals.size = c.maxLocals) {argsL rest : List Value} (has : (Value.ref b :: argsL).toArray = as) (hlen : ∀ sig, parseMethodDescriptor y.desc = some sig → argsL.length = sig.parameters.length)
    (hstack : g.stack = argsL.reverse ++ .ref b :: rest) (hW : 2 * g.monitorRoom + (rest.map fun v => v.category).sum ≤ W) (hdg : decode c.code g.pc = .ok (.invokevirtual index, 3)) :
    ∃ (v : Option Value) (T' : State) (L : List Loc), Stand p l e R s m args below meth c T' (locs ++ L) (cells + rm.cells) (slots + rm.slots) ∧ Q v T'.heap L ∧
      ∀ target, Steps p.tables e below (T'.setTop { g with pc := g.pc + 3, stack := v.toList ++ rest }) target → Steps p.tables e below (T.setTop g) target := by
  obtain ⟨cB, kB, q1, q2, q3⟩ := isOf hZ eT E
  obtain ⟨v, vm1, ⟨T', L', c', n'⟩, -, X', ⟨L, hQ, r1, r2, r3⟩, st⟩ := X.virtualBack hx hown (mvT hZ w1) (mvT hZ w2) nf (mvT hZ w3) (mvT hZ w4) hy (backOf (W := W) M hZ w6 w5 hf hl) q1 q3 hg hsize (Steps.refl _) hlen hstack hW hdg (fun _ _ => ⟨has, eT, hc, hs⟩)
  dsimp only [Pt.U, Pt.locs, Pt.cells, Pt.slots] at X' r1 r2 r3 st hQ
  subst r1 r2 r3
  exact ⟨v, T', L, X', hQ, fun _ k => st.trans k⟩
theorem pureV (X : Stand p l e R s m args below meth c T locs cells slots) (hx : p.tables.exec = Jvm.exec) (hZ : Z.Warmed39 s.vm) {own C' : String} {index : Nat} {y z : MethodName} {bytes : ByteArray} {maxL : Nat} {ret : Option FieldType} {fr lo : Nat} {as : Array Value} {b : Addr} {w : Option Value}
    (hown : s.vm.findClass own = some m.cls) (w1 : (Cond.methodLink own index y).before a0 Z = true) (w2 : (Cond.declares y).before a0 Z = true) (w3 : (Cond.selects C' y z).before a0 Z = true) (w4 : (Cond.instanceMethod z).before a0 Z = true) (w5 : (Cond.initialized z.cls).before a0 Z = true) (w6 : (Cond.code z bytes maxL ret).before a0 Z = true)
    (nf : NotFace s y) (E : Exa Z h b C') (hy : y.cls ≠ "java/lang/invoke/MethodHandle" ∧ y.cls ≠ "java/lang/invoke/VarHandle") (M : Cmet l Z z bytes maxL ret [] ({ frames := fr, cells := 0, slots := 0, locals := lo } : Room) as h (fun v h' L => v = w ∧ h' = h ∧ L = [])) (eT : T.heap = h) {W : Nat} (hf : fr + 1 ≤ R.frames) (hl : W + (maxL + 11) + lo ≤ R.locals) (hc : cells ≤ R.cells) (hs : slots ≤ R.slots)
    (hg : g.method = m) (hsize : g.locals.size = c.maxLocals) {argsL rest : List Value} (has : (Value.ref b :: argsL).toArray = as) (hlen : ∀ sig, parseMethodDescriptor y.desc = some sig → argsL.length = sig.parameters.length)
    (hstack : g.stack = argsL.reverse ++ .ref b :: rest) (hW : 2 * g.monitorRoom + (rest.map fun v => v.category).sum ≤ W) (hdg : decode c.code g.pc = .ok (.invokevirtual index, 3)) :
    ∃ (T' : State), Stand p l e R s m args below meth c T' locs cells slots ∧ T'.heap = h ∧
      ∀ target, Steps p.tables e below (T'.setTop { g with pc := g.pc + 3, stack := w.toList ++ rest }) target → Steps p.tables e below (T.setTop g) target := by
  obtain ⟨v, T', L, X', ⟨rfl, q, rfl⟩, st⟩ := callV X hx hZ hown w1 w2 w3 w4 w5 w6 nf E hy M eT (W := W) hf hl hc hs hg hsize has hlen hstack hW hdg
  rw [List.append_nil] at X'
  exact ⟨T', X', q, st⟩
/-- a constructor by its contract -/
theorem callNew (X : Stand p l e R s m args below meth c T locs cells slots) (hx : p.tables.exec = Jvm.exec) (hZ : Z.Warmed39 s.vm) {own : String} {index : Nat} {y : MethodName} {bytes : ByteArray} {maxL : Nat} {rm : Room} {as : Array Value} {b : Addr}
    (hown : s.vm.findClass own = some m.cls) (hy1 : y.name = "<init>") (w1 : (Cond.methodLink own index y).before a0 Z = true) (w2 : (Cond.instanceMethod y).before a0 Z = true) (w3 : (Cond.initialized y.cls).before a0 Z = true) (w4 : (Cond.code y bytes maxL none).before a0 Z = true)
    (hy : y.cls ≠ "java/lang/invoke/MethodHandle" ∧ y.cls ≠ "java/lang/invoke/VarHandle") (M : Cmet l Z y bytes maxL none [] rm as h Q) (eT : T.heap = h) {W : Nat} (hf : rm.frames + 1 ≤ R.frames) (hl : W + (maxL + 11) + rm.locals ≤ R.locals) (hc : cells + rm.cells ≤ R.cells) (hs : slots + rm.slots ≤ R.slots)
    (hg : g.method = m) (hsize : g.locals.size = c.maxLocals) {argsL rest : List Value} (has : (Value.ref b :: argsL).toArray = as) (hlen : ∀ sig, parseMethodDescriptor y.desc = some sig → argsL.length = sig.parameters.length)
    (hstack : g.stack = argsL.reverse ++ .ref b :: rest) (hW : 2 * g.monitorRoom + (rest.map fun v => v.category).sum ≤ W) (hdg : decode c.code g.pc = .ok (.invokespecial index, 3)) :
    ∃ (v : Option Value) (T' : State) (L : List Loc), Stand p l e R s m args below meth c T' (locs ++ L) (cells + rm.cells) (slots + rm.slots) ∧ Q v T'.heap L ∧
      ∀ target, Steps p.tables e below (T'.setTop { g with pc := g.pc + 3, stack := v.toList ++ rest }) target → Steps p.tables e below (T.setTop g) target := by
  obtain ⟨v, vm1, ⟨T', L', c', n'⟩, -, X', ⟨L, hQ, r1, r2, r3⟩, st⟩ := X.specialBack hx hy1 hown (mvT hZ w1) (mvT hZ w2) (mvT hZ w4) hy (backOf (W := W) M hZ w4 w3 hf hl) hg hsize (Steps.refl _) hlen hstack hW hdg (fun _ _ => ⟨has, eT, hc, hs⟩)
  dsimp only [Pt.U, Pt.locs, Pt.cells, Pt.slots] at X' r1 r2 r3 st hQ
  subst r1 r2 r3
  exact ⟨v, T', L, X', hQ, fun _ k => st.trans k⟩
theorem nb0 : nar .boolean (0 : Int32) = 0 := by decide
theorem nb1 : nar .boolean (1 : Int32) = 1 := by decide
end Own
theorem d1_0 : decode prog_63_method_2_code 0 = .ok (.iload_n 0, 1) := by decide +kernel
theorem d1_1 : decode prog_63_method_2_code 1 = .ok (.bipush 97, 2) := by decide +kernel
theorem d1_3 : decode prog_63_method_2_code 3 = .ok (.if_icmp .lt 9, 3) := by decide +kernel
theorem d1_6 : decode prog_63_method_2_code 6 = .ok (.iload_n 0, 1) := by decide +kernel
theorem d1_7 : decode prog_63_method_2_code 7 = .ok (.bipush 122, 2) := by decide +kernel
theorem d1_9 : decode prog_63_method_2_code 9 = .ok (.if_icmp .le 15, 3) := by decide +kernel
theorem d1_12 : decode prog_63_method_2_code 12 = .ok (.iload_n 0, 1) := by decide +kernel
theorem d1_13 : decode prog_63_method_2_code 13 = .ok (.bipush 65, 2) := by decide +kernel
theorem d1_15 : decode prog_63_method_2_code 15 = .ok (.if_icmp .lt 13, 3) := by decide +kernel
theorem d1_18 : decode prog_63_method_2_code 18 = .ok (.iload_n 0, 1) := by decide +kernel
theorem d1_19 : decode prog_63_method_2_code 19 = .ok (.bipush 90, 2) := by decide +kernel
theorem d1_21 : decode prog_63_method_2_code 21 = .ok (.if_icmp .gt 7, 3) := by decide +kernel
theorem d1_24 : decode prog_63_method_2_code 24 = .ok (.iconst 1, 1) := by decide +kernel
theorem d1_25 : decode prog_63_method_2_code 25 = .ok (.goto 4, 3) := by decide +kernel
theorem d1_28 : decode prog_63_method_2_code 28 = .ok (.iconst 0, 1) := by decide +kernel
theorem d1_29 : decode prog_63_method_2_code 29 = .ok (.ireturn, 1) := by decide +kernel
theorem pn_0 : plainName "com/example/rights_after_actions/rightsafteractions/io/Lexicon" = true := by first | (simp [plainName, overriddenIn]; done) | decide +kernel
theorem ef1 (m : MethodId) (x0 : Int32) : entryFrame m #[(.int x0)] 1 = mkF m 0 #[.val (.int x0)] [] := by first | (simp [entryFrame, mkF, argsToLocals, Value.category]; done) | rfl
def f1_12 (p0 : Int32) : Int32 := (if p0 < (65 : Int32) then (0 : Int32) else (if (90 : Int32) < p0 then (0 : Int32) else (1 : Int32)))
def f1 (p0 : Int32) : Int32 := (if p0 < (97 : Int32) then (f1_12 p0) else (if (122 : Int32) < p0 then (f1_12 p0) else (1 : Int32)))
set_option maxRecDepth 65536 in
set_option maxHeartbeats 40000000 in
theorem rm1 (l : Launch) (Z : State) (a0 : Array Value) (hw : ∀ d ∈ tables_1, d.before a0 Z = true) (ws : List Jvm.Cond) (p0 : Int32) (h0 : Heap) :
    Cmet l Z (⟨"com/example/rights_after_actions/rightsafteractions/io/Lexicon", "isNameStart", "(I)Z"⟩ : MethodName) prog_63_method_2_code 1 (some .boolean) ws ({ frames := 0, cells := 0, slots := 0, locals := 0 } : Room) #[(.int p0)] h0 (fun v h' L => v = some (.int (f1 p0)) ∧ h' = h0 ∧ L = []) := by
  refine MetFree.of_bodySF (plainFor_of_name pn_0) hisR ?_
  intro p e s m args below meth c s₁ Bd hml0 hP hK
  obtain ⟨rfl, hZ, hh⟩ := hP
  have hx := Bd.exec
  have hlk : meth.locks = false := BodyLoose.notSynchronized Bd
  have hby := Bd.bytes
  have hml : c.maxLocals = 1 := hml0
  have hown : s.vm.findClass "com/example/rights_after_actions/rightsafteractions/io/Lexicon" = some m.cls := findClass_of_methodNamed Bd.named
  have hnm := (name_of_methodNamed Bd.named Bd.method).1
  have X0 : Stand p l e ({ frames := 0, cells := 0, slots := 0, locals := 0 } : Room) s m #[(.int p0)] below meth c s₁ [] 0 0 := Stand.of_body Bd
  have e0 : s₁.heap = h0 := by rw [← hh, Bd.state]; rfl
  have hv0 : f1 p0 = f1 p0 := rfl
  have B12 : ∀ (T_12 : State) (X_12 : Stand p l e ({ frames := 0, cells := 0, slots := 0, locals := 0 } : Room) s m #[(.int p0)] below meth c T_12 [] 0 0) (e_12 : T_12.heap = h0), f1 p0 = f1_12 p0 → Fini p e below s (fun v h' L => v = some (.int (f1 p0)) ∧ h' = h0 ∧ L = []) (Room.cells ({ frames := 0, cells := 0, slots := 0, locals := 0 } : Room)) (Room.slots ({ frames := 0, cells := 0, slots := 0, locals := 0 } : Room)) T_12 (mkF m 12 #[.val (.int p0)] []) := by
    intro T_12 X_12 e_12  hv_12
    refine Fini.st (fun _ k => XS.iloadN X_12.here hx rfl (hb hby d1_12) rfl k) ?_
    show Fini p e below s _ _ _ T_12 (mkF m 13 #[.val (.int p0)] [(.int p0)])
    refine Fini.st (fun _ k => XS.bipush X_12.here hx rfl (hb hby d1_13) k) ?_
    show Fini p e below s _ _ _ T_12 (mkF m 15 #[.val (.int p0)] [(.int (65 : Int32)), (.int p0)])
    by_cases c7 : p0 < (65 : Int32)
    · have hv8 := hv_12.trans (if_pos c7)
      refine Fini.st (fun _ k => XS.icmpYes X_12.here hx rfl (pc0 := 15) (pc' := 28) rfl (hb hby d1_15) rfl (XT.ii_lt_t c7) (by decide) (by decide) k) ?_
      show Fini p e below s _ _ _ T_12 (mkF m 28 #[.val (.int p0)] [])
      refine Fini.st (fun _ k => XS.iconst X_12.here hx rfl (hb hby d1_28) k) ?_
      show Fini p e below s _ _ _ T_12 (mkF m 29 #[.val (.int p0)] [(.int (0 : Int32))])
      exact Fini.retN X_12 hx hlk (t := .boolean) Bd.returns (by simp) (hb hby d1_29) nb0 (by decide) (by decide) ⟨congrArg (fun z => some (Value.int z)) hv8.symm, e_12, rfl⟩
    · have hv9 := hv_12.trans (if_neg c7)
      refine Fini.st (fun _ k => XS.icmpNo X_12.here hx rfl (hb hby d1_15) rfl (XT.ii_lt_f c7) k) ?_
      show Fini p e below s _ _ _ T_12 (mkF m 18 #[.val (.int p0)] [])
      refine Fini.st (fun _ k => XS.iloadN X_12.here hx rfl (hb hby d1_18) rfl k) ?_
      show Fini p e below s _ _ _ T_12 (mkF m 19 #[.val (.int p0)] [(.int p0)])
      refine Fini.st (fun _ k => XS.bipush X_12.here hx rfl (hb hby d1_19) k) ?_
      show Fini p e below s _ _ _ T_12 (mkF m 21 #[.val (.int p0)] [(.int (90 : Int32)), (.int p0)])
      by_cases c10 : (90 : Int32) < p0
      · have hv11 := hv9.trans (if_pos c10)
        refine Fini.st (fun _ k => XS.icmpYes X_12.here hx rfl (pc0 := 21) (pc' := 28) rfl (hb hby d1_21) rfl (XT.ii_gt_t c10) (by decide) (by decide) k) ?_
        show Fini p e below s _ _ _ T_12 (mkF m 28 #[.val (.int p0)] [])
        refine Fini.st (fun _ k => XS.iconst X_12.here hx rfl (hb hby d1_28) k) ?_
        show Fini p e below s _ _ _ T_12 (mkF m 29 #[.val (.int p0)] [(.int (0 : Int32))])
        exact Fini.retN X_12 hx hlk (t := .boolean) Bd.returns (by simp) (hb hby d1_29) nb0 (by decide) (by decide) ⟨congrArg (fun z => some (Value.int z)) hv11.symm, e_12, rfl⟩
      · have hv12 := hv9.trans (if_neg c10)
        refine Fini.st (fun _ k => XS.icmpNo X_12.here hx rfl (hb hby d1_21) rfl (XT.ii_gt_f c10) k) ?_
        show Fini p e below s _ _ _ T_12 (mkF m 24 #[.val (.int p0)] [])
        refine Fini.st (fun _ k => XS.iconst X_12.here hx rfl (hb hby d1_24) k) ?_
        show Fini p e below s _ _ _ T_12 (mkF m 25 #[.val (.int p0)] [(.int (1 : Int32))])
        refine Fini.st (fun _ k => XS.goto X_12.here hx rfl (pc0 := 25) (pc' := 29) rfl (hb hby d1_25) (by decide) (by decide) k) ?_
        show Fini p e below s _ _ _ T_12 (mkF m 29 #[.val (.int p0)] [(.int (1 : Int32))])
        exact Fini.retN X_12 hx hlk (t := .boolean) Bd.returns (by simp) (hb hby d1_29) nb1 (by decide) (by decide) ⟨congrArg (fun z => some (Value.int z)) hv12.symm, e_12, rfl⟩
  show Fini p e below s (fun v h' L => v = some (.int (f1 p0)) ∧ h' = h0 ∧ L = []) _ _ s₁ (entryFrame m #[(.int p0)] 1)
  refine Fini.cast (ef1 m p0) ?_
  show Fini p e below s _ _ _ s₁ (mkF m 0 #[.val (.int p0)] [])
  refine Fini.st (fun _ k => XS.iloadN X0.here hx rfl (hb hby d1_0) rfl k) ?_
  show Fini p e below s _ _ _ s₁ (mkF m 1 #[.val (.int p0)] [(.int p0)])
  refine Fini.st (fun _ k => XS.bipush X0.here hx rfl (hb hby d1_1) k) ?_
  show Fini p e below s _ _ _ s₁ (mkF m 3 #[.val (.int p0)] [(.int (97 : Int32)), (.int p0)])
  by_cases c1 : p0 < (97 : Int32)
  · have hv2 := hv0.trans (if_pos c1)
    refine Fini.st (fun _ k => XS.icmpYes X0.here hx rfl (pc0 := 3) (pc' := 12) rfl (hb hby d1_3) rfl (XT.ii_lt_t c1) (by decide) (by decide) k) ?_
    show Fini p e below s _ _ _ s₁ (mkF m 12 #[.val (.int p0)] [])
    exact B12 s₁ X0 e0 hv2
  · have hv3 := hv0.trans (if_neg c1)
    refine Fini.st (fun _ k => XS.icmpNo X0.here hx rfl (hb hby d1_3) rfl (XT.ii_lt_f c1) k) ?_
    show Fini p e below s _ _ _ s₁ (mkF m 6 #[.val (.int p0)] [])
    refine Fini.st (fun _ k => XS.iloadN X0.here hx rfl (hb hby d1_6) rfl k) ?_
    show Fini p e below s _ _ _ s₁ (mkF m 7 #[.val (.int p0)] [(.int p0)])
    refine Fini.st (fun _ k => XS.bipush X0.here hx rfl (hb hby d1_7) k) ?_
    show Fini p e below s _ _ _ s₁ (mkF m 9 #[.val (.int p0)] [(.int (122 : Int32)), (.int p0)])
    by_cases c4 : (122 : Int32) < p0
    · have hv5 := hv3.trans (if_pos c4)
      refine Fini.st (fun _ k => XS.icmpNo X0.here hx rfl (hb hby d1_9) rfl (XT.ii_le_f c4) k) ?_
      show Fini p e below s _ _ _ s₁ (mkF m 12 #[.val (.int p0)] [])
      exact B12 s₁ X0 e0 hv5
    · have hv6 := hv3.trans (if_neg c4)
      refine Fini.st (fun _ k => XS.icmpYes X0.here hx rfl (pc0 := 9) (pc' := 24) rfl (hb hby d1_9) rfl (XT.ii_le_t c4) (by decide) (by decide) k) ?_
      show Fini p e below s _ _ _ s₁ (mkF m 24 #[.val (.int p0)] [])
      refine Fini.st (fun _ k => XS.iconst X0.here hx rfl (hb hby d1_24) k) ?_
      show Fini p e below s _ _ _ s₁ (mkF m 25 #[.val (.int p0)] [(.int (1 : Int32))])
      refine Fini.st (fun _ k => XS.goto X0.here hx rfl (pc0 := 25) (pc' := 29) rfl (hb hby d1_25) (by decide) (by decide) k) ?_
      show Fini p e below s _ _ _ s₁ (mkF m 29 #[.val (.int p0)] [(.int (1 : Int32))])
      exact Fini.retN X0 hx hlk (t := .boolean) Bd.returns (by simp) (hb hby d1_29) nb1 (by decide) (by decide) ⟨congrArg (fun z => some (Value.int z)) hv6.symm, e0, rfl⟩
theorem d2_0 : decode method_2_code 0 = .ok (.iload_n 0, 1) := by decide +kernel
theorem d2_1 : decode method_2_code 1 = .ok (.bipush 32, 2) := by decide +kernel
theorem d2_3 : decode method_2_code 3 = .ok (.ior, 1) := by decide +kernel
theorem d2_4 : decode method_2_code 4 = .ok (.istore_n 1, 1) := by decide +kernel
theorem d2_5 : decode method_2_code 5 = .ok (.iload_n 1, 1) := by decide +kernel
theorem d2_6 : decode method_2_code 6 = .ok (.bipush 97, 2) := by decide +kernel
theorem d2_8 : decode method_2_code 8 = .ok (.if_icmp .lt 13, 3) := by decide +kernel
theorem d2_11 : decode method_2_code 11 = .ok (.iload_n 1, 1) := by decide +kernel
theorem d2_12 : decode method_2_code 12 = .ok (.bipush 122, 2) := by decide +kernel
theorem d2_14 : decode method_2_code 14 = .ok (.if_icmp .gt 7, 3) := by decide +kernel
theorem d2_17 : decode method_2_code 17 = .ok (.iconst 1, 1) := by decide +kernel
theorem d2_18 : decode method_2_code 18 = .ok (.goto 4, 3) := by decide +kernel
theorem d2_21 : decode method_2_code 21 = .ok (.iconst 0, 1) := by decide +kernel
theorem d2_22 : decode method_2_code 22 = .ok (.ireturn, 1) := by decide +kernel
theorem pn_1 : plainName "com/example/rights_after_actions/rightsafteractions/io/LexiconIsNameStartPinLaw" = true := by first | (simp [plainName, overriddenIn]; done) | decide +kernel
theorem ef2 (m : MethodId) (x0 : Int32) : entryFrame m #[(.int x0)] 2 = mkF m 0 #[.val (.int x0), .unset] [] := by first | (simp [entryFrame, mkF, argsToLocals, Value.category]; done) | rfl
def f2 (p0 : Int32) : Int32 := (if (p0 ||| (32 : Int32)) < (97 : Int32) then (0 : Int32) else (if (122 : Int32) < (p0 ||| (32 : Int32)) then (0 : Int32) else (1 : Int32)))
set_option maxRecDepth 65536 in
set_option maxHeartbeats 40000000 in
theorem rm2 (l : Launch) (Z : State) (a0 : Array Value) (hw : ∀ d ∈ tables_1, d.before a0 Z = true) (ws : List Jvm.Cond) (p0 : Int32) (h0 : Heap) :
    Cmet l Z (⟨"com/example/rights_after_actions/rightsafteractions/io/LexiconIsNameStartPinLaw", "ref", "(I)Z"⟩ : MethodName) method_2_code 2 (some .boolean) ws ({ frames := 0, cells := 0, slots := 0, locals := 0 } : Room) #[(.int p0)] h0 (fun v h' L => v = some (.int (f2 p0)) ∧ h' = h0 ∧ L = []) := by
  refine MetFree.of_bodySF (plainFor_of_name pn_1) hisR ?_
  intro p e s m args below meth c s₁ Bd hml0 hP hK
  obtain ⟨rfl, hZ, hh⟩ := hP
  have hx := Bd.exec
  have hlk : meth.locks = false := BodyLoose.notSynchronized Bd
  have hby := Bd.bytes
  have hml : c.maxLocals = 2 := hml0
  have hown : s.vm.findClass "com/example/rights_after_actions/rightsafteractions/io/LexiconIsNameStartPinLaw" = some m.cls := findClass_of_methodNamed Bd.named
  have hnm := (name_of_methodNamed Bd.named Bd.method).1
  have X0 : Stand p l e ({ frames := 0, cells := 0, slots := 0, locals := 0 } : Room) s m #[(.int p0)] below meth c s₁ [] 0 0 := Stand.of_body Bd
  have e0 : s₁.heap = h0 := by rw [← hh, Bd.state]; rfl
  have hv0 : f2 p0 = f2 p0 := rfl
  show Fini p e below s (fun v h' L => v = some (.int (f2 p0)) ∧ h' = h0 ∧ L = []) _ _ s₁ (entryFrame m #[(.int p0)] 2)
  refine Fini.cast (ef2 m p0) ?_
  show Fini p e below s _ _ _ s₁ (mkF m 0 #[.val (.int p0), .unset] [])
  refine Fini.st (fun _ k => XS.iloadN X0.here hx rfl (hb hby d2_0) rfl k) ?_
  show Fini p e below s _ _ _ s₁ (mkF m 1 #[.val (.int p0), .unset] [(.int p0)])
  refine Fini.st (fun _ k => XS.bipush X0.here hx rfl (hb hby d2_1) k) ?_
  show Fini p e below s _ _ _ s₁ (mkF m 3 #[.val (.int p0), .unset] [(.int (32 : Int32)), (.int p0)])
  refine Fini.st (fun _ k => XS.ior X0.here hx rfl (hb hby d2_3) rfl k) ?_
  show Fini p e below s _ _ _ s₁ (mkF m 4 #[.val (.int p0), .unset] [(.int (p0 ||| (32 : Int32)))])
  refine Fini.st (fun _ k => XS.istoreN X0.here hx rfl (hb hby d2_4) rfl (l' := #[.val (.int p0), .val (.int (p0 ||| (32 : Int32)))]) rfl k) ?_
  show Fini p e below s _ _ _ s₁ (mkF m 5 #[.val (.int p0), .val (.int (p0 ||| (32 : Int32)))] [])
  refine Fini.st (fun _ k => XS.iloadN X0.here hx rfl (hb hby d2_5) rfl k) ?_
  show Fini p e below s _ _ _ s₁ (mkF m 6 #[.val (.int p0), .val (.int (p0 ||| (32 : Int32)))] [(.int (p0 ||| (32 : Int32)))])
  refine Fini.st (fun _ k => XS.bipush X0.here hx rfl (hb hby d2_6) k) ?_
  show Fini p e below s _ _ _ s₁ (mkF m 8 #[.val (.int p0), .val (.int (p0 ||| (32 : Int32)))] [(.int (97 : Int32)), (.int (p0 ||| (32 : Int32)))])
  by_cases c1 : (p0 ||| (32 : Int32)) < (97 : Int32)
  · have hv2 := hv0.trans (if_pos c1)
    refine Fini.st (fun _ k => XS.icmpYes X0.here hx rfl (pc0 := 8) (pc' := 21) rfl (hb hby d2_8) rfl (XT.ii_lt_t c1) (by decide) (by decide) k) ?_
    show Fini p e below s _ _ _ s₁ (mkF m 21 #[.val (.int p0), .val (.int (p0 ||| (32 : Int32)))] [])
    refine Fini.st (fun _ k => XS.iconst X0.here hx rfl (hb hby d2_21) k) ?_
    show Fini p e below s _ _ _ s₁ (mkF m 22 #[.val (.int p0), .val (.int (p0 ||| (32 : Int32)))] [(.int (0 : Int32))])
    exact Fini.retN X0 hx hlk (t := .boolean) Bd.returns (by simp) (hb hby d2_22) nb0 (by decide) (by decide) ⟨congrArg (fun z => some (Value.int z)) hv2.symm, e0, rfl⟩
  · have hv3 := hv0.trans (if_neg c1)
    refine Fini.st (fun _ k => XS.icmpNo X0.here hx rfl (hb hby d2_8) rfl (XT.ii_lt_f c1) k) ?_
    show Fini p e below s _ _ _ s₁ (mkF m 11 #[.val (.int p0), .val (.int (p0 ||| (32 : Int32)))] [])
    refine Fini.st (fun _ k => XS.iloadN X0.here hx rfl (hb hby d2_11) rfl k) ?_
    show Fini p e below s _ _ _ s₁ (mkF m 12 #[.val (.int p0), .val (.int (p0 ||| (32 : Int32)))] [(.int (p0 ||| (32 : Int32)))])
    refine Fini.st (fun _ k => XS.bipush X0.here hx rfl (hb hby d2_12) k) ?_
    show Fini p e below s _ _ _ s₁ (mkF m 14 #[.val (.int p0), .val (.int (p0 ||| (32 : Int32)))] [(.int (122 : Int32)), (.int (p0 ||| (32 : Int32)))])
    by_cases c4 : (122 : Int32) < (p0 ||| (32 : Int32))
    · have hv5 := hv3.trans (if_pos c4)
      refine Fini.st (fun _ k => XS.icmpYes X0.here hx rfl (pc0 := 14) (pc' := 21) rfl (hb hby d2_14) rfl (XT.ii_gt_t c4) (by decide) (by decide) k) ?_
      show Fini p e below s _ _ _ s₁ (mkF m 21 #[.val (.int p0), .val (.int (p0 ||| (32 : Int32)))] [])
      refine Fini.st (fun _ k => XS.iconst X0.here hx rfl (hb hby d2_21) k) ?_
      show Fini p e below s _ _ _ s₁ (mkF m 22 #[.val (.int p0), .val (.int (p0 ||| (32 : Int32)))] [(.int (0 : Int32))])
      exact Fini.retN X0 hx hlk (t := .boolean) Bd.returns (by simp) (hb hby d2_22) nb0 (by decide) (by decide) ⟨congrArg (fun z => some (Value.int z)) hv5.symm, e0, rfl⟩
    · have hv6 := hv3.trans (if_neg c4)
      refine Fini.st (fun _ k => XS.icmpNo X0.here hx rfl (hb hby d2_14) rfl (XT.ii_gt_f c4) k) ?_
      show Fini p e below s _ _ _ s₁ (mkF m 17 #[.val (.int p0), .val (.int (p0 ||| (32 : Int32)))] [])
      refine Fini.st (fun _ k => XS.iconst X0.here hx rfl (hb hby d2_17) k) ?_
      show Fini p e below s _ _ _ s₁ (mkF m 18 #[.val (.int p0), .val (.int (p0 ||| (32 : Int32)))] [(.int (1 : Int32))])
      refine Fini.st (fun _ k => XS.goto X0.here hx rfl (pc0 := 18) (pc' := 22) rfl (hb hby d2_18) (by decide) (by decide) k) ?_
      show Fini p e below s _ _ _ s₁ (mkF m 22 #[.val (.int p0), .val (.int (p0 ||| (32 : Int32)))] [(.int (1 : Int32))])
      exact Fini.retN X0 hx hlk (t := .boolean) Bd.returns (by simp) (hb hby d2_22) nb1 (by decide) (by decide) ⟨congrArg (fun z => some (Value.int z)) hv6.symm, e0, rfl⟩
theorem pd_0 : parseMethodDescriptor "(I)Z" = some ⟨[.int], some .boolean⟩ := by decide +kernel
theorem ef0 (m : MethodId) (x0 : Int32) (x1 : Int32) : entryFrame m #[(.int x0), (.int x1)] maxLocals = mkF m 0 #[.val (.int x0), .val (.int x1), .unset, .unset, .unset] [] := by first | (simp [entryFrame, mkF, argsToLocals, Value.category, maxLocals]; done) | rfl
def f0_38 (p0 : Int32) (p1 : Int32) (z38_s0 : Int32) (z21_s0 : Int32) : Int32 := (if z21_s0 = (0 : Int32) then (0 : Int32) else (if z38_s0 = (0 : Int32) then (0 : Int32) else (1 : Int32)))
def f0_21 (p0 : Int32) (p1 : Int32) (z21_s0 : Int32) : Int32 := (if (f1 (p1 &&& (127 : Int32))) = (f2 (p1 &&& (127 : Int32))) then (f0_38 p0 p1 (1 : Int32) z21_s0) else (f0_38 p0 p1 (0 : Int32) z21_s0))
def f0 (p0 : Int32) (p1 : Int32) : Int32 := (if (f1 p0) = (f2 p0) then (f0_21 p0 p1 (1 : Int32)) else (f0_21 p0 p1 (0 : Int32)))
set_option maxRecDepth 65536 in
set_option maxHeartbeats 40000000 in
theorem rm0 (l : Launch) (Z : State) (a0 : Array Value) (hw : ∀ d ∈ tables_1, d.before a0 Z = true) (ws : List Jvm.Cond) (p0 : Int32) (p1 : Int32) (h0 : Heap) :
    Cmet l Z x code maxLocals ret ws room_1 #[(.int p0), (.int p1)] h0 (fun v h' L => v = some (.int (f0 p0 p1)) ∧ h' = h0 ∧ L = []) := by
  refine MetFree.of_bodySF (plainFor_of_name pn_1) hisR ?_
  intro p e s m args below meth c s₁ Bd hml0 hP hK
  obtain ⟨rfl, hZ, hh⟩ := hP
  have hx := Bd.exec
  have hlk : meth.locks = false := BodyLoose.notSynchronized Bd
  have hby := Bd.bytes
  have hml : c.maxLocals = 5 := hml0
  have hown : s.vm.findClass "com/example/rights_after_actions/rightsafteractions/io/LexiconIsNameStartPinLaw" = some m.cls := findClass_of_methodNamed Bd.named
  have hnm := (name_of_methodNamed Bd.named Bd.method).1
  have X0 : Stand p l e room_1 s m #[(.int p0), (.int p1)] below meth c s₁ [] 0 0 := Stand.of_body Bd
  have e0 : s₁.heap = h0 := by rw [← hh, Bd.state]; rfl
  have hv0 : f0 p0 p1 = f0 p0 p1 := rfl
  have B38 : ∀ (T_38 : State) (X_38 : Stand p l e room_1 s m #[(.int p0), (.int p1)] below meth c T_38 [] 0 0) (e_38 : T_38.heap = h0) (z38_s0 : Int32) (z21_s0 : Int32), f0 p0 p1 = f0_38 p0 p1 z38_s0 z21_s0 → Fini p e below s (fun v h' L => v = some (.int (f0 p0 p1)) ∧ h' = h0 ∧ L = []) (Room.cells room_1) (Room.slots room_1) T_38 (mkF m 38 #[.val (.int p0), .val (.int p1), .val (.int (p1 &&& (127 : Int32))), .val (.int z21_s0), .unset] [(.int z38_s0)]) := by
    intro T_38 X_38 e_38 z38_s0 z21_s0 hv_38
    refine Fini.st (fun _ k => XS.istore X_38.here hx rfl (hb hby at_38) rfl (l' := #[.val (.int p0), .val (.int p1), .val (.int (p1 &&& (127 : Int32))), .val (.int z21_s0), .val (.int z38_s0)]) rfl k) ?_
    show Fini p e below s _ _ _ T_38 (mkF m 40 #[.val (.int p0), .val (.int p1), .val (.int (p1 &&& (127 : Int32))), .val (.int z21_s0), .val (.int z38_s0)] [])
    refine Fini.st (fun _ k => XS.iloadN X_38.here hx rfl (hb hby at_40) rfl k) ?_
    show Fini p e below s _ _ _ T_38 (mkF m 41 #[.val (.int p0), .val (.int p1), .val (.int (p1 &&& (127 : Int32))), .val (.int z21_s0), .val (.int z38_s0)] [(.int z21_s0)])
    by_cases c11 : z21_s0 = (0 : Int32)
    · have hv12 := hv_38.trans (if_pos c11)
      refine Fini.st (fun _ k => XS.ifYes X_38.here hx rfl (pc0 := 41) (pc' := 53) rfl (hb hby at_41) rfl (XT.i0_eq_t c11) (by decide) (by decide) k) ?_
      show Fini p e below s _ _ _ T_38 (mkF m 53 #[.val (.int p0), .val (.int p1), .val (.int (p1 &&& (127 : Int32))), .val (.int z21_s0), .val (.int z38_s0)] [])
      refine Fini.st (fun _ k => XS.iconst X_38.here hx rfl (hb hby at_53) k) ?_
      show Fini p e below s _ _ _ T_38 (mkF m 54 #[.val (.int p0), .val (.int p1), .val (.int (p1 &&& (127 : Int32))), .val (.int z21_s0), .val (.int z38_s0)] [(.int (0 : Int32))])
      exact Fini.retN X_38 hx hlk (t := .boolean) Bd.returns (by simp) (hb hby at_54) nb0 (by decide) (by decide) ⟨congrArg (fun z => some (Value.int z)) hv12.symm, e_38, rfl⟩
    · have hv13 := hv_38.trans (if_neg c11)
      refine Fini.st (fun _ k => XS.ifNo X_38.here hx rfl (hb hby at_41) rfl (XT.i0_eq_f c11) k) ?_
      show Fini p e below s _ _ _ T_38 (mkF m 44 #[.val (.int p0), .val (.int p1), .val (.int (p1 &&& (127 : Int32))), .val (.int z21_s0), .val (.int z38_s0)] [])
      refine Fini.st (fun _ k => XS.iload X_38.here hx rfl (hb hby at_44) rfl k) ?_
      show Fini p e below s _ _ _ T_38 (mkF m 46 #[.val (.int p0), .val (.int p1), .val (.int (p1 &&& (127 : Int32))), .val (.int z21_s0), .val (.int z38_s0)] [(.int z38_s0)])
      by_cases c14 : z38_s0 = (0 : Int32)
      · have hv15 := hv13.trans (if_pos c14)
        refine Fini.st (fun _ k => XS.ifYes X_38.here hx rfl (pc0 := 46) (pc' := 53) rfl (hb hby at_46) rfl (XT.i0_eq_t c14) (by decide) (by decide) k) ?_
        show Fini p e below s _ _ _ T_38 (mkF m 53 #[.val (.int p0), .val (.int p1), .val (.int (p1 &&& (127 : Int32))), .val (.int z21_s0), .val (.int z38_s0)] [])
        refine Fini.st (fun _ k => XS.iconst X_38.here hx rfl (hb hby at_53) k) ?_
        show Fini p e below s _ _ _ T_38 (mkF m 54 #[.val (.int p0), .val (.int p1), .val (.int (p1 &&& (127 : Int32))), .val (.int z21_s0), .val (.int z38_s0)] [(.int (0 : Int32))])
        exact Fini.retN X_38 hx hlk (t := .boolean) Bd.returns (by simp) (hb hby at_54) nb0 (by decide) (by decide) ⟨congrArg (fun z => some (Value.int z)) hv15.symm, e_38, rfl⟩
      · have hv16 := hv13.trans (if_neg c14)
        refine Fini.st (fun _ k => XS.ifNo X_38.here hx rfl (hb hby at_46) rfl (XT.i0_eq_f c14) k) ?_
        show Fini p e below s _ _ _ T_38 (mkF m 49 #[.val (.int p0), .val (.int p1), .val (.int (p1 &&& (127 : Int32))), .val (.int z21_s0), .val (.int z38_s0)] [])
        refine Fini.st (fun _ k => XS.iconst X_38.here hx rfl (hb hby at_49) k) ?_
        show Fini p e below s _ _ _ T_38 (mkF m 50 #[.val (.int p0), .val (.int p1), .val (.int (p1 &&& (127 : Int32))), .val (.int z21_s0), .val (.int z38_s0)] [(.int (1 : Int32))])
        refine Fini.st (fun _ k => XS.goto X_38.here hx rfl (pc0 := 50) (pc' := 54) rfl (hb hby at_50) (by decide) (by decide) k) ?_
        show Fini p e below s _ _ _ T_38 (mkF m 54 #[.val (.int p0), .val (.int p1), .val (.int (p1 &&& (127 : Int32))), .val (.int z21_s0), .val (.int z38_s0)] [(.int (1 : Int32))])
        exact Fini.retN X_38 hx hlk (t := .boolean) Bd.returns (by simp) (hb hby at_54) nb1 (by decide) (by decide) ⟨congrArg (fun z => some (Value.int z)) hv16.symm, e_38, rfl⟩
  have B21 : ∀ (T_21 : State) (X_21 : Stand p l e room_1 s m #[(.int p0), (.int p1)] below meth c T_21 [] 0 0) (e_21 : T_21.heap = h0) (z21_s0 : Int32), f0 p0 p1 = f0_21 p0 p1 z21_s0 → Fini p e below s (fun v h' L => v = some (.int (f0 p0 p1)) ∧ h' = h0 ∧ L = []) (Room.cells room_1) (Room.slots room_1) T_21 (mkF m 21 #[.val (.int p0), .val (.int p1), .val (.int (p1 &&& (127 : Int32))), .unset, .unset] [(.int z21_s0)]) := by
    intro T_21 X_21 e_21 z21_s0 hv_21
    refine Fini.st (fun _ k => XS.istoreN X_21.here hx rfl (hb hby at_21) rfl (l' := #[.val (.int p0), .val (.int p1), .val (.int (p1 &&& (127 : Int32))), .val (.int z21_s0), .unset]) rfl k) ?_
    show Fini p e below s _ _ _ T_21 (mkF m 22 #[.val (.int p0), .val (.int p1), .val (.int (p1 &&& (127 : Int32))), .val (.int z21_s0), .unset] [])
    refine Fini.st (fun _ k => XS.iloadN X_21.here hx rfl (hb hby at_22) rfl k) ?_
    show Fini p e below s _ _ _ T_21 (mkF m 23 #[.val (.int p0), .val (.int p1), .val (.int (p1 &&& (127 : Int32))), .val (.int z21_s0), .unset] [(.int (p1 &&& (127 : Int32)))])
    obtain ⟨T6, X6, e6, st6⟩ := pureS X_21 hx hZ hown (hw _ (List.mem_of_getElem? (i := 0) rfl)) (hw _ (List.mem_of_getElem? (i := 1) rfl)) (hw _ (List.mem_of_getElem? (i := 2) rfl)) (hw _ (List.mem_of_getElem? (i := 3) rfl)) (by decide) (rm1 l Z a0 hw [] (p1 &&& (127 : Int32)) h0) e_21 (W := 0) (by decide) (by decide) (by decide) (by decide) (g := (mkF m 23 #[.val (.int p0), .val (.int p1), .val (.int (p1 &&& (127 : Int32))), .val (.int z21_s0), .unset] [(.int (p1 &&& (127 : Int32)))])) rfl (by rw [hml]; rfl) (argsL := [(.int (p1 &&& (127 : Int32)))]) (rest := []) rfl (lenOf pd_0 rfl) rfl (by show 2 * 0 + _ ≤ _; exact Nat.le_of_eq rfl) (hb hby at_23)
    refine Fini.st st6 ?_
    show Fini p e below s _ _ _ T6 (mkF m 26 #[.val (.int p0), .val (.int p1), .val (.int (p1 &&& (127 : Int32))), .val (.int z21_s0), .unset] [(.int (f1 (p1 &&& (127 : Int32))))])
    refine Fini.st (fun _ k => XS.iloadN X6.here hx rfl (hb hby at_26) rfl k) ?_
    show Fini p e below s _ _ _ T6 (mkF m 27 #[.val (.int p0), .val (.int p1), .val (.int (p1 &&& (127 : Int32))), .val (.int z21_s0), .unset] [(.int (p1 &&& (127 : Int32))), (.int (f1 (p1 &&& (127 : Int32))))])
    obtain ⟨T7, X7, e7, st7⟩ := pureS X6 hx hZ hown (hw _ (List.mem_of_getElem? (i := 4) rfl)) (hw _ (List.mem_of_getElem? (i := 5) rfl)) (hw _ (List.mem_of_getElem? (i := 6) rfl)) (hw _ (List.mem_of_getElem? (i := 7) rfl)) (by decide) (rm2 l Z a0 hw [] (p1 &&& (127 : Int32)) h0) e6 (W := 1) (by decide) (by decide) (by decide) (by decide) (g := (mkF m 27 #[.val (.int p0), .val (.int p1), .val (.int (p1 &&& (127 : Int32))), .val (.int z21_s0), .unset] [(.int (p1 &&& (127 : Int32))), (.int (f1 (p1 &&& (127 : Int32))))])) rfl (by rw [hml]; rfl) (argsL := [(.int (p1 &&& (127 : Int32)))]) (rest := [(.int (f1 (p1 &&& (127 : Int32))))]) rfl (lenOf pd_0 rfl) rfl (by show 2 * 0 + _ ≤ _; exact Nat.le_of_eq rfl) (hb hby at_27)
    refine Fini.st st7 ?_
    show Fini p e below s _ _ _ T7 (mkF m 30 #[.val (.int p0), .val (.int p1), .val (.int (p1 &&& (127 : Int32))), .val (.int z21_s0), .unset] [(.int (f2 (p1 &&& (127 : Int32)))), (.int (f1 (p1 &&& (127 : Int32))))])
    by_cases c8 : (f1 (p1 &&& (127 : Int32))) = (f2 (p1 &&& (127 : Int32)))
    · have hv9 := hv_21.trans (if_pos c8)
      refine Fini.st (fun _ k => XS.icmpNo X7.here hx rfl (hb hby at_30) rfl (XT.ii_ne_f c8) k) ?_
      show Fini p e below s _ _ _ T7 (mkF m 33 #[.val (.int p0), .val (.int p1), .val (.int (p1 &&& (127 : Int32))), .val (.int z21_s0), .unset] [])
      refine Fini.st (fun _ k => XS.iconst X7.here hx rfl (hb hby at_33) k) ?_
      show Fini p e below s _ _ _ T7 (mkF m 34 #[.val (.int p0), .val (.int p1), .val (.int (p1 &&& (127 : Int32))), .val (.int z21_s0), .unset] [(.int (1 : Int32))])
      refine Fini.st (fun _ k => XS.goto X7.here hx rfl (pc0 := 34) (pc' := 38) rfl (hb hby at_34) (by decide) (by decide) k) ?_
      show Fini p e below s _ _ _ T7 (mkF m 38 #[.val (.int p0), .val (.int p1), .val (.int (p1 &&& (127 : Int32))), .val (.int z21_s0), .unset] [(.int (1 : Int32))])
      exact B38 T7 X7 e7 (1 : Int32) z21_s0 hv9
    · have hv10 := hv_21.trans (if_neg c8)
      refine Fini.st (fun _ k => XS.icmpYes X7.here hx rfl (pc0 := 30) (pc' := 37) rfl (hb hby at_30) rfl (XT.ii_ne_t c8) (by decide) (by decide) k) ?_
      show Fini p e below s _ _ _ T7 (mkF m 37 #[.val (.int p0), .val (.int p1), .val (.int (p1 &&& (127 : Int32))), .val (.int z21_s0), .unset] [])
      refine Fini.st (fun _ k => XS.iconst X7.here hx rfl (hb hby at_37) k) ?_
      show Fini p e below s _ _ _ T7 (mkF m 38 #[.val (.int p0), .val (.int p1), .val (.int (p1 &&& (127 : Int32))), .val (.int z21_s0), .unset] [(.int (0 : Int32))])
      exact B38 T7 X7 e7 (0 : Int32) z21_s0 hv10
  show Fini p e below s (fun v h' L => v = some (.int (f0 p0 p1)) ∧ h' = h0 ∧ L = []) _ _ s₁ (entryFrame m #[(.int p0), (.int p1)] maxLocals)
  refine Fini.cast (ef0 m p0 p1) ?_
  show Fini p e below s _ _ _ s₁ (mkF m 0 #[.val (.int p0), .val (.int p1), .unset, .unset, .unset] [])
  refine Fini.st (fun _ k => XS.iloadN X0.here hx rfl (hb hby at_0) rfl k) ?_
  show Fini p e below s _ _ _ s₁ (mkF m 1 #[.val (.int p0), .val (.int p1), .unset, .unset, .unset] [(.int p1)])
  refine Fini.st (fun _ k => XS.bipush X0.here hx rfl (hb hby at_1) k) ?_
  show Fini p e below s _ _ _ s₁ (mkF m 3 #[.val (.int p0), .val (.int p1), .unset, .unset, .unset] [(.int (127 : Int32)), (.int p1)])
  refine Fini.st (fun _ k => XS.iand X0.here hx rfl (hb hby at_3) rfl k) ?_
  show Fini p e below s _ _ _ s₁ (mkF m 4 #[.val (.int p0), .val (.int p1), .unset, .unset, .unset] [(.int (p1 &&& (127 : Int32)))])
  refine Fini.st (fun _ k => XS.istoreN X0.here hx rfl (hb hby at_4) rfl (l' := #[.val (.int p0), .val (.int p1), .val (.int (p1 &&& (127 : Int32))), .unset, .unset]) rfl k) ?_
  show Fini p e below s _ _ _ s₁ (mkF m 5 #[.val (.int p0), .val (.int p1), .val (.int (p1 &&& (127 : Int32))), .unset, .unset] [])
  refine Fini.st (fun _ k => XS.iloadN X0.here hx rfl (hb hby at_5) rfl k) ?_
  show Fini p e below s _ _ _ s₁ (mkF m 6 #[.val (.int p0), .val (.int p1), .val (.int (p1 &&& (127 : Int32))), .unset, .unset] [(.int p0)])
  obtain ⟨T1, X1, e1, st1⟩ := pureS X0 hx hZ hown (hw _ (List.mem_of_getElem? (i := 0) rfl)) (hw _ (List.mem_of_getElem? (i := 1) rfl)) (hw _ (List.mem_of_getElem? (i := 2) rfl)) (hw _ (List.mem_of_getElem? (i := 3) rfl)) (by decide) (rm1 l Z a0 hw [] p0 h0) e0 (W := 0) (by decide) (by decide) (by decide) (by decide) (g := (mkF m 6 #[.val (.int p0), .val (.int p1), .val (.int (p1 &&& (127 : Int32))), .unset, .unset] [(.int p0)])) rfl (by rw [hml]; rfl) (argsL := [(.int p0)]) (rest := []) rfl (lenOf pd_0 rfl) rfl (by show 2 * 0 + _ ≤ _; exact Nat.le_of_eq rfl) (hb hby at_6)
  refine Fini.st st1 ?_
  show Fini p e below s _ _ _ T1 (mkF m 9 #[.val (.int p0), .val (.int p1), .val (.int (p1 &&& (127 : Int32))), .unset, .unset] [(.int (f1 p0))])
  refine Fini.st (fun _ k => XS.iloadN X1.here hx rfl (hb hby at_9) rfl k) ?_
  show Fini p e below s _ _ _ T1 (mkF m 10 #[.val (.int p0), .val (.int p1), .val (.int (p1 &&& (127 : Int32))), .unset, .unset] [(.int p0), (.int (f1 p0))])
  obtain ⟨T2, X2, e2, st2⟩ := pureS X1 hx hZ hown (hw _ (List.mem_of_getElem? (i := 4) rfl)) (hw _ (List.mem_of_getElem? (i := 5) rfl)) (hw _ (List.mem_of_getElem? (i := 6) rfl)) (hw _ (List.mem_of_getElem? (i := 7) rfl)) (by decide) (rm2 l Z a0 hw [] p0 h0) e1 (W := 1) (by decide) (by decide) (by decide) (by decide) (g := (mkF m 10 #[.val (.int p0), .val (.int p1), .val (.int (p1 &&& (127 : Int32))), .unset, .unset] [(.int p0), (.int (f1 p0))])) rfl (by rw [hml]; rfl) (argsL := [(.int p0)]) (rest := [(.int (f1 p0))]) rfl (lenOf pd_0 rfl) rfl (by show 2 * 0 + _ ≤ _; exact Nat.le_of_eq rfl) (hb hby at_10)
  refine Fini.st st2 ?_
  show Fini p e below s _ _ _ T2 (mkF m 13 #[.val (.int p0), .val (.int p1), .val (.int (p1 &&& (127 : Int32))), .unset, .unset] [(.int (f2 p0)), (.int (f1 p0))])
  by_cases c3 : (f1 p0) = (f2 p0)
  · have hv4 := hv0.trans (if_pos c3)
    refine Fini.st (fun _ k => XS.icmpNo X2.here hx rfl (hb hby at_13) rfl (XT.ii_ne_f c3) k) ?_
    show Fini p e below s _ _ _ T2 (mkF m 16 #[.val (.int p0), .val (.int p1), .val (.int (p1 &&& (127 : Int32))), .unset, .unset] [])
    refine Fini.st (fun _ k => XS.iconst X2.here hx rfl (hb hby at_16) k) ?_
    show Fini p e below s _ _ _ T2 (mkF m 17 #[.val (.int p0), .val (.int p1), .val (.int (p1 &&& (127 : Int32))), .unset, .unset] [(.int (1 : Int32))])
    refine Fini.st (fun _ k => XS.goto X2.here hx rfl (pc0 := 17) (pc' := 21) rfl (hb hby at_17) (by decide) (by decide) k) ?_
    show Fini p e below s _ _ _ T2 (mkF m 21 #[.val (.int p0), .val (.int p1), .val (.int (p1 &&& (127 : Int32))), .unset, .unset] [(.int (1 : Int32))])
    exact B21 T2 X2 e2 (1 : Int32) hv4
  · have hv5 := hv0.trans (if_neg c3)
    refine Fini.st (fun _ k => XS.icmpYes X2.here hx rfl (pc0 := 13) (pc' := 20) rfl (hb hby at_13) rfl (XT.ii_ne_t c3) (by decide) (by decide) k) ?_
    show Fini p e below s _ _ _ T2 (mkF m 20 #[.val (.int p0), .val (.int p1), .val (.int (p1 &&& (127 : Int32))), .unset, .unset] [])
    refine Fini.st (fun _ k => XS.iconst X2.here hx rfl (hb hby at_20) k) ?_
    show Fini p e below s _ _ _ T2 (mkF m 21 #[.val (.int p0), .val (.int p1), .val (.int (p1 &&& (127 : Int32))), .unset, .unset] [(.int (0 : Int32))])
    exact B21 T2 X2 e2 (0 : Int32) hv5
theorem own_or32 (x : Int32) : (x.toInt / 32 % 2 = 1 ∧ (x ||| 32).toInt = x.toInt) ∨ (x.toInt / 32 % 2 = 0 ∧ (x ||| 32).toInt = x.toInt + 32) := by
  have h1 : (x ||| 32).toInt = (x.toBitVec ||| 32#32).toInt := rfl
  have h0 : x.toInt = x.toBitVec.toInt := rfl
  rw [h1, h0]
  generalize x.toBitVec = b
  have hn : b.toNat.testBit 5 = decide (b.toNat / 2 ^ 5 % 2 = 1) := Nat.testBit_eq_decide_div_mod_eq
  have hg : b.getLsbD 5 = b.toNat.testBit 5 := rfl
  have hi := BitVec.toInt_eq_toNat_cond b
  have hlt := b.isLt
  have bits : ∀ i : Fin 32, (32#32).getLsbD i.1 = decide (i.1 = 5) := by decide
  by_cases q : b.toNat / 2 ^ 5 % 2 = 1
  · left
    have hb : b.getLsbD 5 = true := by rw [hg, hn]; exact decide_eq_true q
    have e : b ||| 32#32 = b := by
      apply BitVec.eq_of_getLsbD_eq
      intro i hi
      rw [BitVec.getLsbD_or, bits ⟨i, hi⟩]
      by_cases r : i = 5
      · subst r; rw [hb]; rfl
      · simp [r]
    rw [e]
    refine ⟨?_, rfl⟩
    rw [hi]
    split <;> omega
  · right
    have hb : b.getLsbD 5 = false := by rw [hg, hn]; exact decide_eq_false q
    have e : b ||| 32#32 = b + 32#32 := by
      refine (BitVec.add_eq_or_of_and_eq_zero b 32#32 ?_).symm
      apply BitVec.eq_of_getLsbD_eq
      intro i hi
      rw [BitVec.getLsbD_and, bits ⟨i, hi⟩]
      by_cases r : i = 5
      · subst r; rw [hb]; rfl
      · simp [r]
    rw [e]
    have ha : (b + 32#32).toNat = (b.toNat + 32) % 2 ^ 32 := by rw [BitVec.toNat_add]; rfl
    have hi2 := BitVec.toInt_eq_toNat_cond (b + 32#32)
    rw [hi2, hi, ha]
    refine ⟨?_, ?_⟩
    · split <;> omega
    · have : (b.toNat + 32) % 2 ^ 32 = b.toNat + 32 := Nat.mod_eq_of_lt (by omega)
      rw [this]
      split <;> split <;> omega
theorem own_eq (v : Int32) : f1 v = f2 v := by
  have h := own_or32 v
  simp only [f1, f1_12, f2]
  generalize (v ||| 32) = w at *
  have a97 : (97 : Int32).toInt = 97 := rfl
  have a122 : (122 : Int32).toInt = 122 := rfl
  have a65 : (65 : Int32).toInt = 65 := rfl
  have a90 : (90 : Int32).toInt = 90 := rfl
  simp only [Int32.lt_iff_toInt_lt, ← Int32.toInt_inj, a97, a122, a65, a90]
  repeat' split
  all_goals first | rfl | (exfalso; omega)
theorem own_law (i0 i1 : Int32) : f0 i0 i1 = 1 := by
  unfold f0
  rw [if_pos (own_eq i0)]
  unfold f0_21
  rw [if_pos (own_eq _)]
  unfold f0_38
  rw [if_neg (by decide), if_neg (by decide)]

set_option maxRecDepth 65536 in
set_option maxHeartbeats 40000000 in
theorem comes_1 {Post : Tables → Env → Array Value → State → Outcome → State → Prop} (hpost : ∀ tb e args s v u, (limb_1_1.after args s (.returned v) u = true ∧ limb_1_2.after args s (.returned v) u = true ∧ True) → FrameEnd s (.returned v) u (Jvm.fieldLocs frame_1_writes args s ++ Jvm.arrayLocs frame_1_arrays args s ++ Jvm.staticLocs frame_1_statics s) 0 0 → Post tb e args s (.returned v) u) :
    ArmFor flags0 classFile x code maxLocals ret World_1 tables_1 room_1 Calls_1 rest_1 Pre_1 Post := by
  intro l hfl _ _ p e ha hc hk s m args below hf hA hF happ hP
  obtain ⟨hcalls, hrest, hpre⟩ := hP
  obtain ⟨-, -, -, hnamed, -, -, -, hat⟩ := (Spec.applies_iff hf).mp happ
  obtain ⟨hg, hn⟩ := and_e (Cond.before_iff.mp (show (Jvm.Cond.and given_1 narrow_1).before args s = true from hpre))
  obtain ⟨g1, g2⟩ := and_e hg
  obtain ⟨g3, g4⟩ := and_e g2
  obtain ⟨w0, w1, rfl⟩ : ∃ w0 w1 : Value, args = #[w0, w1] := by
    have hs : args.size = 2 := by simpa [Cond.value, given_1] using g1
    obtain ⟨L⟩ := args
    match L, hs with
    | [w0, w1], _ => exact ⟨w0, w1, rfl⟩
  have hw := fun d (hd : d ∈ tables_1) => atoms_spec (ws := Jvm.Cond.code x code maxLocals ret :: tables_1) hat d (List.mem_cons_of_mem _ hd)
  have hfit : Fit s := fun {y c} hc i hi => by
    obtain ⟨ha, rfl⟩ := Array.getElem?_eq_some_iff.mp hc
    have q := List.all_eq_true.mp ((Array.all_eq_true_iff_forall_mem.mp hF) _ (Array.getElem_mem ha)) i (List.mem_range.mpr hi)
    simpa [Array.getElem?_eq_getElem hi] using q
  obtain ⟨i0, ei0⟩ := is_v g3
  obtain rfl : w0 = (.int i0) := Option.some.inj ei0
  obtain ⟨i1, ei1⟩ := is_v g4
  obtain rfl : w1 = (.int i1) := Option.some.inj ei1
  obtain ⟨n, o, h1, h2, h3, v, L, rfl, ⟨rfl, hheap, rfl⟩, hq⟩ := rm0 l s _ hw tables_1 i0 i1 s.heap p e ha hc hk s m _ below hf ((Spec.applies_iff_loose hf).mp happ).1 ⟨rfl, State.Warmed39.refl s, rfl⟩ trivial
  refine ⟨n, _, h1, h2, h3, hpost _ _ _ _ _ _ ⟨Cond.after_iff.mpr rfl, Cond.after_iff.mpr (eq_i res_at (Term.int_eval (1)) (congrArg Value.int (own_law i0 i1))), trivial⟩ ⟨hq.1, hq.2.1, (hq.2.2.sift fun y hy => nomatch hy).mono (by decide) (by decide)⟩⟩
theorem main_1_1 : Claimed_1_1 := comes_1 fun _ _ _ _ _ _ h hF => ⟨h.1, hF⟩
theorem main_1_2 : Claimed_1_2 := comes_1 fun _ _ _ _ _ _ h hF => ⟨h.2.1, hF⟩
end Jvm.Pilot.@@N@@
namespace Jvm.Pilot.@@N@@
open Jvm Jvm.ClassFile Sem Op Lib Jvm.Free Jvm.Stand Jvm.Pilot.@@N@@.Jvm.D
/-! MADE BY PROGRAM (witnessworld.py) out of the Statement's table words and the real class files: 9 classes; the members and pool entries that the words name. The judged class is class 1, her method 2. -/
namespace start1
open Jvm.ClassFile
def u (s : String) : CpInfo := .utf8 (stringToUtf16 s)
/-- a pool by its gaps: so many unusable entries, then the entry; so many at the end -/
def gap : Nat → List CpInfo → List CpInfo
  | 0, r => r
  | n + 1, r => .unusable :: gap n r
def poolList (es : List (Nat × CpInfo)) (last : Nat) : List CpInfo := es.foldr (fun e r => gap e.1 (e.2 :: r)) (gap last [])
def pool (es : List (Nat × CpInfo)) (last : Nat) : Array CpInfo := ⟨poolList es last⟩
def fileOf (pool : Array CpInfo) (this : Nat) (attrs : Array Attribute := #[]) (ms : Array MethodInfo := #[]) (fl : Nat := 33) (sup : Nat := 0) (ifs : Array Nat := #[]) (fds : Array FieldInfo := #[]) : ClassFile where
  minorVersion := 0
  majorVersion := 65
  constantPool := pool
  accessFlags := fl
  thisClass := this
  superClass := sup
  interfaces := ifs
  fields := fds
  methods := ms
  attributes := attrs
def plain (name : String) (sup : Option ClassId) : Class where
  name := name
  kind := .ordinary
  loader := none
  accessFlags := 33
  super := sup
  interfaces := #[]
  cf := none
  fields := #[]
  methods := #[]
  instanceTypes := #[]
  staticTypes := #[]
  resolved := #[]
  callSites := []
  init := .initialized
  statics := none
  mirror := none

def pool0 : Array CpInfo := pool [(5, u "<init>"), (0, u "()V"), (1, .class_ 10), (1, u "java/lang/Object")] 113

def k0m0 : Method := { name := "<init>", desc := "()V", sig := { parameters := [], returnType := none }, accessFlags := 1, code := none }
/-- java/lang/Object -/
def k0 : Class := { plain "java/lang/Object" none with
  accessFlags := 33
  interfaces := #[]
  cf := some (fileOf pool0 8 #[] #[{ accessFlags := 1, nameIndex := 5, descriptorIndex := 6, attributes := #[] }] 33 0 #[] #[])
  fields := #[]
  methods := #[k0m0]
  instanceTypes := #[]
  staticTypes := #[]
  resolved := Array.replicate 124 none
  statics := none }

def pool1 : Array CpInfo := pool [(2, .class_ 4), (1, u "java/lang/Object"), (0, u "<init>"), (0, u "()V"), (0, .methodref 8 9), (0, .class_ 10), (0, .nameAndType 11 12), (0, u "com/example/rights_after_actions/rightsafteractions/io/Lexicon"), (0, u "isNameStart"), (0, u "(I)Z"), (0, .methodref 14 15), (0, .class_ 16), (0, .nameAndType 17 12), (0, u "com/example/rights_after_actions/rightsafteractions/io/LexiconIsNameStartPinLaw"), (0, u "ref"), (3, u "law"), (0, u "(II)Z")] 2

def k1m0 : Method := { name := "<init>", desc := "()V", sig := { parameters := [], returnType := none }, accessFlags := 2, code := none }
def k1c1 : Code := { maxStack := 2, maxLocals := 2, code := method_2_code, exceptionTable := #[], attributes := #[] }
def k1m1 : Method := { name := "ref", desc := "(I)Z", sig := { parameters := [.int], returnType := some .boolean }, accessFlags := 10, code := some k1c1 }
def k1c2 : Code := { maxStack := 2, maxLocals := 5, code := code, exceptionTable := #[], attributes := #[] }
def k1m2 : Method := { name := "law", desc := "(II)Z", sig := { parameters := [.int, .int], returnType := some .boolean }, accessFlags := 9, code := some k1c2 }
/-- com/example/rights_after_actions/rightsafteractions/io/LexiconIsNameStartPinLaw -/
def k1 : Class := { plain "com/example/rights_after_actions/rightsafteractions/io/LexiconIsNameStartPinLaw" (some 0) with
  accessFlags := 49
  interfaces := #[]
  cf := some (fileOf pool1 14 #[] #[{ accessFlags := 2, nameIndex := 5, descriptorIndex := 6, attributes := #[] }, { accessFlags := 10, nameIndex := 17, descriptorIndex := 12, attributes := #[] }, { accessFlags := 9, nameIndex := 21, descriptorIndex := 22, attributes := #[] }] 49 2 #[] #[])
  fields := #[]
  methods := #[k1m0, k1m1, k1m2]
  instanceTypes := #[]
  staticTypes := #[]
  resolved := Array.replicate 25 none
  statics := none }

def pool2 : Array CpInfo := pool [(2, .class_ 4), (1, u "java/lang/Object"), (0, u "<init>"), (0, u "()V"), (1, .class_ 10), (1, u "com/example/rights_after_actions/rightsafteractions/io/Lexicon"), (0, u "isNameStart"), (0, u "(I)Z"), (5, u "ARGUMENT_CHARACTERS"), (0, u "[Z"), (35, u "INFINITY"), (0, u "Ljava/lang/String;"), (1, u "DEPTH"), (2, u "ARGUMENT_PUNCTUATION")] 12

def k2m0 : Method := { name := "<init>", desc := "()V", sig := { parameters := [], returnType := none }, accessFlags := 2, code := none }
def k2c1 : Code := { maxStack := 2, maxLocals := 1, code := prog_63_method_2_code, exceptionTable := #[], attributes := #[] }
def k2m1 : Method := { name := "isNameStart", desc := "(I)Z", sig := { parameters := [.int], returnType := some .boolean }, accessFlags := 9, code := some k2c1 }
/-- com/example/rights_after_actions/rightsafteractions/io/Lexicon -/
def k2 : Class := { plain "com/example/rights_after_actions/rightsafteractions/io/Lexicon" (some 0) with
  accessFlags := 49
  interfaces := #[]
  cf := some (fileOf pool2 8 #[] #[{ accessFlags := 2, nameIndex := 5, descriptorIndex := 6, attributes := #[] }, { accessFlags := 9, nameIndex := 11, descriptorIndex := 12, attributes := #[] }] 49 2 #[] #[{ accessFlags := 25, nameIndex := 55, descriptorIndex := 56, attributes := #[] }, { accessFlags := 25, nameIndex := 58, descriptorIndex := 56, attributes := #[] }, { accessFlags := 26, nameIndex := 61, descriptorIndex := 56, attributes := #[] }, { accessFlags := 26, nameIndex := 18, descriptorIndex := 19, attributes := #[] }])
  fields := #[{ name := "INFINITY", type := (.object "java/lang/String"), accessFlags := 25, slot := 0, constantValue := 0 }, { name := "DEPTH", type := (.object "java/lang/String"), accessFlags := 25, slot := 1, constantValue := 0 }, { name := "ARGUMENT_PUNCTUATION", type := (.object "java/lang/String"), accessFlags := 26, slot := 2, constantValue := 0 }, { name := "ARGUMENT_CHARACTERS", type := (.array .boolean), accessFlags := 26, slot := 3, constantValue := 0 }]
  methods := #[k2m0, k2m1]
  instanceTypes := #[]
  staticTypes := #[(.object "java/lang/String"), (.object "java/lang/String"), (.object "java/lang/String"), (.array .boolean)]
  resolved := Array.replicate 74 none
  statics := none }

def pool3 : Array CpInfo := pool [(1, u "java/lang/Cloneable"), (0, .class_ 1), (0, u "java/lang/Object"), (0, .class_ 3)] 3

/-- java/lang/Cloneable -/
def k3 : Class := { plain "java/lang/Cloneable" (some 0) with
  accessFlags := 1537
  interfaces := #[]
  cf := some (fileOf pool3 2 #[] #[] 1537 4 #[] #[])
  fields := #[]
  methods := #[]
  instanceTypes := #[]
  staticTypes := #[]
  resolved := Array.replicate 8 none
  statics := none }

def pool4 : Array CpInfo := pool [(1, u "java/io/Serializable"), (0, .class_ 1), (0, u "java/lang/Object"), (0, .class_ 3)] 3

/-- java/io/Serializable -/
def k4 : Class := { plain "java/io/Serializable" (some 0) with
  accessFlags := 1537
  interfaces := #[]
  cf := some (fileOf pool4 2 #[] #[] 1537 4 #[] #[])
  fields := #[]
  methods := #[]
  instanceTypes := #[]
  staticTypes := #[]
  resolved := Array.replicate 8 none
  statics := none }

/-- the primitive byte -/
def k5 : Class := { plain "byte" none with kind := .primitive 'B', accessFlags := 0x411 }
/-- [B -/
def k6 : Class := { plain "[B" (some 0) with kind := .array 5 .byte, interfaces := #[3, 4], accessFlags := 1041 }

/-- the primitive int -/
def k7 : Class := { plain "int" none with kind := .primitive 'I', accessFlags := 0x411 }
/-- [I -/
def k8 : Class := { plain "[I" (some 0) with kind := .array 7 .int, interfaces := #[3, 4], accessFlags := 1041 }

def heap : Heap := #[]
def classes : Array Class := #[k0, k1, k2, k3, k4, k5, k6, k7, k8]
def interned : List (Array UInt16 × Addr) := []
def slotsUsed : Nat := 0
def theMethod : MethodId := ⟨1, 2⟩
def args0 : Array Value := #[.int 5, .int 7]
def aboutOver (below : List Frame) : State where
  vm := { classes := classes, interned := interned.toArray }
  heap := heap
  slotsUsed := slotsUsed
  threads := #[{ frames := .invoking theMethod args0 :: below }]
def below0 : List Frame := [.native { method := ⟨0, 0⟩, args := #[] }]
def about1 : State := aboutOver below0
def p0 : Program := .bare "" "" ""
def e0 : Env := launch0.env 0 0 0
theorem w_frames : about1.frames = Frame.invoking theMethod args0 :: below0 := rfl
set_option maxRecDepth 65536 in
theorem w_args : argsFit about1.vm theMethod args0 = true := by decide +kernel
set_option maxRecDepth 65536 in
theorem w_heap : heapFits about1 = true := by decide +kernel
set_option maxRecDepth 65536 in
theorem w_runnable : about1.curStatus? = some .runnable := by decide +kernel
set_option maxRecDepth 65536 in
theorem w_alone : about1.alone = true := by decide +kernel
set_option maxRecDepth 65536 in
theorem w_named : about1.methodNamed? x = some theMethod := by decide +kernel
set_option maxRecDepth 65536 in
theorem w_hears : about1.hears theMethod below0 = true := by decide +kernel
set_option maxRecDepth 65536 in
theorem w_ripe : about1.ripe theMethod args0 below0 = true := by decide +kernel
theorem w_running : about1.status = .running := rfl
set_option maxRecDepth 65536 in
theorem w_room : about1.hasRoom e0.platform room_1 = true :=
  launch0.hasRoom_least _ room_1 (by decide +kernel) (by decide +kernel) (by decide +kernel) (by decide +kernel) (by decide +kernel) (by decide +kernel)
theorem allAtoms_all (ts : List Jvm.Cond) (a : Array Jvm.Value) (st : Jvm.State) : (allAtoms ts).before a st = ts.all (fun c => c.before a st) := by
  induction ts with
  | nil => rfl
  | cons c t ih =>
    show (Jvm.Cond.and c (allAtoms t)).before a st = _
    rw [Jvm.Cond.before_and, ih, List.all_cons]
def words1 : List Jvm.Cond := Jvm.Cond.code x code maxLocals ret :: tables_1
/-- a 'code' word, met by the world's own term for the bytes: nothing is compared byte by byte -/
theorem code_word {y : MethodName} {bytes : ByteArray} {mx : Nat} {rt : Option FieldType} {a : Array Value} {s : State} {m : MethodId} {meth : Method} {c : Code} (h1 : s.methodNamed? y = some m) (h2 : s.vm.method? m = some meth) (h3 : meth.code = some c) (h4 : c.code = bytes)
    (h5 : (c.maxLocals == mx && c.exceptionTable.isEmpty && decide (c.maxStack ≤ mostOperands) && decide (meth.sig.returnType = rt) && !meth.locks && decide (parseMethodDescriptor y.desc = some meth.sig)) = true) : (Jvm.Cond.code y bytes mx rt).before a s = true := by
  simp only [Bool.and_eq_true, beq_iff_eq, Bool.not_eq_true', decide_eq_true_eq] at h5
  obtain ⟨⟨⟨⟨⟨g1, g2⟩, g3⟩, g4⟩, g5⟩, g6⟩ := h5
  simp [Cond.before, Cond.holds, Cond.value, h1, h2, h3, h4, g1, g2, g3, g4, g5, g6]
def isCode : Jvm.Cond → Bool
  | .code _ _ _ _ => true
  | _ => false
theorem all_split {L : List Jvm.Cond} {P : Jvm.Cond → Bool} (h1 : L.all (fun c => isCode c || P c) = true) (h2 : ∀ c ∈ L.filter isCode, P c = true) : L.all P = true := by
  refine List.all_eq_true.mpr fun c hc => ?_
  have h := List.all_eq_true.mp h1 c hc
  rcases Bool.eq_false_or_eq_true (isCode c) with hi | hi
  · exact h2 c (List.mem_filter.mpr ⟨hc, hi⟩)
  · simpa [hi] using h
set_option maxRecDepth 65536 in
theorem w_c0 : (Jvm.Cond.code x code maxLocals ret).before args0 about1 = true := code_word (m := ⟨1, 2⟩) (meth := k1m2) (c := k1c2) (by decide +kernel) rfl rfl rfl (by decide +kernel)
set_option maxRecDepth 65536 in
theorem w_c1 : (Jvm.Cond.code ({ cls := "com/example/rights_after_actions/rightsafteractions/io/Lexicon", name := "isNameStart", desc := "(I)Z" } : Jvm.MethodName) prog_63_method_2_code (1 : Nat) (Option.some Jvm.ClassFile.FieldType.boolean)).before args0 about1 = true := code_word (m := ⟨2, 1⟩) (meth := k2m1) (c := k2c1) (by decide +kernel) rfl rfl rfl (by decide +kernel)
set_option maxRecDepth 65536 in
theorem w_c2 : (Jvm.Cond.code ({ cls := "com/example/rights_after_actions/rightsafteractions/io/LexiconIsNameStartPinLaw", name := "ref", desc := "(I)Z" } : Jvm.MethodName) method_2_code (2 : Nat) (Option.some Jvm.ClassFile.FieldType.boolean)).before args0 about1 = true := code_word (m := ⟨1, 1⟩) (meth := k1m1) (c := k1c1) (by decide +kernel) rfl rfl rfl (by decide +kernel)
def codes1 : List Jvm.Cond := [Jvm.Cond.code x code maxLocals ret, Jvm.Cond.code ({ cls := "com/example/rights_after_actions/rightsafteractions/io/Lexicon", name := "isNameStart", desc := "(I)Z" } : Jvm.MethodName) prog_63_method_2_code (1 : Nat) (Option.some Jvm.ClassFile.FieldType.boolean), Jvm.Cond.code ({ cls := "com/example/rights_after_actions/rightsafteractions/io/LexiconIsNameStartPinLaw", name := "ref", desc := "(I)Z" } : Jvm.MethodName) method_2_code (2 : Nat) (Option.some Jvm.ClassFile.FieldType.boolean)]
set_option maxRecDepth 65536 in
theorem codes_eq : words1.filter isCode = codes1 := rfl
theorem w_codes : ∀ c ∈ words1.filter isCode, c.before args0 about1 = true := by
  rw [codes_eq]
  intro c hc
  simp only [codes1, List.mem_cons, List.not_mem_nil, or_false] at hc
  rcases hc with rfl | rfl | rfl
  · exact w_c0
  · exact w_c1
  · exact w_c2
set_option maxRecDepth 65536 in
theorem w_t1 : words1.all (fun c => isCode c || c.before args0 about1) = true := by decide +kernel
theorem w_tables : (allAtoms (Jvm.Cond.code x code maxLocals ret :: tables_1)).before args0 about1 = true := by
  rw [allAtoms_all]
  show words1.all (fun c => c.before args0 about1) = true
  refine all_split ?_ w_codes
  rw [w_t1]
set_option maxRecDepth 65536 in
theorem w_case : (Jvm.Cond.and given_1 narrow_1).before args0 about1 = true := by decide +kernel
theorem w_applies : (headSpec (Jvm.Cond.code x code maxLocals ret :: tables_1) room_1).applies x e0.platform about1 = true :=
  (Spec.applies_iff w_frames).mpr ⟨w_running, w_runnable, w_alone, w_named, w_hears, w_ripe, w_room, w_tables⟩
theorem atStart : AtStart classFile x code maxLocals ret World_1 tables_1 room_1 Calls_1 rest_1 Pre_1 launch0 p0 e0 about1 theMethod args0 below0 :=
  ⟨lists_1, trivial, launch0.admits_env _ _ _, launch0.least_env, fairChoices_fair.cas, fairChoices_fair.clock, w_frames, w_args, w_heap, w_applies, trivial, trivial, w_case⟩
end start1
theorem witness_1 : WitnessClaimed_1 := ⟨start1.p0, start1.e0, start1.about1, start1.theMethod, start1.args0, start1.below0, start1.atStart⟩
end Jvm.Pilot.@@N@@
