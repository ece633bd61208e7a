import JvmDerived
import JvmDerived.Pilot.@@N@@Statement
import JvmDerived.Pilot.@@N@@Code
set_option linter.unusedVariables false
set_option linter.unusedSimpArgs false
namespace Jvm.Pilot.@@N@@
open Jvm Jvm.ClassFile Sem Op Lib Jvm.Free Jvm.Stand Jvm.LawKit Jvm.RoadKit Bundle Jvm.Pilot.@@N@@.Jvm.D
section OwnKit
variable {p : Program} {l : Launch} {e : Env} {R : Room} {s : State} {m : MethodId} {args : Array Value} {below : List Frame} {meth : Method} {c : Code} {T : State} {locs : List Loc} {cells slots : Nat} {Z : State} {a0 : Array Value} {h : Heap} {ce sl : Nat} {Q : Option Value → Heap → List Loc → Prop} {S : State}
/-- a contract's last word, under a name of its own -/
def OQ (Q : Option Value → Heap → List Loc → Prop) (v : Option Value) (h : Heap) (L : List Loc) : Prop := Q v h L
theorem own_q {z r : Int32} (hr : z = r) (eT : T.heap = h) (hQ : Q (some (.int r)) h locs) : Q (some (.int z)) T.heap locs := by subst hr; rw [eT]; exact hQ
theorem own_qJ {z r : Int64} (hr : z = r) (eT : T.heap = h) (hQ : Q (some (.long r)) h locs) : Q (some (.long z)) T.heap locs := by subst hr; rw [eT]; exact hQ
/-- from S the body runs to its return, and leaves what Q says -/
def OFin (p : Program) (e : Env) (below : List Frame) (s : State) (ce sl : Nat) (Q : Option Value → Heap → List Loc → Prop) (S : State) : Prop :=
  ∃ (t : State) (o : Outcome), Steps p.tables e below S t ∧ t.status = .running ∧ Ended t below o ∧ ∃ v L, o = .returned v ∧ Q v t.heap L ∧ FrameEnd s o t L ce sl
theorem OFin.start {S' : State} (st : ∀ target, Steps p.tables e below S' target → Steps p.tables e below S target) (k : OFin p e below s ce sl Q S') :
    ∃ (t : State) (o : Outcome), Steps p.tables e below S t ∧ t.status = .running ∧ Ended t below o ∧ ∃ v L, o = .returned v ∧ Q v t.heap L ∧ FrameEnd s o t L ce sl := by
  obtain ⟨t, o, h, r⟩ := k
  exact ⟨t, o, st _ h, r⟩
theorem OFin.to (S' : State) (st : ∀ target, Steps p.tables e below S' target → Steps p.tables e below S target) (k : OFin p e below s ce sl Q S') : OFin p e below s ce sl Q S := OFin.start st k
theorem OFin.via (S' : State) (st : Steps p.tables e below S S') (k : OFin p e below s ce sl Q S') : OFin p e below s ce sl Q S := OFin.start (fun _ h => st.trans h) k
theorem OFin.mono {Q' : Option Value → Heap → List Loc → Prop} (k : OFin p e below s ce sl Q' S) (h : ∀ v h L, Q' v h L → Q v h L) : OFin p e below s ce sl Q S := by
  obtain ⟨t, o, h1, h2, h3, v, L, h4, h5, h6⟩ := k
  exact ⟨t, o, h1, h2, h3, v, L, h4, h _ _ _ h5, h6⟩
theorem OFin.retZ (X : Stand p l e R s m args below meth c T locs cells slots) (hx : p.tables.exec = Jvm.exec) {t : FieldType} (hret : meth.sig.returnType = some t) (ht : t = .boolean ∨ t = .byte ∨ t = .char ∨ t = .short) (hlk : meth.locks = false) {pc : Nat} {Ls : Array Slot} {z : Int32} {rest : List Value}
    (hd : decode c.code pc = .ok (.ireturn, 1)) (hc : cells ≤ ce) (hs : slots ≤ sl) (hQ : Q (some (.int (nar t z))) T.heap locs) : OFin p e below s ce sl Q (T.setTop (mkF m pc Ls (.int z :: rest))) := by
  obtain ⟨fs, hr, hrun, hended, hW, hsame⟩ := X.leave (v := some (.int (nar t z))) (fun h => by rw [hret] at h; cases h) hlk
  exact ⟨_, _, retN X hx hret ht hd hr, hrun, hended, _, _, rfl, hQ, ⟨_, rfl⟩, hW, hsame.mono hc hs⟩
theorem OFin.retI (X : Stand p l e R s m args below meth c T locs cells slots) (hx : p.tables.exec = Jvm.exec) (hret : meth.sig.returnType = some .int) (hlk : meth.locks = false) {pc : Nat} {Ls : Array Slot} {z : Int32} {rest : List Value}
    (hd : decode c.code pc = .ok (.ireturn, 1)) (hc : cells ≤ ce) (hs : slots ≤ sl) (hQ : Q (some (.int z)) T.heap locs) : OFin p e below s ce sl Q (T.setTop (mkF m pc Ls (.int z :: rest))) := by
  obtain ⟨fs, hr, hrun, hended, hW, hsame⟩ := X.leave (v := some (.int z)) (fun h => by rw [hret] at h; cases h) hlk
  refine ⟨_, _, ?_, hrun, hended, _, _, rfl, hQ, ⟨_, rfl⟩, hW, hsame.mono hc hs⟩
  have hm' : T.vm.method? m = some meth := X.method'
  have hn : narrow .int (.int z) = .int z := rfl
  show Steps p.tables e below (T.setTop { method := m, pc := pc, locals := Ls, stack := _ :: rest, locked := none }) _
  jvm_step X.here [X.here.top, hx, hd, hm', hret, hn]
  first | (intro acts; rw [hr _ acts rfl rfl rfl]) | rw [hr _ _ rfl rfl rfl]
  exact Steps.refl _
theorem OFin.retJ (X : Stand p l e R s m args below meth c T locs cells slots) (hx : p.tables.exec = Jvm.exec) (hret : meth.sig.returnType = some .long) (hlk : meth.locks = false) {pc : Nat} {Ls : Array Slot} {z : Int64} {rest : List Value}
    (hd : decode c.code pc = .ok (.lreturn, 1)) (hc : cells ≤ ce) (hs : slots ≤ sl) (hQ : Q (some (.long z)) T.heap locs) : OFin p e below s ce sl Q (T.setTop (mkF m pc Ls (.long z :: rest))) := by
  obtain ⟨fs, hr, hrun, hended, hW, hsame⟩ := X.leave (v := some (.long z)) (fun h => by rw [hret] at h; cases h) hlk
  refine ⟨_, _, ?_, hrun, hended, _, _, rfl, hQ, ⟨_, rfl⟩, hW, hsame.mono hc hs⟩
  have hm' : T.vm.method? m = some meth := X.method'
  show Steps p.tables e below (T.setTop { method := m, pc := pc, locals := Ls, stack := _ :: rest, locked := none }) _
  jvm_step X.here [X.here.top, hx, hd, hm', hret, narrow]
  first | (intro acts; rw [hr _ acts rfl rfl rfl]) | rw [hr _ _ rfl rfl rfl]
  exact Steps.refl _
theorem OFin.retV (X : Stand p l e R s m args below meth c T locs cells slots) (hx : p.tables.exec = Jvm.exec) (hret : meth.sig.returnType = none) (hlk : meth.locks = false) {pc : Nat} {Ls : Array Slot}
    (hd : decode c.code pc = .ok (.return_, 1)) (hc : cells ≤ ce) (hs : slots ≤ sl) (hQ : Q none T.heap locs) : OFin p e below s ce sl Q (T.setTop (mkF m pc Ls [])) := by
  obtain ⟨fs, hr, hrun, hended, hW, hsame⟩ := X.leave (v := none) (fun _ => rfl) hlk
  exact ⟨_, _, X.returnOut hx hret hd hr, hrun, hended, _, _, rfl, hQ, ⟨_, rfl⟩, hW, hsame.mono hc hs⟩
/-- a static call by the callee's contract -/
theorem own_callS {y : MethodName} {bytes : ByteArray} {maxL : Nat} {ret : Option FieldType} {rm : Room} {as' : List Value} {QQ : Option Value → Heap → List Loc → Prop} {own : String} {index : Nat}
    (X : Stand p l e R s m args below meth c T locs cells slots) (hx : p.tables.exec = Jvm.exec) (hZ : Z.Warmed39 s.vm) (hown : s.vm.findClass own = some m.cls)
    (w1 : (Cond.methodLink own index y).before a0 Z = true) (w2 : (Cond.static y).before a0 Z = true) (w3 : (Cond.initialized y.cls).before a0 Z = true) (w4 : (Cond.code y bytes maxL ret).before a0 Z = true) (hy : y.cls ≠ "java/lang/invoke/MethodHandle" ∧ y.cls ≠ "java/lang/invoke/VarHandle") (eT : T.heap = h)
    (hM : MetFree l y (head1 [Cond.code y bytes maxL ret] rm) (fun a U => a = as'.toArray ∧ Z.Warmed39 U.vm ∧ U.heap = h) (fun _ _ _ _ _ => True) (fun _ U o U' => ∃ v L, o = .returned v ∧ OQ QQ v U'.heap L ∧ FrameEnd U o U' L rm.cells rm.slots))
    (W : Nat) (hf : rm.frames + 1 ≤ R.frames) (hl : W + (maxL + 11) + rm.locals ≤ R.locals) (hc : cells + rm.cells ≤ R.cells) (hs : slots + rm.slots ≤ R.slots)
    {g : JFrame} (hg : g.method = m) (hsize : g.locals.size = c.maxLocals) {rest : List Value} (hlen : ∀ sig, parseMethodDescriptor y.desc = some sig → as'.length = sig.parameters.length) (hstack : g.stack = as'.reverse ++ rest) (hW : 2 * g.monitorRoom + (rest.map fun v => v.category).sum ≤ W) (hd : decode c.code g.pc = .ok (.invokestatic index, 3)) :
    ∃ v T' L, QQ v T'.heap L ∧ Stand p l e R s m args below meth c T' (locs ++ L) (cells + rm.cells) (slots + rm.slots) ∧ ∀ target, Steps p.tables e below (T'.setTop { g with pc := g.pc + 3, stack := v.toList ++ rest }) target → Steps p.tables e below (T.setTop g) target := by
  obtain ⟨v, _, ⟨T', L1, k1, n1⟩, -, X', ⟨L, hQ, l1, y1, z1⟩, st⟩ := Jvm.LawKit.callS X hx (y := y) hown (mvT hZ w1) (mvT hZ w2) (mvT hZ w3) (mvT hZ w4) hy (backOf (W := W) (Q := OQ QQ) hM hZ w4 w3 hf hl) (g := g) hg hsize (argsL := as') (rest := rest) hlen hstack hW hd (fun _ _ => ⟨rfl, eT, hc, hs⟩)
  dsimp only [Pt.U, Pt.locs, Pt.cells, Pt.slots] at X' l1 y1 z1 st hQ
  subst l1 y1 z1
  exact ⟨v, T', L, hQ, X', st⟩
/-- a static call of a body that writes and makes nothing -/
theorem own_callSP {y : MethodName} {bytes : ByteArray} {maxL : Nat} {ret : Option FieldType} {rm : Room} {as' : List Value} {v : Value} {own : String} {index : Nat}
    (X : Stand p l e R s m args below meth c T locs cells slots) (hx : p.tables.exec = Jvm.exec) (hZ : Z.Warmed39 s.vm) (hown : s.vm.findClass own = some m.cls)
    (w1 : (Cond.methodLink own index y).before a0 Z = true) (w2 : (Cond.static y).before a0 Z = true) (w3 : (Cond.initialized y.cls).before a0 Z = true) (w4 : (Cond.code y bytes maxL ret).before a0 Z = true) (hy : y.cls ≠ "java/lang/invoke/MethodHandle" ∧ y.cls ≠ "java/lang/invoke/VarHandle") (eT : T.heap = h)
    (hM : MetFree l y (head1 [Cond.code y bytes maxL ret] rm) (fun a U => a = as'.toArray ∧ Z.Warmed39 U.vm ∧ U.heap = h) (fun _ _ _ _ _ => True) (fun _ U o U' => ∃ v' L, o = .returned v' ∧ OQ (fun v' h' L => v' = some v ∧ h' = h ∧ L = []) v' U'.heap L ∧ FrameEnd U o U' L rm.cells rm.slots))
    (hrc : rm.cells = 0) (hrs : rm.slots = 0) (W : Nat) (hf : rm.frames + 1 ≤ R.frames) (hl : W + (maxL + 11) + rm.locals ≤ R.locals) (hc : cells ≤ R.cells) (hs : slots ≤ R.slots)
    {g : JFrame} (hg : g.method = m) (hsize : g.locals.size = c.maxLocals) {rest : List Value} (hlen : ∀ sig, parseMethodDescriptor y.desc = some sig → as'.length = sig.parameters.length) (hstack : g.stack = as'.reverse ++ rest) (hW : 2 * g.monitorRoom + (rest.map fun v => v.category).sum ≤ W) (hd : decode c.code g.pc = .ok (.invokestatic index, 3)) :
    ∃ T', Stand p l e R s m args below meth c T' locs cells slots ∧ T'.heap = h ∧ ∀ target, Steps p.tables e below (T'.setTop { g with pc := g.pc + 3, stack := v :: rest }) target → Steps p.tables e below (T.setTop g) target := by
  obtain ⟨v', T', L, ⟨rfl, hh, rfl⟩, X', st⟩ := own_callS X hx hZ hown w1 w2 w3 w4 hy eT hM W hf hl (by rw [hrc]; exact hc) (by rw [hrs]; exact hs) hg hsize hlen hstack hW hd
  rw [hrc, hrs, List.append_nil] at X'
  exact ⟨T', X', hh, st⟩
theorem OFin.retA (X : Stand p l e R s m args below meth c T locs cells slots) (hx : p.tables.exec = Jvm.exec) {t : FieldType} (hret : meth.sig.returnType = some t) (ht : t.isReference = true) (hlk : meth.locks = false) {pc : Nat} {Ls : Array Slot} {a : Addr} {rest : List Value}
    (hd : decode c.code pc = .ok (.areturn, 1)) (hc : cells ≤ ce) (hs : slots ≤ sl) (hQ : Q (some (.ref a)) T.heap locs) : OFin p e below s ce sl Q (T.setTop (mkF m pc Ls (.ref a :: rest))) := by
  obtain ⟨fs, hr, hrun, hended, hW, hsame⟩ := X.leave (v := some (.ref a)) (fun h => by rw [hret] at h; cases h) hlk
  refine ⟨_, _, ?_, hrun, hended, _, _, rfl, hQ, ⟨_, rfl⟩, hW, hsame.mono hc hs⟩
  have hm' : T.vm.method? m = some meth := X.method'
  show Steps p.tables e below (T.setTop { method := m, pc := pc, locals := Ls, stack := _ :: rest, locked := none }) _
  jvm_step X.here [X.here.top, hx, hd, hm', hret, ht, Value.isRef]
  first | (intro acts; rw [hr _ acts rfl rfl rfl]) | rw [hr _ _ rfl rfl rfl]
  exact Steps.refl _
theorem own_nar0 : nar .boolean (0 : Int32) = 0 := by decide
theorem own_nar1 : nar .boolean (1 : Int32) = 1 := by decide
end OwnKit
section OwnCalls
variable {p : Program} {l : Launch} {e : Env} {R : Room} {s : State} {m : MethodId} {args : Array Value} {below : List Frame} {meth : Method} {c : Code} {T : State} {locs : List Loc} {cells slots : Nat} {Z : State} {a0 : Array Value} {h : Heap} {b : Addr} {y y' : MethodName} {bytes : ByteArray} {maxL : Nat} {ret : Option FieldType} {rm : Room} {as' : List Value} {QQ : Option Value → Heap → List Loc → Prop} {own C : String} {index : Nat}
/-- an instance method of the object's own class by its contract -/
theorem own_callV (X : Stand p l e R s m args below meth c T locs cells slots) (hx : p.tables.exec = Jvm.exec) (hZ : Z.Warmed39 s.vm) (hown : s.vm.findClass own = some m.cls)
    (w1 : (Cond.methodLink own index y).before a0 Z = true) (w2 : (Cond.declares y).before a0 Z = true) (w3 : (Cond.selects C y y).before a0 Z = true) (w4 : (Cond.instanceMethod y).before a0 Z = true) (w5 : (Cond.code y bytes maxL ret).before a0 Z = true) (w6 : (Cond.initialized y.cls).before a0 Z = true) (hy : y.cls ≠ "java/lang/invoke/MethodHandle" ∧ y.cls ≠ "java/lang/invoke/VarHandle") (eT : T.heap = h) (E : Exa Z h b C)
    (hM : MetFree l y (head1 [Cond.code y bytes maxL ret] rm) (fun a U => a = (.ref b :: as').toArray ∧ Z.Warmed39 U.vm ∧ U.heap = h) (fun _ _ _ _ _ => True) (fun _ U o U' => ∃ v L, o = .returned v ∧ OQ QQ v U'.heap L ∧ FrameEnd U o U' L rm.cells rm.slots))
    (W : Nat) (hf : rm.frames + 1 ≤ R.frames) (hl : W + (maxL + 11) + rm.locals ≤ R.locals) (hc : cells + rm.cells ≤ R.cells) (hs : slots + rm.slots ≤ R.slots)
    {g : JFrame} (hg : g.method = m) (hsize : g.locals.size = c.maxLocals) {rest : List Value} (hlen : ∀ sig, parseMethodDescriptor y.desc = some sig → as'.length = sig.parameters.length) (hstack : g.stack = as'.reverse ++ .ref b :: rest) (hW : 2 * g.monitorRoom + (rest.map fun v => v.category).sum ≤ W) (hd : decode c.code g.pc = .ok (.invokevirtual index, 3)) :
    ∃ v T' L, QQ v T'.heap L ∧ Stand p l e R s m args below meth c T' (locs ++ L) (cells + rm.cells) (slots + rm.slots) ∧ ∀ target, Steps p.tables e below (T'.setTop { g with pc := g.pc + 3, stack := v.toList ++ rest }) target → Steps p.tables e below (T.setTop g) target := by
  obtain ⟨cq, kq, qa, qb, qc⟩ := isOf hZ eT E
  obtain ⟨v, _, ⟨T', L1, k1, n1⟩, -, X', ⟨L, hQ, l1, y1, z1⟩, st⟩ := X.virtualBack hx (y := y) (z := y) hown (mvT hZ w1) (mvT hZ w2) (notFace_of_selects (args := #[]) (mvT hZ w3)) (mvT hZ w3) (mvT hZ w4) hy (backOf (W := W) (Q := OQ QQ) hM hZ w5 w6 hf hl) qa qc (g := g) hg hsize (Steps.refl _) (argsL := as') (rest := rest) hlen hstack hW hd (fun _ _ => ⟨rfl, eT, hc, hs⟩)
  dsimp only [Pt.U, Pt.locs, Pt.cells, Pt.slots] at X' l1 y1 z1 st hQ
  subst l1 y1 z1
  exact ⟨v, T', L, hQ, X', fun _ k => st.trans k⟩
/-- a constructor by its contract -/
theorem own_callN (X : Stand p l e R s m args below meth c T locs cells slots) (hx : p.tables.exec = Jvm.exec) (hZ : Z.Warmed39 s.vm) (hown : s.vm.findClass own = some m.cls) (hy1 : y.name = "<init>")
    (w1 : (Cond.methodLink own index y).before a0 Z = true) (w4 : (Cond.instanceMethod y).before a0 Z = true) (w5 : (Cond.code y bytes maxL none).before a0 Z = true) (w6 : (Cond.initialized y.cls).before a0 Z = true) (hy : y.cls ≠ "java/lang/invoke/MethodHandle" ∧ y.cls ≠ "java/lang/invoke/VarHandle") (eT : T.heap = h)
    (hM : MetFree l y (head1 [Cond.code y bytes maxL none] rm) (fun a U => a = (.ref b :: as').toArray ∧ Z.Warmed39 U.vm ∧ U.heap = h) (fun _ _ _ _ _ => True) (fun _ U o U' => ∃ v L, o = .returned v ∧ OQ QQ v U'.heap L ∧ FrameEnd U o U' L rm.cells rm.slots))
    (W : Nat) (hf : rm.frames + 1 ≤ R.frames) (hl : W + (maxL + 11) + rm.locals ≤ R.locals) (hc : cells + rm.cells ≤ R.cells) (hs : slots + rm.slots ≤ R.slots)
    {g : JFrame} (hg : g.method = m) (hsize : g.locals.size = c.maxLocals) {rest : List Value} (hlen : ∀ sig, parseMethodDescriptor y.desc = some sig → as'.length = sig.parameters.length) (hstack : g.stack = as'.reverse ++ .ref b :: rest) (hW : 2 * g.monitorRoom + (rest.map fun v => v.category).sum ≤ W) (hd : decode c.code g.pc = .ok (.invokespecial index, 3)) :
    ∃ v T' L, QQ v T'.heap L ∧ Stand p l e R s m args below meth c T' (locs ++ L) (cells + rm.cells) (slots + rm.slots) ∧ ∀ target, Steps p.tables e below (T'.setTop { g with pc := g.pc + 3, stack := v.toList ++ rest }) target → Steps p.tables e below (T.setTop g) target := by
  obtain ⟨v, _, ⟨T', L1, k1, n1⟩, -, X', ⟨L, hQ, l1, y1, z1⟩, st⟩ := X.specialBack hx (y := y) hy1 hown (mvT hZ w1) (mvT hZ w4) (mvT hZ w5) hy (backOf (W := W) (Q := OQ QQ) hM hZ w5 w6 hf hl) (g := g) hg hsize (Steps.refl _) (a := b) (argsL := as') (rest := rest) hlen hstack hW hd (fun _ _ => ⟨rfl, eT, hc, hs⟩)
  dsimp only [Pt.U, Pt.locs, Pt.cells, Pt.slots] at X' l1 y1 z1 st hQ
  subst l1 y1 z1
  exact ⟨v, T', L, hQ, X', fun _ k => st.trans k⟩
/-- a private method is what its own class selects (by another method's word the class is no interface) -/
theorem own_selP (hZ : Z.Warmed39 s.vm) (w3 : (Cond.selects C y' y').before a0 Z = true) (hc : y'.cls = y.cls) (wp : (Cond.privateMethod y).before a0 Z = true) (wi : (Cond.instanceMethod y).before a0 Z = true) (hy : y.cls ≠ "java/lang/invoke/MethodHandle" ∧ y.cls ≠ "java/lang/invoke/VarHandle") : (Cond.selects y.cls y y).before args s = true := by
  have ws : (Cond.selects C y' y').before args s = true := mvT hZ w3
  obtain ⟨c2, r2, m2, -, -, q3, -, kP, hkP, hkPi⟩ := Cond.selects_spec ws
  exact selects_self_of_private (c := m2.cls) (k := kP) (by rw [← hc]; exact findClass_of_methodNamed q3) hkP hkPi (Cond.privateMethod_at (mvP hZ wp (args := #[]))) (mvT hZ wi) hy
/-- a private method by its contract -/
theorem own_callP (X : Stand p l e R s m args below meth c T locs cells slots) (hx : p.tables.exec = Jvm.exec) (hZ : Z.Warmed39 s.vm) (hown : s.vm.findClass own = some m.cls)
    (w1 : (Cond.methodLink own index y).before a0 Z = true) (hsel : (Cond.selects y.cls y y).before args s = true) (wp : (Cond.privateMethod y).before a0 Z = true) (w4 : (Cond.instanceMethod y).before a0 Z = true) (w5 : (Cond.code y bytes maxL ret).before a0 Z = true) (w6 : (Cond.initialized y.cls).before a0 Z = true) (hy : y.cls ≠ "java/lang/invoke/MethodHandle" ∧ y.cls ≠ "java/lang/invoke/VarHandle") (eT : T.heap = h) (E : Exa Z h b C)
    (hM : MetFree l y (head1 [Cond.code y bytes maxL ret] rm) (fun a U => a = (.ref b :: as').toArray ∧ Z.Warmed39 U.vm ∧ U.heap = h) (fun _ _ _ _ _ => True) (fun _ U o U' => ∃ v L, o = .returned v ∧ OQ QQ v U'.heap L ∧ FrameEnd U o U' L rm.cells rm.slots))
    (W : Nat) (hf : rm.frames + 1 ≤ R.frames) (hl : W + (maxL + 11) + rm.locals ≤ R.locals) (hc : cells + rm.cells ≤ R.cells) (hs : slots + rm.slots ≤ R.slots)
    {g : JFrame} (hg : g.method = m) (hsize : g.locals.size = c.maxLocals) {rest : List Value} (hlen : ∀ sig, parseMethodDescriptor y.desc = some sig → as'.length = sig.parameters.length) (hstack : g.stack = as'.reverse ++ .ref b :: rest) (hW : 2 * g.monitorRoom + (rest.map fun v => v.category).sum ≤ W) (hd : decode c.code g.pc = .ok (.invokevirtual index, 3)) :
    ∃ v T' L, QQ v T'.heap L ∧ Stand p l e R s m args below meth c T' (locs ++ L) (cells + rm.cells) (slots + rm.slots) ∧ ∀ target, Steps p.tables e below (T'.setTop { g with pc := g.pc + 3, stack := v.toList ++ rest }) target → Steps p.tables e below (T.setTop g) target := by
  obtain ⟨cq, q1, q2⟩ := E.cell
  obtain ⟨v, _, ⟨T', L1, k1, n1⟩, -, X', ⟨L, hQ, l1, y1, z1⟩, st⟩ := X.privateBack hx (y := y) hown (mvT hZ w1) (mvT hZ w4) hsel (Cond.privateMethod_at (mvP hZ wp (args := #[]))) (mvT hZ w5) hy (backOf (W := W) (Q := OQ QQ) hM hZ w5 w6 hf hl) (g := g) hg hsize (Steps.refl _) (a := b) (by rw [eT]; exact q1) q2 (argsL := as') (rest := rest) hlen hstack hW hd (fun _ _ => ⟨rfl, eT, hc, hs⟩)
  dsimp only [Pt.U, Pt.locs, Pt.cells, Pt.slots] at X' l1 y1 z1 st hQ
  subst l1 y1 z1
  exact ⟨v, T', L, hQ, X', fun _ k => st.trans k⟩
end OwnCalls
theorem pd_0 : parseMethodDescriptor "(Lcom/example/stylesheet_engine/stylesheetengine/model/AtomicType;)Z" = some ⟨[(.object "com/example/stylesheet_engine/stylesheetengine/model/AtomicType")], some .boolean⟩ := by decide +kernel
theorem pd_1 : parseMethodDescriptor "(I)Lcom/example/stylesheet_engine/stylesheetengine/model/AtomicType;" = some ⟨[.int], some (.object "com/example/stylesheet_engine/stylesheetengine/model/AtomicType")⟩ := by decide +kernel
theorem pd_2 : parseMethodDescriptor "(II)Z" = some ⟨[.int, .int], some .boolean⟩ := by decide +kernel
def own_name : Nat → String
  | 0 => "ANY_ATOMIC"
  | 1 => "NUMERIC"
  | 2 => "UNTYPED_ATOMIC"
  | 3 => "STRING"
  | 4 => "ANY_URI"
  | 5 => "BOOLEAN"
  | 6 => "DECIMAL"
  | 7 => "INTEGER"
  | 8 => "FLOAT"
  | 9 => "DOUBLE"
  | 10 => "TIME"
  | _ => ""
def own_par : Nat → Option Nat
  | 0 => none
  | 1 => some 0
  | 2 => some 0
  | 3 => some 0
  | 4 => some 0
  | 5 => some 0
  | 6 => some 0
  | 7 => some 6
  | 8 => some 0
  | 9 => some 0
  | 10 => some 0
  | _ => none
def own_bv (O : Nat → Addr) (k : Nat) : Value := match own_par k with
  | none => .null
  | some q => .ref (O q)
def OObj (Z : State) (h : Heap) (O : Nat → Addr) : Prop := (∀ k, k < 11 → Sta Z h "com/example/stylesheet_engine/stylesheetengine/model/AtomicType" (own_name k) "Lcom/example/stylesheet_engine/stylesheetengine/model/AtomicType;" (.ref (O k))) ∧ (∀ k, k < 11 → Exa Z h (O k) "com/example/stylesheet_engine/stylesheetengine/model/AtomicType") ∧ (∀ k, k < 11 → Fld Z h (O k) "com/example/stylesheet_engine/stylesheetengine/model/AtomicType" "base" "Lcom/example/stylesheet_engine/stylesheetengine/model/AtomicType;" (own_bv O k)) ∧ (∀ i j, i < 11 → j < 11 → O i = O j → i = j)
/-- is k of the sort j (by its bases) -/
def own_up : Nat → Nat → Nat → Int32
  | 0, _, _ => 0
  | n + 1, k, j => if k = j then 1 else match own_par k with
    | none => 0
    | some q => own_up n q j
theorem own_eq (k j : Nat) (hk : k < 100) (hj : j < 100) (h : Int32.ofNat k = Int32.ofNat j) : k = j := by
  have h1 := congrArg Int32.toInt h
  rw [Int32.toInt_ofNat_small (by omega), Int32.toInt_ofNat_small (by omega)] at h1
  omega
theorem own_parF : ∀ k : Fin 11, ∀ q, own_par k.1 = some q → q < k.1 := by
  intro k q h
  have h2 : ∀ k : Fin 11, (own_par k.1).all (fun q => decide (q < k.1)) = true := by decide +kernel
  have h3 := h2 k
  rw [h] at h3
  simpa using h3
theorem own_parlt (k q : Nat) (hk : k < 11) (h : own_par k = some q) : q < k ∧ q < 11 := by
  have h1 := own_parF ⟨k, hk⟩ q h
  exact ⟨h1, Nat.lt_trans h1 hk⟩
theorem OObj.ext {Z : State} {h h' : Heap} {O : Nat → Addr} (H : OObj Z h O) (E : Ext h h') : OObj Z h' O := ⟨fun k hk => (H.1 k hk).ext E, fun k hk => (H.2.1 k hk).ext E, fun k hk => (H.2.2.1 k hk).ext E, H.2.2.2⟩
theorem OObj.wr {Z : State} {h h' : Heap} {O : Nat → Addr} {a : Addr} {i : Nat} {v : Value} (H : OObj Z h O) (W : Wr h h' a i v) (hne : ∀ k, k < 11 → O k ≠ a) : OObj Z h' O := ⟨fun k hk => (H.1 k hk).wr W, fun k hk => (H.2.1 k hk).wr W, fun k hk => (H.2.2.1 k hk).other W (Or.inl (hne k hk)), H.2.2.2⟩
section OwnWords
variable {args : Array Value} {Z : State} {t u : Term} {C n d : String} {a b : Addr} {z : Int32}
theorem own_fldV (v : Value) (ev : t.eval args Z none [] Z = some (.ref a)) (h : (Term.field t C n d).eval args Z none [] Z = some v) : Fld Z Z.heap a C n d v := Fld.start (by rw [← fld_at ev]; exact h)
theorem own_fldI (ev : t.eval args Z none [] Z = some (.ref a)) (h : (Cond.eq (.field t C n d) (.int z)).value args Z none Z [] = some true) : Fld Z Z.heap a C n d (.int z) := by
  obtain ⟨x, y, h1, h2, h3, h4⟩ := cmp_v (Or.inl h)
  obtain rfl : y = .int z := (Option.some.inj h2).symm
  obtain ⟨w, rfl⟩ := h4
  have h5 : w = z := by simpa [Cond.value, h1, h2] using h
  subst h5
  exact own_fldV _ ev h1
theorem own_fldN (ev : t.eval args Z none [] Z = some (.ref a)) (h : (Cond.eq (.field t C n d) .null).value args Z none Z [] = some true) : Fld Z Z.heap a C n d .null := own_fldV _ ev (null_v h)
theorem own_fldR (ev : t.eval args Z none [] Z = some (.ref a)) (eu : u.eval args Z none [] Z = some (.ref b)) (h : (Cond.eq (.field t C n d) u).value args Z none Z [] = some true) : Fld Z Z.heap a C n d (.ref b) := by
  obtain ⟨x, y, h1, h2, h3, h4⟩ := cmp_v (Or.inl h)
  obtain rfl : y = .ref b := Option.some.inj (h2.symm.trans eu)
  obtain ⟨h4, h5⟩ := h4
  rcases ref_cases h5 with rfl | ⟨w, rfl⟩
  · simp [Cond.value, h1, h2] at h
  · have h6 : w = b := by simpa [Cond.value, h1, h2] using h
    subst h6
    exact own_fldV _ ev h1
end OwnWords
theorem d1_0 : decode method_2_code 0 = .ok (.iload_n 0, 1) := by decide +kernel
theorem d1_1 : decode method_2_code 1 = .ok (.ifCond .ne 7, 3) := by decide +kernel
theorem d1_4 : decode method_2_code 4 = .ok (.getstatic 7, 3) := by decide +kernel
theorem d1_7 : decode method_2_code 7 = .ok (.areturn, 1) := by decide +kernel
theorem d1_8 : decode method_2_code 8 = .ok (.iload_n 0, 1) := by decide +kernel
theorem d1_9 : decode method_2_code 9 = .ok (.iconst 1, 1) := by decide +kernel
theorem d1_10 : decode method_2_code 10 = .ok (.if_icmp .ne 7, 3) := by decide +kernel
theorem d1_13 : decode method_2_code 13 = .ok (.getstatic 13, 3) := by decide +kernel
theorem d1_16 : decode method_2_code 16 = .ok (.areturn, 1) := by decide +kernel
theorem d1_17 : decode method_2_code 17 = .ok (.iload_n 0, 1) := by decide +kernel
theorem d1_18 : decode method_2_code 18 = .ok (.iconst 2, 1) := by decide +kernel
theorem d1_19 : decode method_2_code 19 = .ok (.if_icmp .ne 7, 3) := by decide +kernel
theorem d1_22 : decode method_2_code 22 = .ok (.getstatic 16, 3) := by decide +kernel
theorem d1_25 : decode method_2_code 25 = .ok (.areturn, 1) := by decide +kernel
theorem d1_26 : decode method_2_code 26 = .ok (.iload_n 0, 1) := by decide +kernel
theorem d1_27 : decode method_2_code 27 = .ok (.iconst 3, 1) := by decide +kernel
theorem d1_28 : decode method_2_code 28 = .ok (.if_icmp .ne 7, 3) := by decide +kernel
theorem d1_31 : decode method_2_code 31 = .ok (.getstatic 19, 3) := by decide +kernel
theorem d1_34 : decode method_2_code 34 = .ok (.areturn, 1) := by decide +kernel
theorem d1_35 : decode method_2_code 35 = .ok (.iload_n 0, 1) := by decide +kernel
theorem d1_36 : decode method_2_code 36 = .ok (.iconst 4, 1) := by decide +kernel
theorem d1_37 : decode method_2_code 37 = .ok (.if_icmp .ne 7, 3) := by decide +kernel
theorem d1_40 : decode method_2_code 40 = .ok (.getstatic 22, 3) := by decide +kernel
theorem d1_43 : decode method_2_code 43 = .ok (.areturn, 1) := by decide +kernel
theorem d1_44 : decode method_2_code 44 = .ok (.iload_n 0, 1) := by decide +kernel
theorem d1_45 : decode method_2_code 45 = .ok (.iconst 5, 1) := by decide +kernel
theorem d1_46 : decode method_2_code 46 = .ok (.if_icmp .ne 7, 3) := by decide +kernel
theorem d1_49 : decode method_2_code 49 = .ok (.getstatic 25, 3) := by decide +kernel
theorem d1_52 : decode method_2_code 52 = .ok (.areturn, 1) := by decide +kernel
theorem d1_53 : decode method_2_code 53 = .ok (.iload_n 0, 1) := by decide +kernel
theorem d1_54 : decode method_2_code 54 = .ok (.bipush 6, 2) := by decide +kernel
theorem d1_56 : decode method_2_code 56 = .ok (.if_icmp .ne 7, 3) := by decide +kernel
theorem d1_59 : decode method_2_code 59 = .ok (.getstatic 28, 3) := by decide +kernel
theorem d1_62 : decode method_2_code 62 = .ok (.areturn, 1) := by decide +kernel
theorem d1_63 : decode method_2_code 63 = .ok (.iload_n 0, 1) := by decide +kernel
theorem d1_64 : decode method_2_code 64 = .ok (.bipush 7, 2) := by decide +kernel
theorem d1_66 : decode method_2_code 66 = .ok (.if_icmp .ne 7, 3) := by decide +kernel
theorem d1_69 : decode method_2_code 69 = .ok (.getstatic 31, 3) := by decide +kernel
theorem d1_72 : decode method_2_code 72 = .ok (.areturn, 1) := by decide +kernel
theorem d1_73 : decode method_2_code 73 = .ok (.iload_n 0, 1) := by decide +kernel
theorem d1_74 : decode method_2_code 74 = .ok (.bipush 8, 2) := by decide +kernel
theorem d1_76 : decode method_2_code 76 = .ok (.if_icmp .ne 7, 3) := by decide +kernel
theorem d1_79 : decode method_2_code 79 = .ok (.getstatic 34, 3) := by decide +kernel
theorem d1_82 : decode method_2_code 82 = .ok (.areturn, 1) := by decide +kernel
theorem d1_83 : decode method_2_code 83 = .ok (.iload_n 0, 1) := by decide +kernel
theorem d1_84 : decode method_2_code 84 = .ok (.bipush 9, 2) := by decide +kernel
theorem d1_86 : decode method_2_code 86 = .ok (.if_icmp .ne 7, 3) := by decide +kernel
theorem d1_89 : decode method_2_code 89 = .ok (.getstatic 37, 3) := by decide +kernel
theorem d1_92 : decode method_2_code 92 = .ok (.areturn, 1) := by decide +kernel
theorem d1_93 : decode method_2_code 93 = .ok (.getstatic 40, 3) := by decide +kernel
theorem d1_96 : decode method_2_code 96 = .ok (.areturn, 1) := by decide +kernel
theorem pn_1 : plainName "com/example/stylesheet_engine/stylesheetengine/model/AtomicTypeIsSubtypeOfPinLaw" = true := by first | (simp [plainName, overriddenIn]; done) | decide +kernel
theorem ef_1 (m : MethodId) (p0 : Int32) : entryFrame m #[(.int p0)] 1 = mkF m 0 #[.val (.int p0)] [] := by first | (simp [entryFrame, mkF, argsToLocals, Value.category]; done) | rfl
set_option maxRecDepth 65536 in
set_option maxHeartbeats 40000000 in
theorem rm1 (l : Launch) (Z : State) (a0 : Array Value) (hw : ∀ d ∈ tables_1, d.before a0 Z = true) (ws : List Jvm.Cond) (k : Nat) (hk : k < 11) (O : Nat → Addr) (h0 : Heap) (HO : OObj Z h0 O) :
    MetFree l (⟨"com/example/stylesheet_engine/stylesheetengine/model/AtomicTypeIsSubtypeOfPinLaw", "pick", "(I)Lcom/example/stylesheet_engine/stylesheetengine/model/AtomicType;"⟩ : MethodName) (head1 (Jvm.Cond.code (⟨"com/example/stylesheet_engine/stylesheetengine/model/AtomicTypeIsSubtypeOfPinLaw", "pick", "(I)Lcom/example/stylesheet_engine/stylesheetengine/model/AtomicType;"⟩ : MethodName) method_2_code 1 (some (.object "com/example/stylesheet_engine/stylesheetengine/model/AtomicType")) :: ws) ({ frames := 0, cells := 0, slots := 0, locals := 0 } : Room)) (fun a_ U => a_ = #[(.int (Int32.ofNat k))] ∧ Z.Warmed39 U.vm ∧ U.heap = h0) (fun _ _ _ _ _ => True) (fun _ U o_ U' => ∃ v L, o_ = .returned v ∧ OQ (fun v h L => v = some (.ref (O k)) ∧ h = h0 ∧ L = []) v U'.heap L ∧ FrameEnd U o_ U' L ({ frames := 0, cells := 0, slots := 0, locals := 0 } : Room).cells ({ frames := 0, cells := 0, slots := 0, locals := 0 } : Room).slots) := by
  refine MetFree.of_bodySF (plainFor_of_name pn_1) hisR ?_
  intro p e s m args below meth c s₁ Bd hml0 hP hK
  obtain ⟨rfl, hZ, hh⟩ := hP
  have hx := Bd.exec
  have hby := Bd.bytes
  have hml : c.maxLocals = 1 := hml0
  have hown : s.vm.findClass "com/example/stylesheet_engine/stylesheetengine/model/AtomicTypeIsSubtypeOfPinLaw" = some m.cls := findClass_of_methodNamed Bd.named
  have hnm := (name_of_methodNamed Bd.named Bd.method).1
  have hret := Bd.returns
  have hlk : meth.locks = false := Bd.notSynchronized
  have X0 : Stand p l e ({ frames := 0, cells := 0, slots := 0, locals := 0 } : Room) s m #[(.int (Int32.ofNat k))] below meth c s₁ [] 0 0 := Stand.of_body Bd
  have e0 : s₁.heap = h0 := by rw [← hh, Bd.state]; rfl
  refine OFin.start (Q := fun v h L => v = some (.ref (O k)) ∧ h = h0 ∧ L = []) (s := s) (fun t kt => castTop (ef_1 m ((Int32.ofNat k))) kt) ?_
  refine OFin.to (s₁.setTop (mkF m 1 #[.val (.int (Int32.ofNat k))] [(.int (Int32.ofNat k))])) (fun _ kt => XS.iloadN X0.here hx rfl (hb hby d1_0) rfl kt) ?_
  by_cases hc0 : (Int32.ofNat k) = (0 : Int32)
  case pos =>
    have hk' : k = 0 := own_eq k 0 (by omega) (by decide) hc0
    refine OFin.to (s₁.setTop (mkF m 4 #[.val (.int (Int32.ofNat k))] [])) (fun _ kt => XS.ifNo X0.here hx rfl (hb hby d1_1) rfl (XT.i0_ne_f hc0) kt) ?_
    obtain ⟨T1, X1, e1, st1⟩ := getS2 X0 hx hZ hown (host := "") (Or.inl (hw _ (List.mem_of_getElem? (i := 5) rfl))) Via.refl e0 (show Sta Z h0 "com/example/stylesheet_engine/stylesheetengine/model/AtomicType" "ANY_ATOMIC" "Lcom/example/stylesheet_engine/stylesheetengine/model/AtomicType;" (.ref (O 0)) from HO.1 0 (by decide)) (g := (mkF m 4 #[.val (.int (Int32.ofNat k))] [])) rfl (hb hby d1_4)
    refine OFin.to (T1.setTop (mkF m 7 #[.val (.int (Int32.ofNat k))] [(.ref (O 0))])) st1 ?_
    exact OFin.retA X1 hx hret rfl hlk (hb hby d1_7) (Nat.zero_le _) (Nat.zero_le _) ⟨by rw [hk'], e1, rfl⟩
  have hn0 : k ≠ 0 := fun q => hc0 (by rw [q]; rfl)
  refine OFin.to (s₁.setTop (mkF m 8 #[.val (.int (Int32.ofNat k))] [])) (fun _ kt => XS.ifYes X0.here hx rfl (pc0 := 1) (pc' := 8) rfl (hb hby d1_1) rfl (XT.i0_ne_t hc0) (by decide) (by decide) kt) ?_
  refine OFin.to (s₁.setTop (mkF m 9 #[.val (.int (Int32.ofNat k))] [(.int (Int32.ofNat k))])) (fun _ kt => XS.iloadN X0.here hx rfl (hb hby d1_8) rfl kt) ?_
  refine OFin.to (s₁.setTop (mkF m 10 #[.val (.int (Int32.ofNat k))] [(.int (1 : Int32)), (.int (Int32.ofNat k))])) (fun _ kt => XS.iconst X0.here hx rfl (hb hby d1_9) kt) ?_
  by_cases hc1 : (Int32.ofNat k) = (1 : Int32)
  case pos =>
    have hk' : k = 1 := own_eq k 1 (by omega) (by decide) hc1
    refine OFin.to (s₁.setTop (mkF m 13 #[.val (.int (Int32.ofNat k))] [])) (fun _ kt => XS.icmpNo X0.here hx rfl (hb hby d1_10) rfl (XT.ii_ne_f hc1) kt) ?_
    obtain ⟨T2, X2, e2, st2⟩ := getS2 X0 hx hZ hown (host := "") (Or.inl (hw _ (List.mem_of_getElem? (i := 22) rfl))) Via.refl e0 (show Sta Z h0 "com/example/stylesheet_engine/stylesheetengine/model/AtomicType" "NUMERIC" "Lcom/example/stylesheet_engine/stylesheetengine/model/AtomicType;" (.ref (O 1)) from HO.1 1 (by decide)) (g := (mkF m 13 #[.val (.int (Int32.ofNat k))] [])) rfl (hb hby d1_13)
    refine OFin.to (T2.setTop (mkF m 16 #[.val (.int (Int32.ofNat k))] [(.ref (O 1))])) st2 ?_
    exact OFin.retA X2 hx hret rfl hlk (hb hby d1_16) (Nat.zero_le _) (Nat.zero_le _) ⟨by rw [hk'], e2, rfl⟩
  have hn1 : k ≠ 1 := fun q => hc1 (by rw [q]; rfl)
  refine OFin.to (s₁.setTop (mkF m 17 #[.val (.int (Int32.ofNat k))] [])) (fun _ kt => XS.icmpYes X0.here hx rfl (pc0 := 10) (pc' := 17) rfl (hb hby d1_10) rfl (XT.ii_ne_t hc1) (by decide) (by decide) kt) ?_
  refine OFin.to (s₁.setTop (mkF m 18 #[.val (.int (Int32.ofNat k))] [(.int (Int32.ofNat k))])) (fun _ kt => XS.iloadN X0.here hx rfl (hb hby d1_17) rfl kt) ?_
  refine OFin.to (s₁.setTop (mkF m 19 #[.val (.int (Int32.ofNat k))] [(.int (2 : Int32)), (.int (Int32.ofNat k))])) (fun _ kt => XS.iconst X0.here hx rfl (hb hby d1_18) kt) ?_
  by_cases hc2 : (Int32.ofNat k) = (2 : Int32)
  case pos =>
    have hk' : k = 2 := own_eq k 2 (by omega) (by decide) hc2
    refine OFin.to (s₁.setTop (mkF m 22 #[.val (.int (Int32.ofNat k))] [])) (fun _ kt => XS.icmpNo X0.here hx rfl (hb hby d1_19) rfl (XT.ii_ne_f hc2) kt) ?_
    obtain ⟨T3, X3, e3, st3⟩ := getS2 X0 hx hZ hown (host := "") (Or.inl (hw _ (List.mem_of_getElem? (i := 35) rfl))) Via.refl e0 (show Sta Z h0 "com/example/stylesheet_engine/stylesheetengine/model/AtomicType" "UNTYPED_ATOMIC" "Lcom/example/stylesheet_engine/stylesheetengine/model/AtomicType;" (.ref (O 2)) from HO.1 2 (by decide)) (g := (mkF m 22 #[.val (.int (Int32.ofNat k))] [])) rfl (hb hby d1_22)
    refine OFin.to (T3.setTop (mkF m 25 #[.val (.int (Int32.ofNat k))] [(.ref (O 2))])) st3 ?_
    exact OFin.retA X3 hx hret rfl hlk (hb hby d1_25) (Nat.zero_le _) (Nat.zero_le _) ⟨by rw [hk'], e3, rfl⟩
  have hn2 : k ≠ 2 := fun q => hc2 (by rw [q]; rfl)
  refine OFin.to (s₁.setTop (mkF m 26 #[.val (.int (Int32.ofNat k))] [])) (fun _ kt => XS.icmpYes X0.here hx rfl (pc0 := 19) (pc' := 26) rfl (hb hby d1_19) rfl (XT.ii_ne_t hc2) (by decide) (by decide) kt) ?_
  refine OFin.to (s₁.setTop (mkF m 27 #[.val (.int (Int32.ofNat k))] [(.int (Int32.ofNat k))])) (fun _ kt => XS.iloadN X0.here hx rfl (hb hby d1_26) rfl kt) ?_
  refine OFin.to (s₁.setTop (mkF m 28 #[.val (.int (Int32.ofNat k))] [(.int (3 : Int32)), (.int (Int32.ofNat k))])) (fun _ kt => XS.iconst X0.here hx rfl (hb hby d1_27) kt) ?_
  by_cases hc3 : (Int32.ofNat k) = (3 : Int32)
  case pos =>
    have hk' : k = 3 := own_eq k 3 (by omega) (by decide) hc3
    refine OFin.to (s₁.setTop (mkF m 31 #[.val (.int (Int32.ofNat k))] [])) (fun _ kt => XS.icmpNo X0.here hx rfl (hb hby d1_28) rfl (XT.ii_ne_f hc3) kt) ?_
    obtain ⟨T4, X4, e4, st4⟩ := getS2 X0 hx hZ hown (host := "") (Or.inl (hw _ (List.mem_of_getElem? (i := 8) rfl))) Via.refl e0 (show Sta Z h0 "com/example/stylesheet_engine/stylesheetengine/model/AtomicType" "STRING" "Lcom/example/stylesheet_engine/stylesheetengine/model/AtomicType;" (.ref (O 3)) from HO.1 3 (by decide)) (g := (mkF m 31 #[.val (.int (Int32.ofNat k))] [])) rfl (hb hby d1_31)
    refine OFin.to (T4.setTop (mkF m 34 #[.val (.int (Int32.ofNat k))] [(.ref (O 3))])) st4 ?_
    exact OFin.retA X4 hx hret rfl hlk (hb hby d1_34) (Nat.zero_le _) (Nat.zero_le _) ⟨by rw [hk'], e4, rfl⟩
  have hn3 : k ≠ 3 := fun q => hc3 (by rw [q]; rfl)
  refine OFin.to (s₁.setTop (mkF m 35 #[.val (.int (Int32.ofNat k))] [])) (fun _ kt => XS.icmpYes X0.here hx rfl (pc0 := 28) (pc' := 35) rfl (hb hby d1_28) rfl (XT.ii_ne_t hc3) (by decide) (by decide) kt) ?_
  refine OFin.to (s₁.setTop (mkF m 36 #[.val (.int (Int32.ofNat k))] [(.int (Int32.ofNat k))])) (fun _ kt => XS.iloadN X0.here hx rfl (hb hby d1_35) rfl kt) ?_
  refine OFin.to (s₁.setTop (mkF m 37 #[.val (.int (Int32.ofNat k))] [(.int (4 : Int32)), (.int (Int32.ofNat k))])) (fun _ kt => XS.iconst X0.here hx rfl (hb hby d1_36) kt) ?_
  by_cases hc4 : (Int32.ofNat k) = (4 : Int32)
  case pos =>
    have hk' : k = 4 := own_eq k 4 (by omega) (by decide) hc4
    refine OFin.to (s₁.setTop (mkF m 40 #[.val (.int (Int32.ofNat k))] [])) (fun _ kt => XS.icmpNo X0.here hx rfl (hb hby d1_37) rfl (XT.ii_ne_f hc4) kt) ?_
    obtain ⟨T5, X5, e5, st5⟩ := getS2 X0 hx hZ hown (host := "") (Or.inl (hw _ (List.mem_of_getElem? (i := 41) rfl))) Via.refl e0 (show Sta Z h0 "com/example/stylesheet_engine/stylesheetengine/model/AtomicType" "ANY_URI" "Lcom/example/stylesheet_engine/stylesheetengine/model/AtomicType;" (.ref (O 4)) from HO.1 4 (by decide)) (g := (mkF m 40 #[.val (.int (Int32.ofNat k))] [])) rfl (hb hby d1_40)
    refine OFin.to (T5.setTop (mkF m 43 #[.val (.int (Int32.ofNat k))] [(.ref (O 4))])) st5 ?_
    exact OFin.retA X5 hx hret rfl hlk (hb hby d1_43) (Nat.zero_le _) (Nat.zero_le _) ⟨by rw [hk'], e5, rfl⟩
  have hn4 : k ≠ 4 := fun q => hc4 (by rw [q]; rfl)
  refine OFin.to (s₁.setTop (mkF m 44 #[.val (.int (Int32.ofNat k))] [])) (fun _ kt => XS.icmpYes X0.here hx rfl (pc0 := 37) (pc' := 44) rfl (hb hby d1_37) rfl (XT.ii_ne_t hc4) (by decide) (by decide) kt) ?_
  refine OFin.to (s₁.setTop (mkF m 45 #[.val (.int (Int32.ofNat k))] [(.int (Int32.ofNat k))])) (fun _ kt => XS.iloadN X0.here hx rfl (hb hby d1_44) rfl kt) ?_
  refine OFin.to (s₁.setTop (mkF m 46 #[.val (.int (Int32.ofNat k))] [(.int (5 : Int32)), (.int (Int32.ofNat k))])) (fun _ kt => XS.iconst X0.here hx rfl (hb hby d1_45) kt) ?_
  by_cases hc5 : (Int32.ofNat k) = (5 : Int32)
  case pos =>
    have hk' : k = 5 := own_eq k 5 (by omega) (by decide) hc5
    refine OFin.to (s₁.setTop (mkF m 49 #[.val (.int (Int32.ofNat k))] [])) (fun _ kt => XS.icmpNo X0.here hx rfl (hb hby d1_46) rfl (XT.ii_ne_f hc5) kt) ?_
    obtain ⟨T6, X6, e6, st6⟩ := getS2 X0 hx hZ hown (host := "") (Or.inl (hw _ (List.mem_of_getElem? (i := 33) rfl))) Via.refl e0 (show Sta Z h0 "com/example/stylesheet_engine/stylesheetengine/model/AtomicType" "BOOLEAN" "Lcom/example/stylesheet_engine/stylesheetengine/model/AtomicType;" (.ref (O 5)) from HO.1 5 (by decide)) (g := (mkF m 49 #[.val (.int (Int32.ofNat k))] [])) rfl (hb hby d1_49)
    refine OFin.to (T6.setTop (mkF m 52 #[.val (.int (Int32.ofNat k))] [(.ref (O 5))])) st6 ?_
    exact OFin.retA X6 hx hret rfl hlk (hb hby d1_52) (Nat.zero_le _) (Nat.zero_le _) ⟨by rw [hk'], e6, rfl⟩
  have hn5 : k ≠ 5 := fun q => hc5 (by rw [q]; rfl)
  refine OFin.to (s₁.setTop (mkF m 53 #[.val (.int (Int32.ofNat k))] [])) (fun _ kt => XS.icmpYes X0.here hx rfl (pc0 := 46) (pc' := 53) rfl (hb hby d1_46) rfl (XT.ii_ne_t hc5) (by decide) (by decide) kt) ?_
  refine OFin.to (s₁.setTop (mkF m 54 #[.val (.int (Int32.ofNat k))] [(.int (Int32.ofNat k))])) (fun _ kt => XS.iloadN X0.here hx rfl (hb hby d1_53) rfl kt) ?_
  refine OFin.to (s₁.setTop (mkF m 56 #[.val (.int (Int32.ofNat k))] [(.int (6 : Int32)), (.int (Int32.ofNat k))])) (fun _ kt => XS.bipush X0.here hx rfl (hb hby d1_54) kt) ?_
  by_cases hc6 : (Int32.ofNat k) = (6 : Int32)
  case pos =>
    have hk' : k = 6 := own_eq k 6 (by omega) (by decide) hc6
    refine OFin.to (s₁.setTop (mkF m 59 #[.val (.int (Int32.ofNat k))] [])) (fun _ kt => XS.icmpNo X0.here hx rfl (hb hby d1_56) rfl (XT.ii_ne_f hc6) kt) ?_
    obtain ⟨T7, X7, e7, st7⟩ := getS2 X0 hx hZ hown (host := "") (Or.inl (hw _ (List.mem_of_getElem? (i := 37) rfl))) Via.refl e0 (show Sta Z h0 "com/example/stylesheet_engine/stylesheetengine/model/AtomicType" "DECIMAL" "Lcom/example/stylesheet_engine/stylesheetengine/model/AtomicType;" (.ref (O 6)) from HO.1 6 (by decide)) (g := (mkF m 59 #[.val (.int (Int32.ofNat k))] [])) rfl (hb hby d1_59)
    refine OFin.to (T7.setTop (mkF m 62 #[.val (.int (Int32.ofNat k))] [(.ref (O 6))])) st7 ?_
    exact OFin.retA X7 hx hret rfl hlk (hb hby d1_62) (Nat.zero_le _) (Nat.zero_le _) ⟨by rw [hk'], e7, rfl⟩
  have hn6 : k ≠ 6 := fun q => hc6 (by rw [q]; rfl)
  refine OFin.to (s₁.setTop (mkF m 63 #[.val (.int (Int32.ofNat k))] [])) (fun _ kt => XS.icmpYes X0.here hx rfl (pc0 := 56) (pc' := 63) rfl (hb hby d1_56) rfl (XT.ii_ne_t hc6) (by decide) (by decide) kt) ?_
  refine OFin.to (s₁.setTop (mkF m 64 #[.val (.int (Int32.ofNat k))] [(.int (Int32.ofNat k))])) (fun _ kt => XS.iloadN X0.here hx rfl (hb hby d1_63) rfl kt) ?_
  refine OFin.to (s₁.setTop (mkF m 66 #[.val (.int (Int32.ofNat k))] [(.int (7 : Int32)), (.int (Int32.ofNat k))])) (fun _ kt => XS.bipush X0.here hx rfl (hb hby d1_64) kt) ?_
  by_cases hc7 : (Int32.ofNat k) = (7 : Int32)
  case pos =>
    have hk' : k = 7 := own_eq k 7 (by omega) (by decide) hc7
    refine OFin.to (s₁.setTop (mkF m 69 #[.val (.int (Int32.ofNat k))] [])) (fun _ kt => XS.icmpNo X0.here hx rfl (hb hby d1_66) rfl (XT.ii_ne_f hc7) kt) ?_
    obtain ⟨T8, X8, e8, st8⟩ := getS2 X0 hx hZ hown (host := "") (Or.inl (hw _ (List.mem_of_getElem? (i := 39) rfl))) Via.refl e0 (show Sta Z h0 "com/example/stylesheet_engine/stylesheetengine/model/AtomicType" "INTEGER" "Lcom/example/stylesheet_engine/stylesheetengine/model/AtomicType;" (.ref (O 7)) from HO.1 7 (by decide)) (g := (mkF m 69 #[.val (.int (Int32.ofNat k))] [])) rfl (hb hby d1_69)
    refine OFin.to (T8.setTop (mkF m 72 #[.val (.int (Int32.ofNat k))] [(.ref (O 7))])) st8 ?_
    exact OFin.retA X8 hx hret rfl hlk (hb hby d1_72) (Nat.zero_le _) (Nat.zero_le _) ⟨by rw [hk'], e8, rfl⟩
  have hn7 : k ≠ 7 := fun q => hc7 (by rw [q]; rfl)
  refine OFin.to (s₁.setTop (mkF m 73 #[.val (.int (Int32.ofNat k))] [])) (fun _ kt => XS.icmpYes X0.here hx rfl (pc0 := 66) (pc' := 73) rfl (hb hby d1_66) rfl (XT.ii_ne_t hc7) (by decide) (by decide) kt) ?_
  refine OFin.to (s₁.setTop (mkF m 74 #[.val (.int (Int32.ofNat k))] [(.int (Int32.ofNat k))])) (fun _ kt => XS.iloadN X0.here hx rfl (hb hby d1_73) rfl kt) ?_
  refine OFin.to (s₁.setTop (mkF m 76 #[.val (.int (Int32.ofNat k))] [(.int (8 : Int32)), (.int (Int32.ofNat k))])) (fun _ kt => XS.bipush X0.here hx rfl (hb hby d1_74) kt) ?_
  by_cases hc8 : (Int32.ofNat k) = (8 : Int32)
  case pos =>
    have hk' : k = 8 := own_eq k 8 (by omega) (by decide) hc8
    refine OFin.to (s₁.setTop (mkF m 79 #[.val (.int (Int32.ofNat k))] [])) (fun _ kt => XS.icmpNo X0.here hx rfl (hb hby d1_76) rfl (XT.ii_ne_f hc8) kt) ?_
    obtain ⟨T9, X9, e9, st9⟩ := getS2 X0 hx hZ hown (host := "") (Or.inl (hw _ (List.mem_of_getElem? (i := 38) rfl))) Via.refl e0 (show Sta Z h0 "com/example/stylesheet_engine/stylesheetengine/model/AtomicType" "FLOAT" "Lcom/example/stylesheet_engine/stylesheetengine/model/AtomicType;" (.ref (O 8)) from HO.1 8 (by decide)) (g := (mkF m 79 #[.val (.int (Int32.ofNat k))] [])) rfl (hb hby d1_79)
    refine OFin.to (T9.setTop (mkF m 82 #[.val (.int (Int32.ofNat k))] [(.ref (O 8))])) st9 ?_
    exact OFin.retA X9 hx hret rfl hlk (hb hby d1_82) (Nat.zero_le _) (Nat.zero_le _) ⟨by rw [hk'], e9, rfl⟩
  have hn8 : k ≠ 8 := fun q => hc8 (by rw [q]; rfl)
  refine OFin.to (s₁.setTop (mkF m 83 #[.val (.int (Int32.ofNat k))] [])) (fun _ kt => XS.icmpYes X0.here hx rfl (pc0 := 76) (pc' := 83) rfl (hb hby d1_76) rfl (XT.ii_ne_t hc8) (by decide) (by decide) kt) ?_
  refine OFin.to (s₁.setTop (mkF m 84 #[.val (.int (Int32.ofNat k))] [(.int (Int32.ofNat k))])) (fun _ kt => XS.iloadN X0.here hx rfl (hb hby d1_83) rfl kt) ?_
  refine OFin.to (s₁.setTop (mkF m 86 #[.val (.int (Int32.ofNat k))] [(.int (9 : Int32)), (.int (Int32.ofNat k))])) (fun _ kt => XS.bipush X0.here hx rfl (hb hby d1_84) kt) ?_
  by_cases hc9 : (Int32.ofNat k) = (9 : Int32)
  case pos =>
    have hk' : k = 9 := own_eq k 9 (by omega) (by decide) hc9
    refine OFin.to (s₁.setTop (mkF m 89 #[.val (.int (Int32.ofNat k))] [])) (fun _ kt => XS.icmpNo X0.here hx rfl (hb hby d1_86) rfl (XT.ii_ne_f hc9) kt) ?_
    obtain ⟨T10, X10, e10, st10⟩ := getS2 X0 hx hZ hown (host := "") (Or.inl (hw _ (List.mem_of_getElem? (i := 30) rfl))) Via.refl e0 (show Sta Z h0 "com/example/stylesheet_engine/stylesheetengine/model/AtomicType" "DOUBLE" "Lcom/example/stylesheet_engine/stylesheetengine/model/AtomicType;" (.ref (O 9)) from HO.1 9 (by decide)) (g := (mkF m 89 #[.val (.int (Int32.ofNat k))] [])) rfl (hb hby d1_89)
    refine OFin.to (T10.setTop (mkF m 92 #[.val (.int (Int32.ofNat k))] [(.ref (O 9))])) st10 ?_
    exact OFin.retA X10 hx hret rfl hlk (hb hby d1_92) (Nat.zero_le _) (Nat.zero_le _) ⟨by rw [hk'], e10, rfl⟩
  have hn9 : k ≠ 9 := fun q => hc9 (by rw [q]; rfl)
  refine OFin.to (s₁.setTop (mkF m 93 #[.val (.int (Int32.ofNat k))] [])) (fun _ kt => XS.icmpYes X0.here hx rfl (pc0 := 86) (pc' := 93) rfl (hb hby d1_86) rfl (XT.ii_ne_t hc9) (by decide) (by decide) kt) ?_
  have hk' : k = 10 := by omega
  obtain ⟨T11, X11, e11, st11⟩ := getS2 X0 hx hZ hown (host := "") (Or.inl (hw _ (List.mem_of_getElem? (i := 31) rfl))) Via.refl e0 (show Sta Z h0 "com/example/stylesheet_engine/stylesheetengine/model/AtomicType" "TIME" "Lcom/example/stylesheet_engine/stylesheetengine/model/AtomicType;" (.ref (O 10)) from HO.1 10 (by decide)) (g := (mkF m 93 #[.val (.int (Int32.ofNat k))] [])) rfl (hb hby d1_93)
  refine OFin.to (T11.setTop (mkF m 96 #[.val (.int (Int32.ofNat k))] [(.ref (O 10))])) st11 ?_
  exact OFin.retA X11 hx hret rfl hlk (hb hby d1_96) (Nat.zero_le _) (Nat.zero_le _) ⟨by rw [hk'], e11, rfl⟩
theorem d2_0 : decode prog_31_method_7_code 0 = .ok (.aload_n 1, 1) := by decide +kernel
theorem d2_1 : decode prog_31_method_7_code 1 = .ok (.getstatic 7, 3) := by decide +kernel
theorem d2_4 : decode prog_31_method_7_code 4 = .ok (.if_acmp .ne 42, 3) := by decide +kernel
theorem d2_7 : decode prog_31_method_7_code 7 = .ok (.aload_n 0, 1) := by decide +kernel
theorem d2_8 : decode prog_31_method_7_code 8 = .ok (.getstatic 31, 3) := by decide +kernel
theorem d2_11 : decode prog_31_method_7_code 11 = .ok (.invokevirtual 77, 3) := by decide +kernel
theorem d2_14 : decode prog_31_method_7_code 14 = .ok (.ifCond .ne 23, 3) := by decide +kernel
theorem d2_17 : decode prog_31_method_7_code 17 = .ok (.aload_n 0, 1) := by decide +kernel
theorem d2_18 : decode prog_31_method_7_code 18 = .ok (.getstatic 28, 3) := by decide +kernel
theorem d2_21 : decode prog_31_method_7_code 21 = .ok (.invokevirtual 77, 3) := by decide +kernel
theorem d2_24 : decode prog_31_method_7_code 24 = .ok (.ifCond .ne 13, 3) := by decide +kernel
theorem d2_27 : decode prog_31_method_7_code 27 = .ok (.aload_n 0, 1) := by decide +kernel
theorem d2_28 : decode prog_31_method_7_code 28 = .ok (.getstatic 22, 3) := by decide +kernel
theorem d2_31 : decode prog_31_method_7_code 31 = .ok (.invokevirtual 77, 3) := by decide +kernel
theorem d2_34 : decode prog_31_method_7_code 34 = .ok (.ifCond .eq 7, 3) := by decide +kernel
theorem d2_37 : decode prog_31_method_7_code 37 = .ok (.iconst 1, 1) := by decide +kernel
theorem d2_38 : decode prog_31_method_7_code 38 = .ok (.goto 4, 3) := by decide +kernel
theorem d2_41 : decode prog_31_method_7_code 41 = .ok (.iconst 0, 1) := by decide +kernel
theorem d2_42 : decode prog_31_method_7_code 42 = .ok (.istore_n 2, 1) := by decide +kernel
theorem d2_43 : decode prog_31_method_7_code 43 = .ok (.goto 34, 3) := by decide +kernel
theorem d2_46 : decode prog_31_method_7_code 46 = .ok (.iconst 0, 1) := by decide +kernel
theorem d2_47 : decode prog_31_method_7_code 47 = .ok (.istore_n 2, 1) := by decide +kernel
theorem d2_48 : decode prog_31_method_7_code 48 = .ok (.aload_n 0, 1) := by decide +kernel
theorem d2_49 : decode prog_31_method_7_code 49 = .ok (.astore_n 3, 1) := by decide +kernel
theorem d2_50 : decode prog_31_method_7_code 50 = .ok (.aload_n 3, 1) := by decide +kernel
theorem d2_51 : decode prog_31_method_7_code 51 = .ok (.ifnull 26, 3) := by decide +kernel
theorem d2_54 : decode prog_31_method_7_code 54 = .ok (.iload_n 2, 1) := by decide +kernel
theorem d2_55 : decode prog_31_method_7_code 55 = .ok (.ifCond .ne 22, 3) := by decide +kernel
theorem d2_58 : decode prog_31_method_7_code 58 = .ok (.aload_n 3, 1) := by decide +kernel
theorem d2_59 : decode prog_31_method_7_code 59 = .ok (.aload_n 1, 1) := by decide +kernel
theorem d2_60 : decode prog_31_method_7_code 60 = .ok (.if_acmp .ne 7, 3) := by decide +kernel
theorem d2_63 : decode prog_31_method_7_code 63 = .ok (.iconst 1, 1) := by decide +kernel
theorem d2_64 : decode prog_31_method_7_code 64 = .ok (.goto 4, 3) := by decide +kernel
theorem d2_67 : decode prog_31_method_7_code 67 = .ok (.iconst 0, 1) := by decide +kernel
theorem d2_68 : decode prog_31_method_7_code 68 = .ok (.istore_n 2, 1) := by decide +kernel
theorem d2_69 : decode prog_31_method_7_code 69 = .ok (.aload_n 3, 1) := by decide +kernel
theorem d2_70 : decode prog_31_method_7_code 70 = .ok (.getfield 60, 3) := by decide +kernel
theorem d2_73 : decode prog_31_method_7_code 73 = .ok (.astore_n 3, 1) := by decide +kernel
theorem d2_74 : decode prog_31_method_7_code 74 = .ok (.goto (-24), 3) := by decide +kernel
theorem d2_77 : decode prog_31_method_7_code 77 = .ok (.iload_n 2, 1) := by decide +kernel
theorem d2_78 : decode prog_31_method_7_code 78 = .ok (.ireturn, 1) := by decide +kernel
theorem pn_2 : plainName "com/example/stylesheet_engine/stylesheetengine/model/AtomicType" = true := by first | (simp [plainName, overriddenIn]; done) | decide +kernel
theorem ef_2 (m : MethodId) (a0 : Addr) (a1 : Addr) : entryFrame m #[(.ref a0), (.ref a1)] 4 = mkF m 0 #[.val (.ref a0), .val (.ref a1), .unset, .unset] [] := by first | (simp [entryFrame, mkF, argsToLocals, Value.category]; done) | rfl
set_option maxRecDepth 65536 in
set_option maxHeartbeats 40000000 in
theorem rm2a (l : Launch) (Z : State) (a0 : Array Value) (hw : ∀ d ∈ tables_1, d.before a0 Z = true) (ws : List Jvm.Cond) (i j : Nat) (hi : i < 11) (hj : j < 11) (hj1 : j ≠ 1) (O : Nat → Addr) (h0 : Heap) (HO : OObj Z h0 O) :
    MetFree l (⟨"com/example/stylesheet_engine/stylesheetengine/model/AtomicType", "isSubtypeOf", "(Lcom/example/stylesheet_engine/stylesheetengine/model/AtomicType;)Z"⟩ : MethodName) (head1 (Jvm.Cond.code (⟨"com/example/stylesheet_engine/stylesheetengine/model/AtomicType", "isSubtypeOf", "(Lcom/example/stylesheet_engine/stylesheetengine/model/AtomicType;)Z"⟩ : MethodName) prog_31_method_7_code 4 (some .boolean) :: ws) ({ frames := 0, cells := 0, slots := 0, locals := 0 } : Room)) (fun a_ U => a_ = #[(.ref (O i)), (.ref (O j))] ∧ Z.Warmed39 U.vm ∧ U.heap = h0) (fun _ _ _ _ _ => True) (fun _ U o_ U' => ∃ v L, o_ = .returned v ∧ OQ (fun v h L => v = some (.int (own_up 11 i j)) ∧ h = h0 ∧ L = []) v U'.heap L ∧ FrameEnd U o_ U' L ({ frames := 0, cells := 0, slots := 0, locals := 0 } : Room).cells ({ frames := 0, cells := 0, slots := 0, locals := 0 } : Room).slots) := by
  refine MetFree.of_bodySF (plainFor_of_name pn_2) hisR ?_
  intro p e s m args below meth c s₁ Bd hml0 hP hK
  obtain ⟨rfl, hZ, hh⟩ := hP
  have hx := Bd.exec
  have hby := Bd.bytes
  have hml : c.maxLocals = 4 := hml0
  have hown : s.vm.findClass "com/example/stylesheet_engine/stylesheetengine/model/AtomicType" = some m.cls := findClass_of_methodNamed Bd.named
  have hnm := (name_of_methodNamed Bd.named Bd.method).1
  have hret := Bd.returns
  have hlk : meth.locks = false := Bd.notSynchronized
  have X0 : Stand p l e ({ frames := 0, cells := 0, slots := 0, locals := 0 } : Room) s m #[(.ref (O i)), (.ref (O j))] below meth c s₁ [] 0 0 := Stand.of_body Bd
  have e0 : s₁.heap = h0 := by rw [← hh, Bd.state]; rfl
  refine OFin.start (Q := fun v h L => v = some (.int (own_up 11 i j)) ∧ h = h0 ∧ L = []) (s := s) (fun t kt => castTop (ef_2 m ((O i)) ((O j))) kt) ?_
  have LN : ∀ (T : State) (b : Int32), Stand p l e ({ frames := 0, cells := 0, slots := 0, locals := 0 } : Room) s m #[(.ref (O i)), (.ref (O j))] below meth c T [] 0 0 → T.heap = h0 → nar .boolean b = own_up 11 i j → OFin p e below s ({ frames := 0, cells := 0, slots := 0, locals := 0 } : Room).cells ({ frames := 0, cells := 0, slots := 0, locals := 0 } : Room).slots (fun v h L => v = some (.int (own_up 11 i j)) ∧ h = h0 ∧ L = []) (T.setTop (mkF m 50 #[.val (.ref (O i)), .val (.ref (O j)), .val (.int b), .val .null] [])) := by
    intro T b X eT hbv
    refine OFin.to (T.setTop (mkF m 51 #[.val (.ref (O i)), .val (.ref (O j)), .val (.int b), .val .null] [.null])) (fun _ kt => XS.aloadN X.here hx rfl (hb hby d2_50) rfl rfl kt) ?_
    refine OFin.to (T.setTop (mkF m 77 #[.val (.ref (O i)), .val (.ref (O j)), .val (.int b), .val .null] [])) (fun _ kt => XS.ifnullYes X.here hx rfl (pc0 := 51) (pc' := 77) rfl (hb hby d2_51) rfl (by decide) (by decide) kt) ?_
    refine OFin.to (T.setTop (mkF m 78 #[.val (.ref (O i)), .val (.ref (O j)), .val (.int b), .val .null] [(.int b)])) (fun _ kt => XS.iloadN X.here hx rfl (hb hby d2_77) rfl kt) ?_
    exact OFin.retZ X hx (t := .boolean) hret (by simp) hlk (hb hby d2_78) (Nat.zero_le _) (Nat.zero_le _) ⟨by rw [hbv], eT, rfl⟩
  have L1 : ∀ (T : State) (t : Addr), Stand p l e ({ frames := 0, cells := 0, slots := 0, locals := 0 } : Room) s m #[(.ref (O i)), (.ref (O j))] below meth c T [] 0 0 → T.heap = h0 → (1 : Int32) = own_up 11 i j → OFin p e below s ({ frames := 0, cells := 0, slots := 0, locals := 0 } : Room).cells ({ frames := 0, cells := 0, slots := 0, locals := 0 } : Room).slots (fun v h L => v = some (.int (own_up 11 i j)) ∧ h = h0 ∧ L = []) (T.setTop (mkF m 50 #[.val (.ref (O i)), .val (.ref (O j)), .val (.int (1 : Int32)), .val (.ref t)] [])) := by
    intro T t X eT hbv
    refine OFin.to (T.setTop (mkF m 51 #[.val (.ref (O i)), .val (.ref (O j)), .val (.int (1 : Int32)), .val (.ref t)] [(.ref t)])) (fun _ kt => XS.aloadN X.here hx rfl (hb hby d2_50) rfl rfl kt) ?_
    refine OFin.to (T.setTop (mkF m 54 #[.val (.ref (O i)), .val (.ref (O j)), .val (.int (1 : Int32)), .val (.ref t)] [])) (fun _ kt => XS.ifnullNo X.here hx rfl (hb hby d2_51) rfl kt) ?_
    refine OFin.to (T.setTop (mkF m 55 #[.val (.ref (O i)), .val (.ref (O j)), .val (.int (1 : Int32)), .val (.ref t)] [(.int (1 : Int32))])) (fun _ kt => XS.iloadN X.here hx rfl (hb hby d2_54) rfl kt) ?_
    refine OFin.to (T.setTop (mkF m 77 #[.val (.ref (O i)), .val (.ref (O j)), .val (.int (1 : Int32)), .val (.ref t)] [])) (fun _ kt => XS.ifYes X.here hx rfl (pc0 := 55) (pc' := 77) rfl (hb hby d2_55) rfl (XT.i0_ne_t (by decide)) (by decide) (by decide) kt) ?_
    refine OFin.to (T.setTop (mkF m 78 #[.val (.ref (O i)), .val (.ref (O j)), .val (.int (1 : Int32)), .val (.ref t)] [(.int (1 : Int32))])) (fun _ kt => XS.iloadN X.here hx rfl (hb hby d2_77) rfl kt) ?_
    exact OFin.retZ X hx (t := .boolean) hret (by simp) hlk (hb hby d2_78) (Nat.zero_le _) (Nat.zero_le _) ⟨by rw [own_nar1, ← hbv], eT, rfl⟩
  have LP : ∀ (n k : Nat) (T : State), k < n → k < 11 → Stand p l e ({ frames := 0, cells := 0, slots := 0, locals := 0 } : Room) s m #[(.ref (O i)), (.ref (O j))] below meth c T [] 0 0 → T.heap = h0 → own_up n k j = own_up 11 i j → OFin p e below s ({ frames := 0, cells := 0, slots := 0, locals := 0 } : Room).cells ({ frames := 0, cells := 0, slots := 0, locals := 0 } : Room).slots (fun v h L => v = some (.int (own_up 11 i j)) ∧ h = h0 ∧ L = []) (T.setTop (mkF m 50 #[.val (.ref (O i)), .val (.ref (O j)), .val (.int (0 : Int32)), .val (.ref (O k))] [])) := by
    intro n
    induction n with
    | zero => intro k T h; omega
    | succ n ih =>
      intro k T hkn hk X eT hr
      refine OFin.to (T.setTop (mkF m 51 #[.val (.ref (O i)), .val (.ref (O j)), .val (.int (0 : Int32)), .val (.ref (O k))] [(.ref (O k))])) (fun _ kt => XS.aloadN X.here hx rfl (hb hby d2_50) rfl rfl kt) ?_
      refine OFin.to (T.setTop (mkF m 54 #[.val (.ref (O i)), .val (.ref (O j)), .val (.int (0 : Int32)), .val (.ref (O k))] [])) (fun _ kt => XS.ifnullNo X.here hx rfl (hb hby d2_51) rfl kt) ?_
      refine OFin.to (T.setTop (mkF m 55 #[.val (.ref (O i)), .val (.ref (O j)), .val (.int (0 : Int32)), .val (.ref (O k))] [(.int (0 : Int32))])) (fun _ kt => XS.iloadN X.here hx rfl (hb hby d2_54) rfl kt) ?_
      refine OFin.to (T.setTop (mkF m 58 #[.val (.ref (O i)), .val (.ref (O j)), .val (.int (0 : Int32)), .val (.ref (O k))] [])) (fun _ kt => XS.ifNo X.here hx rfl (hb hby d2_55) rfl (XT.i0_ne_f rfl) kt) ?_
      refine OFin.to (T.setTop (mkF m 59 #[.val (.ref (O i)), .val (.ref (O j)), .val (.int (0 : Int32)), .val (.ref (O k))] [(.ref (O k))])) (fun _ kt => XS.aloadN X.here hx rfl (hb hby d2_58) rfl rfl kt) ?_
      refine OFin.to (T.setTop (mkF m 60 #[.val (.ref (O i)), .val (.ref (O j)), .val (.int (0 : Int32)), .val (.ref (O k))] [(.ref (O j)), (.ref (O k))])) (fun _ kt => XS.aloadN X.here hx rfl (hb hby d2_59) rfl rfl kt) ?_
      by_cases hkj : k = j
      case pos =>
        have hr := (if_pos hkj).symm.trans hr
        refine OFin.to (T.setTop (mkF m 63 #[.val (.ref (O i)), .val (.ref (O j)), .val (.int (0 : Int32)), .val (.ref (O k))] [])) (fun _ kt => Jvm.RoadKit.acmp (g := (mkF m 60 #[.val (.ref (O i)), .val (.ref (O j)), .val (.int (0 : Int32)), .val (.ref (O k))] [(.ref (O j)), (.ref (O k))])) X hx rfl rfl rfl (pc0 := 60) (pc' := 63) (same := true) rfl (hb hby d2_60) rfl (decide_eq_true (by rw [hkj])) (by decide) (by decide) kt) ?_
        cases hp : own_par k with
        | none =>
          refine OFin.to (T.setTop (mkF m 64 #[.val (.ref (O i)), .val (.ref (O j)), .val (.int (0 : Int32)), .val (.ref (O k))] [(.int (1 : Int32))])) (fun _ kt => XS.iconst X.here hx rfl (hb hby d2_63) kt) ?_
          refine OFin.to (T.setTop (mkF m 68 #[.val (.ref (O i)), .val (.ref (O j)), .val (.int (0 : Int32)), .val (.ref (O k))] [(.int (1 : Int32))])) (fun _ kt => XS.goto X.here hx rfl (pc0 := 64) (pc' := 68) rfl (hb hby d2_64) (by decide) (by decide) kt) ?_
          refine OFin.to (T.setTop (mkF m 69 #[.val (.ref (O i)), .val (.ref (O j)), .val (.int (1 : Int32)), .val (.ref (O k))] [])) (fun _ kt => XS.istoreN X.here hx rfl (hb hby d2_68) rfl (l' := #[.val (.ref (O i)), .val (.ref (O j)), .val (.int (1 : Int32)), .val (.ref (O k))]) rfl kt) ?_
          refine OFin.to (T.setTop (mkF m 70 #[.val (.ref (O i)), .val (.ref (O j)), .val (.int (1 : Int32)), .val (.ref (O k))] [(.ref (O k))])) (fun _ kt => XS.aloadN X.here hx rfl (hb hby d2_69) rfl rfl kt) ?_
          obtain ⟨T1, X1, e1, st1⟩ := getF X hx hZ hown (host := "") (Or.inl (hw _ (List.mem_of_getElem? (i := 17) rfl))) Via.refl eT (show Fld Z h0 (O k) "com/example/stylesheet_engine/stylesheetengine/model/AtomicType" "base" "Lcom/example/stylesheet_engine/stylesheetengine/model/AtomicType;" .null from by have q := HO.2.2.1 k hk; rw [own_bv, hp] at q; exact q) (g := (mkF m 70 #[.val (.ref (O i)), .val (.ref (O j)), .val (.int (1 : Int32)), .val (.ref (O k))] [(.ref (O k))])) rfl rfl (hb hby d2_70)
          refine OFin.to (T1.setTop (mkF m 73 #[.val (.ref (O i)), .val (.ref (O j)), .val (.int (1 : Int32)), .val (.ref (O k))] [.null])) st1 ?_
          refine OFin.to (T1.setTop (mkF m 74 #[.val (.ref (O i)), .val (.ref (O j)), .val (.int (1 : Int32)), .val .null] [])) (fun _ kt => XS.astoreN X1.here hx rfl (hb hby d2_73) rfl rfl (l' := #[.val (.ref (O i)), .val (.ref (O j)), .val (.int (1 : Int32)), .val .null]) rfl kt) ?_
          refine OFin.to (T1.setTop (mkF m 50 #[.val (.ref (O i)), .val (.ref (O j)), .val (.int (1 : Int32)), .val .null] [])) (fun _ kt => XS.goto X1.here hx rfl (pc0 := 74) (pc' := 50) rfl (hb hby d2_74) (by decide) (by decide) kt) ?_
          exact LN T1 _ X1 e1 (own_nar1.trans hr)
        | some q =>
          refine OFin.to (T.setTop (mkF m 64 #[.val (.ref (O i)), .val (.ref (O j)), .val (.int (0 : Int32)), .val (.ref (O k))] [(.int (1 : Int32))])) (fun _ kt => XS.iconst X.here hx rfl (hb hby d2_63) kt) ?_
          refine OFin.to (T.setTop (mkF m 68 #[.val (.ref (O i)), .val (.ref (O j)), .val (.int (0 : Int32)), .val (.ref (O k))] [(.int (1 : Int32))])) (fun _ kt => XS.goto X.here hx rfl (pc0 := 64) (pc' := 68) rfl (hb hby d2_64) (by decide) (by decide) kt) ?_
          refine OFin.to (T.setTop (mkF m 69 #[.val (.ref (O i)), .val (.ref (O j)), .val (.int (1 : Int32)), .val (.ref (O k))] [])) (fun _ kt => XS.istoreN X.here hx rfl (hb hby d2_68) rfl (l' := #[.val (.ref (O i)), .val (.ref (O j)), .val (.int (1 : Int32)), .val (.ref (O k))]) rfl kt) ?_
          refine OFin.to (T.setTop (mkF m 70 #[.val (.ref (O i)), .val (.ref (O j)), .val (.int (1 : Int32)), .val (.ref (O k))] [(.ref (O k))])) (fun _ kt => XS.aloadN X.here hx rfl (hb hby d2_69) rfl rfl kt) ?_
          obtain ⟨T2, X2, e2, st2⟩ := getF X hx hZ hown (host := "") (Or.inl (hw _ (List.mem_of_getElem? (i := 17) rfl))) Via.refl eT (show Fld Z h0 (O k) "com/example/stylesheet_engine/stylesheetengine/model/AtomicType" "base" "Lcom/example/stylesheet_engine/stylesheetengine/model/AtomicType;" (.ref (O q)) from by have q := HO.2.2.1 k hk; rw [own_bv, hp] at q; exact q) (g := (mkF m 70 #[.val (.ref (O i)), .val (.ref (O j)), .val (.int (1 : Int32)), .val (.ref (O k))] [(.ref (O k))])) rfl rfl (hb hby d2_70)
          refine OFin.to (T2.setTop (mkF m 73 #[.val (.ref (O i)), .val (.ref (O j)), .val (.int (1 : Int32)), .val (.ref (O k))] [(.ref (O q))])) st2 ?_
          refine OFin.to (T2.setTop (mkF m 74 #[.val (.ref (O i)), .val (.ref (O j)), .val (.int (1 : Int32)), .val (.ref (O q))] [])) (fun _ kt => XS.astoreN X2.here hx rfl (hb hby d2_73) rfl rfl (l' := #[.val (.ref (O i)), .val (.ref (O j)), .val (.int (1 : Int32)), .val (.ref (O q))]) rfl kt) ?_
          refine OFin.to (T2.setTop (mkF m 50 #[.val (.ref (O i)), .val (.ref (O j)), .val (.int (1 : Int32)), .val (.ref (O q))] [])) (fun _ kt => XS.goto X2.here hx rfl (pc0 := 74) (pc' := 50) rfl (hb hby d2_74) (by decide) (by decide) kt) ?_
          exact L1 T2 _ X2 e2 hr
      have hr := (if_neg hkj).symm.trans hr
      refine OFin.to (T.setTop (mkF m 67 #[.val (.ref (O i)), .val (.ref (O j)), .val (.int (0 : Int32)), .val (.ref (O k))] [])) (fun _ kt => Jvm.RoadKit.acmp (g := (mkF m 60 #[.val (.ref (O i)), .val (.ref (O j)), .val (.int (0 : Int32)), .val (.ref (O k))] [(.ref (O j)), (.ref (O k))])) X hx rfl rfl rfl (pc0 := 60) (pc' := 67) (same := false) rfl (hb hby d2_60) rfl (decide_eq_false fun q => hkj (HO.2.2.2 k j hk hj (Value.ref.inj q))) (by decide) (by decide) kt) ?_
      cases hp : own_par k with
      | none =>
        rw [hp] at hr
        refine OFin.to (T.setTop (mkF m 68 #[.val (.ref (O i)), .val (.ref (O j)), .val (.int (0 : Int32)), .val (.ref (O k))] [(.int (0 : Int32))])) (fun _ kt => XS.iconst X.here hx rfl (hb hby d2_67) kt) ?_
        refine OFin.to (T.setTop (mkF m 69 #[.val (.ref (O i)), .val (.ref (O j)), .val (.int (0 : Int32)), .val (.ref (O k))] [])) (fun _ kt => XS.istoreN X.here hx rfl (hb hby d2_68) rfl (l' := #[.val (.ref (O i)), .val (.ref (O j)), .val (.int (0 : Int32)), .val (.ref (O k))]) rfl kt) ?_
        refine OFin.to (T.setTop (mkF m 70 #[.val (.ref (O i)), .val (.ref (O j)), .val (.int (0 : Int32)), .val (.ref (O k))] [(.ref (O k))])) (fun _ kt => XS.aloadN X.here hx rfl (hb hby d2_69) rfl rfl kt) ?_
        obtain ⟨T3, X3, e3, st3⟩ := getF X hx hZ hown (host := "") (Or.inl (hw _ (List.mem_of_getElem? (i := 17) rfl))) Via.refl eT (show Fld Z h0 (O k) "com/example/stylesheet_engine/stylesheetengine/model/AtomicType" "base" "Lcom/example/stylesheet_engine/stylesheetengine/model/AtomicType;" .null from by have q := HO.2.2.1 k hk; rw [own_bv, hp] at q; exact q) (g := (mkF m 70 #[.val (.ref (O i)), .val (.ref (O j)), .val (.int (0 : Int32)), .val (.ref (O k))] [(.ref (O k))])) rfl rfl (hb hby d2_70)
        refine OFin.to (T3.setTop (mkF m 73 #[.val (.ref (O i)), .val (.ref (O j)), .val (.int (0 : Int32)), .val (.ref (O k))] [.null])) st3 ?_
        refine OFin.to (T3.setTop (mkF m 74 #[.val (.ref (O i)), .val (.ref (O j)), .val (.int (0 : Int32)), .val .null] [])) (fun _ kt => XS.astoreN X3.here hx rfl (hb hby d2_73) rfl rfl (l' := #[.val (.ref (O i)), .val (.ref (O j)), .val (.int (0 : Int32)), .val .null]) rfl kt) ?_
        refine OFin.to (T3.setTop (mkF m 50 #[.val (.ref (O i)), .val (.ref (O j)), .val (.int (0 : Int32)), .val .null] [])) (fun _ kt => XS.goto X3.here hx rfl (pc0 := 74) (pc' := 50) rfl (hb hby d2_74) (by decide) (by decide) kt) ?_
        exact LN T3 _ X3 e3 (own_nar0.trans hr)
      | some q =>
        rw [hp] at hr
        have hq := own_parlt k q hk hp
        refine OFin.to (T.setTop (mkF m 68 #[.val (.ref (O i)), .val (.ref (O j)), .val (.int (0 : Int32)), .val (.ref (O k))] [(.int (0 : Int32))])) (fun _ kt => XS.iconst X.here hx rfl (hb hby d2_67) kt) ?_
        refine OFin.to (T.setTop (mkF m 69 #[.val (.ref (O i)), .val (.ref (O j)), .val (.int (0 : Int32)), .val (.ref (O k))] [])) (fun _ kt => XS.istoreN X.here hx rfl (hb hby d2_68) rfl (l' := #[.val (.ref (O i)), .val (.ref (O j)), .val (.int (0 : Int32)), .val (.ref (O k))]) rfl kt) ?_
        refine OFin.to (T.setTop (mkF m 70 #[.val (.ref (O i)), .val (.ref (O j)), .val (.int (0 : Int32)), .val (.ref (O k))] [(.ref (O k))])) (fun _ kt => XS.aloadN X.here hx rfl (hb hby d2_69) rfl rfl kt) ?_
        obtain ⟨T4, X4, e4, st4⟩ := getF X hx hZ hown (host := "") (Or.inl (hw _ (List.mem_of_getElem? (i := 17) rfl))) Via.refl eT (show Fld Z h0 (O k) "com/example/stylesheet_engine/stylesheetengine/model/AtomicType" "base" "Lcom/example/stylesheet_engine/stylesheetengine/model/AtomicType;" (.ref (O q)) from by have q := HO.2.2.1 k hk; rw [own_bv, hp] at q; exact q) (g := (mkF m 70 #[.val (.ref (O i)), .val (.ref (O j)), .val (.int (0 : Int32)), .val (.ref (O k))] [(.ref (O k))])) rfl rfl (hb hby d2_70)
        refine OFin.to (T4.setTop (mkF m 73 #[.val (.ref (O i)), .val (.ref (O j)), .val (.int (0 : Int32)), .val (.ref (O k))] [(.ref (O q))])) st4 ?_
        refine OFin.to (T4.setTop (mkF m 74 #[.val (.ref (O i)), .val (.ref (O j)), .val (.int (0 : Int32)), .val (.ref (O q))] [])) (fun _ kt => XS.astoreN X4.here hx rfl (hb hby d2_73) rfl rfl (l' := #[.val (.ref (O i)), .val (.ref (O j)), .val (.int (0 : Int32)), .val (.ref (O q))]) rfl kt) ?_
        refine OFin.to (T4.setTop (mkF m 50 #[.val (.ref (O i)), .val (.ref (O j)), .val (.int (0 : Int32)), .val (.ref (O q))] [])) (fun _ kt => XS.goto X4.here hx rfl (pc0 := 74) (pc' := 50) rfl (hb hby d2_74) (by decide) (by decide) kt) ?_
        exact ih q T4 (by omega) hq.2 X4 e4 hr
  refine OFin.to (s₁.setTop (mkF m 1 #[.val (.ref (O i)), .val (.ref (O j)), .unset, .unset] [(.ref (O j))])) (fun _ kt => XS.aloadN X0.here hx rfl (hb hby d2_0) rfl rfl kt) ?_
  obtain ⟨T5, X5, e5, st5⟩ := getS2 X0 hx hZ hown (host := "") (Or.inl (hw _ (List.mem_of_getElem? (i := 15) rfl))) Via.refl e0 (show Sta Z h0 "com/example/stylesheet_engine/stylesheetengine/model/AtomicType" "NUMERIC" "Lcom/example/stylesheet_engine/stylesheetengine/model/AtomicType;" (.ref (O 1)) from HO.1 1 (by decide)) (g := (mkF m 1 #[.val (.ref (O i)), .val (.ref (O j)), .unset, .unset] [(.ref (O j))])) rfl (hb hby d2_1)
  refine OFin.to (T5.setTop (mkF m 4 #[.val (.ref (O i)), .val (.ref (O j)), .unset, .unset] [(.ref (O 1)), (.ref (O j))])) st5 ?_
  refine OFin.to (T5.setTop (mkF m 46 #[.val (.ref (O i)), .val (.ref (O j)), .unset, .unset] [])) (fun _ kt => Jvm.RoadKit.acmp (g := (mkF m 4 #[.val (.ref (O i)), .val (.ref (O j)), .unset, .unset] [(.ref (O 1)), (.ref (O j))])) X5 hx rfl rfl rfl (pc0 := 4) (pc' := 46) (same := false) rfl (hb hby d2_4) rfl (decide_eq_false fun q => hj1 (HO.2.2.2 j 1 hj (by decide) (Value.ref.inj q))) (by decide) (by decide) kt) ?_
  refine OFin.to (T5.setTop (mkF m 47 #[.val (.ref (O i)), .val (.ref (O j)), .unset, .unset] [(.int (0 : Int32))])) (fun _ kt => XS.iconst X5.here hx rfl (hb hby d2_46) kt) ?_
  refine OFin.to (T5.setTop (mkF m 48 #[.val (.ref (O i)), .val (.ref (O j)), .val (.int (0 : Int32)), .unset] [])) (fun _ kt => XS.istoreN X5.here hx rfl (hb hby d2_47) rfl (l' := #[.val (.ref (O i)), .val (.ref (O j)), .val (.int (0 : Int32)), .unset]) rfl kt) ?_
  refine OFin.to (T5.setTop (mkF m 49 #[.val (.ref (O i)), .val (.ref (O j)), .val (.int (0 : Int32)), .unset] [(.ref (O i))])) (fun _ kt => XS.aloadN X5.here hx rfl (hb hby d2_48) rfl rfl kt) ?_
  refine OFin.to (T5.setTop (mkF m 50 #[.val (.ref (O i)), .val (.ref (O j)), .val (.int (0 : Int32)), .val (.ref (O i))] [])) (fun _ kt => XS.astoreN X5.here hx rfl (hb hby d2_49) rfl rfl (l' := #[.val (.ref (O i)), .val (.ref (O j)), .val (.int (0 : Int32)), .val (.ref (O i))]) rfl kt) ?_
  exact LP 11 i T5 hi hi X5 e5 rfl
/-- is i a number -/
def own_num (i : Nat) : Int32 := if own_up 11 i 9 = 0 ∧ own_up 11 i 8 = 0 ∧ own_up 11 i 6 = 0 then 0 else 1
theorem own_numN (i : Nat) (h0 : own_up 11 i 9 = 0) (h1 : own_up 11 i 8 = 0) (h2 : own_up 11 i 6 = 0) : own_num i = 0 := if_pos ⟨h0, h1, h2⟩
theorem own_numY (i : Nat) (h : ¬ (own_up 11 i 9 = 0 ∧ own_up 11 i 8 = 0 ∧ own_up 11 i 6 = 0)) : own_num i = 1 := if_neg h
set_option maxRecDepth 65536 in
set_option maxHeartbeats 40000000 in
theorem rm2b (l : Launch) (Z : State) (a0 : Array Value) (hw : ∀ d ∈ tables_1, d.before a0 Z = true) (ws : List Jvm.Cond) (i : Nat) (hi : i < 11) (O : Nat → Addr) (h0 : Heap) (HO : OObj Z h0 O) :
    MetFree l (⟨"com/example/stylesheet_engine/stylesheetengine/model/AtomicType", "isSubtypeOf", "(Lcom/example/stylesheet_engine/stylesheetengine/model/AtomicType;)Z"⟩ : MethodName) (head1 (Jvm.Cond.code (⟨"com/example/stylesheet_engine/stylesheetengine/model/AtomicType", "isSubtypeOf", "(Lcom/example/stylesheet_engine/stylesheetengine/model/AtomicType;)Z"⟩ : MethodName) prog_31_method_7_code 4 (some .boolean) :: ws) ({ frames := 1, cells := 0, slots := 0, locals := 15 } : Room)) (fun a_ U => a_ = #[(.ref (O i)), (.ref (O 1))] ∧ Z.Warmed39 U.vm ∧ U.heap = h0) (fun _ _ _ _ _ => True) (fun _ U o_ U' => ∃ v L, o_ = .returned v ∧ OQ (fun v h L => v = some (.int (own_num i)) ∧ h = h0 ∧ L = []) v U'.heap L ∧ FrameEnd U o_ U' L ({ frames := 1, cells := 0, slots := 0, locals := 15 } : Room).cells ({ frames := 1, cells := 0, slots := 0, locals := 15 } : Room).slots) := by
  refine MetFree.of_bodySF (plainFor_of_name pn_2) hisR ?_
  intro p e s m args below meth c s₁ Bd hml0 hP hK
  obtain ⟨rfl, hZ, hh⟩ := hP
  have hx := Bd.exec
  have hby := Bd.bytes
  have hml : c.maxLocals = 4 := hml0
  have hown : s.vm.findClass "com/example/stylesheet_engine/stylesheetengine/model/AtomicType" = some m.cls := findClass_of_methodNamed Bd.named
  have hnm := (name_of_methodNamed Bd.named Bd.method).1
  have hret := Bd.returns
  have hlk : meth.locks = false := Bd.notSynchronized
  have X0 : Stand p l e ({ frames := 1, cells := 0, slots := 0, locals := 15 } : Room) s m #[(.ref (O i)), (.ref (O 1))] below meth c s₁ [] 0 0 := Stand.of_body Bd
  have e0 : s₁.heap = h0 := by rw [← hh, Bd.state]; rfl
  refine OFin.start (Q := fun v h L => v = some (.int (own_num i)) ∧ h = h0 ∧ L = []) (s := s) (fun t kt => castTop (ef_2 m ((O i)) ((O 1))) kt) ?_
  refine OFin.to (s₁.setTop (mkF m 1 #[.val (.ref (O i)), .val (.ref (O 1)), .unset, .unset] [(.ref (O 1))])) (fun _ kt => XS.aloadN X0.here hx rfl (hb hby d2_0) rfl rfl kt) ?_
  obtain ⟨T1, X1, e1, st1⟩ := getS2 X0 hx hZ hown (host := "") (Or.inl (hw _ (List.mem_of_getElem? (i := 15) rfl))) Via.refl e0 (show Sta Z h0 "com/example/stylesheet_engine/stylesheetengine/model/AtomicType" "NUMERIC" "Lcom/example/stylesheet_engine/stylesheetengine/model/AtomicType;" (.ref (O 1)) from HO.1 1 (by decide)) (g := (mkF m 1 #[.val (.ref (O i)), .val (.ref (O 1)), .unset, .unset] [(.ref (O 1))])) rfl (hb hby d2_1)
  refine OFin.to (T1.setTop (mkF m 4 #[.val (.ref (O i)), .val (.ref (O 1)), .unset, .unset] [(.ref (O 1)), (.ref (O 1))])) st1 ?_
  refine OFin.to (T1.setTop (mkF m 7 #[.val (.ref (O i)), .val (.ref (O 1)), .unset, .unset] [])) (fun _ kt => Jvm.RoadKit.acmp (g := (mkF m 4 #[.val (.ref (O i)), .val (.ref (O 1)), .unset, .unset] [(.ref (O 1)), (.ref (O 1))])) X1 hx rfl rfl rfl (pc0 := 4) (pc' := 7) (same := true) rfl (hb hby d2_4) rfl (decide_eq_true rfl) (by decide) (by decide) kt) ?_
  refine OFin.to (T1.setTop (mkF m 8 #[.val (.ref (O i)), .val (.ref (O 1)), .unset, .unset] [(.ref (O i))])) (fun _ kt => XS.aloadN X1.here hx rfl (hb hby d2_7) rfl rfl kt) ?_
  obtain ⟨T2, X2, e2, st2⟩ := getS2 X1 hx hZ hown (host := "") (Or.inl (hw _ (List.mem_of_getElem? (i := 23) rfl))) Via.refl e1 (show Sta Z h0 "com/example/stylesheet_engine/stylesheetengine/model/AtomicType" "DOUBLE" "Lcom/example/stylesheet_engine/stylesheetengine/model/AtomicType;" (.ref (O 9)) from HO.1 9 (by decide)) (g := (mkF m 8 #[.val (.ref (O i)), .val (.ref (O 1)), .unset, .unset] [(.ref (O i))])) rfl (hb hby d2_8)
  refine OFin.to (T2.setTop (mkF m 11 #[.val (.ref (O i)), .val (.ref (O 1)), .unset, .unset] [(.ref (O 9)), (.ref (O i))])) st2 ?_
  obtain ⟨v3, T3, L3, hQ3, X3, st3⟩ := own_callV X2 hx hZ hown (hw _ (List.mem_of_getElem? (i := 25) rfl)) (hw _ (List.mem_of_getElem? (i := 11) rfl)) (hw _ (List.mem_of_getElem? (i := 13) rfl)) (hw _ (List.mem_of_getElem? (i := 12) rfl)) (hw _ (List.mem_of_getElem? (i := 14) rfl)) (hw _ (List.mem_of_getElem? (i := 6) rfl)) (by decide) e2 (HO.2.1 i hi) (rm2a l Z a0 hw [] i 9 hi (by decide) (by decide) O h0 HO) 0 (by decide) (by decide) (by decide) (by decide) (g := (mkF m 11 #[.val (.ref (O i)), .val (.ref (O 1)), .unset, .unset] [(.ref (O 9)), (.ref (O i))])) rfl (by rw [hml]; rfl) (rest := []) (lenOf pd_0 rfl) rfl (by show 2 * 0 + _ ≤ _; exact Nat.le_of_eq rfl) (hb hby d2_11)
  obtain ⟨rfl, e3, rfl⟩ := hQ3
  rw [List.append_nil] at X3
  refine OFin.to (T3.setTop (mkF m 14 #[.val (.ref (O i)), .val (.ref (O 1)), .unset, .unset] [(.int (own_up 11 i 9))])) st3 ?_
  by_cases hc0 : (own_up 11 i 9) = (0 : Int32)
  case neg =>
    refine OFin.to (T3.setTop (mkF m 37 #[.val (.ref (O i)), .val (.ref (O 1)), .unset, .unset] [])) (fun _ kt => XS.ifYes X3.here hx rfl (pc0 := 14) (pc' := 37) rfl (hb hby d2_14) rfl (XT.i0_ne_t hc0) (by decide) (by decide) kt) ?_
    refine OFin.to (T3.setTop (mkF m 38 #[.val (.ref (O i)), .val (.ref (O 1)), .unset, .unset] [(.int (1 : Int32))])) (fun _ kt => XS.iconst X3.here hx rfl (hb hby d2_37) kt) ?_
    refine OFin.to (T3.setTop (mkF m 42 #[.val (.ref (O i)), .val (.ref (O 1)), .unset, .unset] [(.int (1 : Int32))])) (fun _ kt => XS.goto X3.here hx rfl (pc0 := 38) (pc' := 42) rfl (hb hby d2_38) (by decide) (by decide) kt) ?_
    refine OFin.to (T3.setTop (mkF m 43 #[.val (.ref (O i)), .val (.ref (O 1)), .val (.int (1 : Int32)), .unset] [])) (fun _ kt => XS.istoreN X3.here hx rfl (hb hby d2_42) rfl (l' := #[.val (.ref (O i)), .val (.ref (O 1)), .val (.int (1 : Int32)), .unset]) rfl kt) ?_
    refine OFin.to (T3.setTop (mkF m 77 #[.val (.ref (O i)), .val (.ref (O 1)), .val (.int (1 : Int32)), .unset] [])) (fun _ kt => XS.goto X3.here hx rfl (pc0 := 43) (pc' := 77) rfl (hb hby d2_43) (by decide) (by decide) kt) ?_
    refine OFin.to (T3.setTop (mkF m 78 #[.val (.ref (O i)), .val (.ref (O 1)), .val (.int (1 : Int32)), .unset] [(.int (1 : Int32))])) (fun _ kt => XS.iloadN X3.here hx rfl (hb hby d2_77) rfl kt) ?_
    exact OFin.retZ X3 hx (t := .boolean) hret (by simp) hlk (hb hby d2_78) (Nat.zero_le _) (Nat.zero_le _) ⟨by rw [own_nar1, own_numY i (fun q => hc0 q.1)], e3, rfl⟩
  refine OFin.to (T3.setTop (mkF m 17 #[.val (.ref (O i)), .val (.ref (O 1)), .unset, .unset] [])) (fun _ kt => XS.ifNo X3.here hx rfl (hb hby d2_14) rfl (XT.i0_ne_f hc0) kt) ?_
  refine OFin.to (T3.setTop (mkF m 18 #[.val (.ref (O i)), .val (.ref (O 1)), .unset, .unset] [(.ref (O i))])) (fun _ kt => XS.aloadN X3.here hx rfl (hb hby d2_17) rfl rfl kt) ?_
  obtain ⟨T4, X4, e4, st4⟩ := getS2 X3 hx hZ hown (host := "") (Or.inl (hw _ (List.mem_of_getElem? (i := 26) rfl))) Via.refl e3 (show Sta Z h0 "com/example/stylesheet_engine/stylesheetengine/model/AtomicType" "FLOAT" "Lcom/example/stylesheet_engine/stylesheetengine/model/AtomicType;" (.ref (O 8)) from HO.1 8 (by decide)) (g := (mkF m 18 #[.val (.ref (O i)), .val (.ref (O 1)), .unset, .unset] [(.ref (O i))])) rfl (hb hby d2_18)
  refine OFin.to (T4.setTop (mkF m 21 #[.val (.ref (O i)), .val (.ref (O 1)), .unset, .unset] [(.ref (O 8)), (.ref (O i))])) st4 ?_
  obtain ⟨v5, T5, L5, hQ5, X5, st5⟩ := own_callV X4 hx hZ hown (hw _ (List.mem_of_getElem? (i := 25) rfl)) (hw _ (List.mem_of_getElem? (i := 11) rfl)) (hw _ (List.mem_of_getElem? (i := 13) rfl)) (hw _ (List.mem_of_getElem? (i := 12) rfl)) (hw _ (List.mem_of_getElem? (i := 14) rfl)) (hw _ (List.mem_of_getElem? (i := 6) rfl)) (by decide) e4 (HO.2.1 i hi) (rm2a l Z a0 hw [] i 8 hi (by decide) (by decide) O h0 HO) 0 (by decide) (by decide) (by decide) (by decide) (g := (mkF m 21 #[.val (.ref (O i)), .val (.ref (O 1)), .unset, .unset] [(.ref (O 8)), (.ref (O i))])) rfl (by rw [hml]; rfl) (rest := []) (lenOf pd_0 rfl) rfl (by show 2 * 0 + _ ≤ _; exact Nat.le_of_eq rfl) (hb hby d2_21)
  obtain ⟨rfl, e5, rfl⟩ := hQ5
  rw [List.append_nil] at X5
  refine OFin.to (T5.setTop (mkF m 24 #[.val (.ref (O i)), .val (.ref (O 1)), .unset, .unset] [(.int (own_up 11 i 8))])) st5 ?_
  by_cases hc1 : (own_up 11 i 8) = (0 : Int32)
  case neg =>
    refine OFin.to (T5.setTop (mkF m 37 #[.val (.ref (O i)), .val (.ref (O 1)), .unset, .unset] [])) (fun _ kt => XS.ifYes X5.here hx rfl (pc0 := 24) (pc' := 37) rfl (hb hby d2_24) rfl (XT.i0_ne_t hc1) (by decide) (by decide) kt) ?_
    refine OFin.to (T5.setTop (mkF m 38 #[.val (.ref (O i)), .val (.ref (O 1)), .unset, .unset] [(.int (1 : Int32))])) (fun _ kt => XS.iconst X5.here hx rfl (hb hby d2_37) kt) ?_
    refine OFin.to (T5.setTop (mkF m 42 #[.val (.ref (O i)), .val (.ref (O 1)), .unset, .unset] [(.int (1 : Int32))])) (fun _ kt => XS.goto X5.here hx rfl (pc0 := 38) (pc' := 42) rfl (hb hby d2_38) (by decide) (by decide) kt) ?_
    refine OFin.to (T5.setTop (mkF m 43 #[.val (.ref (O i)), .val (.ref (O 1)), .val (.int (1 : Int32)), .unset] [])) (fun _ kt => XS.istoreN X5.here hx rfl (hb hby d2_42) rfl (l' := #[.val (.ref (O i)), .val (.ref (O 1)), .val (.int (1 : Int32)), .unset]) rfl kt) ?_
    refine OFin.to (T5.setTop (mkF m 77 #[.val (.ref (O i)), .val (.ref (O 1)), .val (.int (1 : Int32)), .unset] [])) (fun _ kt => XS.goto X5.here hx rfl (pc0 := 43) (pc' := 77) rfl (hb hby d2_43) (by decide) (by decide) kt) ?_
    refine OFin.to (T5.setTop (mkF m 78 #[.val (.ref (O i)), .val (.ref (O 1)), .val (.int (1 : Int32)), .unset] [(.int (1 : Int32))])) (fun _ kt => XS.iloadN X5.here hx rfl (hb hby d2_77) rfl kt) ?_
    exact OFin.retZ X5 hx (t := .boolean) hret (by simp) hlk (hb hby d2_78) (Nat.zero_le _) (Nat.zero_le _) ⟨by rw [own_nar1, own_numY i (fun q => hc1 q.2.1)], e5, rfl⟩
  refine OFin.to (T5.setTop (mkF m 27 #[.val (.ref (O i)), .val (.ref (O 1)), .unset, .unset] [])) (fun _ kt => XS.ifNo X5.here hx rfl (hb hby d2_24) rfl (XT.i0_ne_f hc1) kt) ?_
  refine OFin.to (T5.setTop (mkF m 28 #[.val (.ref (O i)), .val (.ref (O 1)), .unset, .unset] [(.ref (O i))])) (fun _ kt => XS.aloadN X5.here hx rfl (hb hby d2_27) rfl rfl kt) ?_
  obtain ⟨T6, X6, e6, st6⟩ := getS2 X5 hx hZ hown (host := "") (Or.inl (hw _ (List.mem_of_getElem? (i := 28) rfl))) Via.refl e5 (show Sta Z h0 "com/example/stylesheet_engine/stylesheetengine/model/AtomicType" "DECIMAL" "Lcom/example/stylesheet_engine/stylesheetengine/model/AtomicType;" (.ref (O 6)) from HO.1 6 (by decide)) (g := (mkF m 28 #[.val (.ref (O i)), .val (.ref (O 1)), .unset, .unset] [(.ref (O i))])) rfl (hb hby d2_28)
  refine OFin.to (T6.setTop (mkF m 31 #[.val (.ref (O i)), .val (.ref (O 1)), .unset, .unset] [(.ref (O 6)), (.ref (O i))])) st6 ?_
  obtain ⟨v7, T7, L7, hQ7, X7, st7⟩ := own_callV X6 hx hZ hown (hw _ (List.mem_of_getElem? (i := 25) rfl)) (hw _ (List.mem_of_getElem? (i := 11) rfl)) (hw _ (List.mem_of_getElem? (i := 13) rfl)) (hw _ (List.mem_of_getElem? (i := 12) rfl)) (hw _ (List.mem_of_getElem? (i := 14) rfl)) (hw _ (List.mem_of_getElem? (i := 6) rfl)) (by decide) e6 (HO.2.1 i hi) (rm2a l Z a0 hw [] i 6 hi (by decide) (by decide) O h0 HO) 0 (by decide) (by decide) (by decide) (by decide) (g := (mkF m 31 #[.val (.ref (O i)), .val (.ref (O 1)), .unset, .unset] [(.ref (O 6)), (.ref (O i))])) rfl (by rw [hml]; rfl) (rest := []) (lenOf pd_0 rfl) rfl (by show 2 * 0 + _ ≤ _; exact Nat.le_of_eq rfl) (hb hby d2_31)
  obtain ⟨rfl, e7, rfl⟩ := hQ7
  rw [List.append_nil] at X7
  refine OFin.to (T7.setTop (mkF m 34 #[.val (.ref (O i)), .val (.ref (O 1)), .unset, .unset] [(.int (own_up 11 i 6))])) st7 ?_
  by_cases hc2 : (own_up 11 i 6) = (0 : Int32)
  case neg =>
    refine OFin.to (T7.setTop (mkF m 37 #[.val (.ref (O i)), .val (.ref (O 1)), .unset, .unset] [])) (fun _ kt => XS.ifNo X7.here hx rfl (hb hby d2_34) rfl (XT.i0_eq_f hc2) kt) ?_
    refine OFin.to (T7.setTop (mkF m 38 #[.val (.ref (O i)), .val (.ref (O 1)), .unset, .unset] [(.int (1 : Int32))])) (fun _ kt => XS.iconst X7.here hx rfl (hb hby d2_37) kt) ?_
    refine OFin.to (T7.setTop (mkF m 42 #[.val (.ref (O i)), .val (.ref (O 1)), .unset, .unset] [(.int (1 : Int32))])) (fun _ kt => XS.goto X7.here hx rfl (pc0 := 38) (pc' := 42) rfl (hb hby d2_38) (by decide) (by decide) kt) ?_
    refine OFin.to (T7.setTop (mkF m 43 #[.val (.ref (O i)), .val (.ref (O 1)), .val (.int (1 : Int32)), .unset] [])) (fun _ kt => XS.istoreN X7.here hx rfl (hb hby d2_42) rfl (l' := #[.val (.ref (O i)), .val (.ref (O 1)), .val (.int (1 : Int32)), .unset]) rfl kt) ?_
    refine OFin.to (T7.setTop (mkF m 77 #[.val (.ref (O i)), .val (.ref (O 1)), .val (.int (1 : Int32)), .unset] [])) (fun _ kt => XS.goto X7.here hx rfl (pc0 := 43) (pc' := 77) rfl (hb hby d2_43) (by decide) (by decide) kt) ?_
    refine OFin.to (T7.setTop (mkF m 78 #[.val (.ref (O i)), .val (.ref (O 1)), .val (.int (1 : Int32)), .unset] [(.int (1 : Int32))])) (fun _ kt => XS.iloadN X7.here hx rfl (hb hby d2_77) rfl kt) ?_
    exact OFin.retZ X7 hx (t := .boolean) hret (by simp) hlk (hb hby d2_78) (Nat.zero_le _) (Nat.zero_le _) ⟨by rw [own_nar1, own_numY i (fun q => hc2 q.2.2)], e7, rfl⟩
  refine OFin.to (T7.setTop (mkF m 41 #[.val (.ref (O i)), .val (.ref (O 1)), .unset, .unset] [])) (fun _ kt => XS.ifYes X7.here hx rfl (pc0 := 34) (pc' := 41) rfl (hb hby d2_34) rfl (XT.i0_eq_t hc2) (by decide) (by decide) kt) ?_
  refine OFin.to (T7.setTop (mkF m 42 #[.val (.ref (O i)), .val (.ref (O 1)), .unset, .unset] [(.int (0 : Int32))])) (fun _ kt => XS.iconst X7.here hx rfl (hb hby d2_41) kt) ?_
  refine OFin.to (T7.setTop (mkF m 43 #[.val (.ref (O i)), .val (.ref (O 1)), .val (.int (0 : Int32)), .unset] [])) (fun _ kt => XS.istoreN X7.here hx rfl (hb hby d2_42) rfl (l' := #[.val (.ref (O i)), .val (.ref (O 1)), .val (.int (0 : Int32)), .unset]) rfl kt) ?_
  refine OFin.to (T7.setTop (mkF m 77 #[.val (.ref (O i)), .val (.ref (O 1)), .val (.int (0 : Int32)), .unset] [])) (fun _ kt => XS.goto X7.here hx rfl (pc0 := 43) (pc' := 77) rfl (hb hby d2_43) (by decide) (by decide) kt) ?_
  refine OFin.to (T7.setTop (mkF m 78 #[.val (.ref (O i)), .val (.ref (O 1)), .val (.int (0 : Int32)), .unset] [(.int (0 : Int32))])) (fun _ kt => XS.iloadN X7.here hx rfl (hb hby d2_77) rfl kt) ?_
  exact OFin.retZ X7 hx (t := .boolean) hret (by simp) hlk (hb hby d2_78) (Nat.zero_le _) (Nat.zero_le _) ⟨by rw [own_nar0, own_numN i hc0 hc1 hc2], e7, rfl⟩
theorem d3_0 : decode method_3_code 0 = .ok (.iload_n 1, 1) := by decide +kernel
theorem d3_1 : decode method_3_code 1 = .ok (.ifCond .ne 5, 3) := by decide +kernel
theorem d3_4 : decode method_3_code 4 = .ok (.iconst 1, 1) := by decide +kernel
theorem d3_5 : decode method_3_code 5 = .ok (.ireturn, 1) := by decide +kernel
theorem d3_6 : decode method_3_code 6 = .ok (.iload_n 1, 1) := by decide +kernel
theorem d3_7 : decode method_3_code 7 = .ok (.iconst 1, 1) := by decide +kernel
theorem d3_8 : decode method_3_code 8 = .ok (.if_icmp .ne 33, 3) := by decide +kernel
theorem d3_11 : decode method_3_code 11 = .ok (.iload_n 0, 1) := by decide +kernel
theorem d3_12 : decode method_3_code 12 = .ok (.bipush 6, 2) := by decide +kernel
theorem d3_14 : decode method_3_code 14 = .ok (.if_icmp .eq 21, 3) := by decide +kernel
theorem d3_17 : decode method_3_code 17 = .ok (.iload_n 0, 1) := by decide +kernel
theorem d3_18 : decode method_3_code 18 = .ok (.bipush 7, 2) := by decide +kernel
theorem d3_20 : decode method_3_code 20 = .ok (.if_icmp .eq 15, 3) := by decide +kernel
theorem d3_23 : decode method_3_code 23 = .ok (.iload_n 0, 1) := by decide +kernel
theorem d3_24 : decode method_3_code 24 = .ok (.bipush 8, 2) := by decide +kernel
theorem d3_26 : decode method_3_code 26 = .ok (.if_icmp .eq 9, 3) := by decide +kernel
theorem d3_29 : decode method_3_code 29 = .ok (.iload_n 0, 1) := by decide +kernel
theorem d3_30 : decode method_3_code 30 = .ok (.bipush 9, 2) := by decide +kernel
theorem d3_32 : decode method_3_code 32 = .ok (.if_icmp .ne 7, 3) := by decide +kernel
theorem d3_35 : decode method_3_code 35 = .ok (.iconst 1, 1) := by decide +kernel
theorem d3_36 : decode method_3_code 36 = .ok (.goto 4, 3) := by decide +kernel
theorem d3_39 : decode method_3_code 39 = .ok (.iconst 0, 1) := by decide +kernel
theorem d3_40 : decode method_3_code 40 = .ok (.ireturn, 1) := by decide +kernel
theorem d3_41 : decode method_3_code 41 = .ok (.iload_n 1, 1) := by decide +kernel
theorem d3_42 : decode method_3_code 42 = .ok (.bipush 6, 2) := by decide +kernel
theorem d3_44 : decode method_3_code 44 = .ok (.if_icmp .ne 21, 3) := by decide +kernel
theorem d3_47 : decode method_3_code 47 = .ok (.iload_n 0, 1) := by decide +kernel
theorem d3_48 : decode method_3_code 48 = .ok (.bipush 6, 2) := by decide +kernel
theorem d3_50 : decode method_3_code 50 = .ok (.if_icmp .eq 9, 3) := by decide +kernel
theorem d3_53 : decode method_3_code 53 = .ok (.iload_n 0, 1) := by decide +kernel
theorem d3_54 : decode method_3_code 54 = .ok (.bipush 7, 2) := by decide +kernel
theorem d3_56 : decode method_3_code 56 = .ok (.if_icmp .ne 7, 3) := by decide +kernel
theorem d3_59 : decode method_3_code 59 = .ok (.iconst 1, 1) := by decide +kernel
theorem d3_60 : decode method_3_code 60 = .ok (.goto 4, 3) := by decide +kernel
theorem d3_63 : decode method_3_code 63 = .ok (.iconst 0, 1) := by decide +kernel
theorem d3_64 : decode method_3_code 64 = .ok (.ireturn, 1) := by decide +kernel
theorem d3_65 : decode method_3_code 65 = .ok (.iload_n 0, 1) := by decide +kernel
theorem d3_66 : decode method_3_code 66 = .ok (.iload_n 1, 1) := by decide +kernel
theorem d3_67 : decode method_3_code 67 = .ok (.if_icmp .ne 7, 3) := by decide +kernel
theorem d3_70 : decode method_3_code 70 = .ok (.iconst 1, 1) := by decide +kernel
theorem d3_71 : decode method_3_code 71 = .ok (.goto 4, 3) := by decide +kernel
theorem d3_74 : decode method_3_code 74 = .ok (.iconst 0, 1) := by decide +kernel
theorem d3_75 : decode method_3_code 75 = .ok (.ireturn, 1) := by decide +kernel
def f3_75 (i0 : Int32) (i1 : Int32) (t0 : Int32) : Int32 := (nar .boolean t0)
def f3_64 (i0 : Int32) (i1 : Int32) (t0 : Int32) : Int32 := (nar .boolean t0)
def f3_59 (i0 : Int32) (i1 : Int32) : Int32 := (f3_64 i0 i1 (1 : Int32))
def f3_40 (i0 : Int32) (i1 : Int32) (t0 : Int32) : Int32 := (nar .boolean t0)
def f3_35 (i0 : Int32) (i1 : Int32) : Int32 := (f3_40 i0 i1 (1 : Int32))
def f3_0 (p0 : Int32) (p1 : Int32) : Int32 := (if p1 = (0 : Int32) then (1 : Int32) else (if p1 = (1 : Int32) then (if p0 = (6 : Int32) then (f3_35 p0 p1) else (if p0 = (7 : Int32) then (f3_35 p0 p1) else (if p0 = (8 : Int32) then (f3_35 p0 p1) else (if p0 = (9 : Int32) then (f3_35 p0 p1) else (f3_40 p0 p1 (0 : Int32)))))) else (if p1 = (6 : Int32) then (if p0 = (6 : Int32) then (f3_59 p0 p1) else (if p0 = (7 : Int32) then (f3_59 p0 p1) else (f3_64 p0 p1 (0 : Int32)))) else (if p0 = p1 then (f3_75 p0 p1 (1 : Int32)) else (f3_75 p0 p1 (0 : Int32))))))
set_option maxRecDepth 65536 in
set_option maxHeartbeats 40000000 in
theorem ro3_0 {p : Program} {l : Launch} {e : Env} {s : State} {m : MethodId} {args : Array Value} {below : List Frame} {meth : Method} {c : Code} {T : State} {locs : List Loc} {cells slots : Nat} {Z : State} {a0 : Array Value} {h : Heap} {ce sl : Nat} {Q : Option Value → Heap → List Loc → Prop} (p0 : Int32) (p1 : Int32)
    (X : Stand p l e ({ frames := 0, cells := 0, slots := 0, locals := 0 } : Room) s m args below meth c T locs cells slots) (hx : p.tables.exec = Jvm.exec) (hZ : Z.Warmed39 s.vm) (hw : ∀ d ∈ tables_1, d.before a0 Z = true) (hby : c.code = method_3_code) (hml : c.maxLocals = 2) (hown : s.vm.findClass "com/example/stylesheet_engine/stylesheetengine/model/AtomicTypeIsSubtypeOfPinLaw" = some m.cls) (hret : meth.sig.returnType = some .boolean) (hlk : meth.locks = false) (eT : T.heap = h) (hc : cells ≤ ce) (hs : slots ≤ sl) (hcR : cells ≤ (({ frames := 0, cells := 0, slots := 0, locals := 0 } : Room)).cells) (hsR : slots ≤ (({ frames := 0, cells := 0, slots := 0, locals := 0 } : Room)).slots)
    (hQ : Q (some (.int (f3_0 p0 p1))) h locs) : OFin p e below s ce sl Q (T.setTop (mkF m 0 #[.val (.int p0), .val (.int p1)] [])) := by
  obtain ⟨r, hr0⟩ : ∃ r, f3_0 p0 p1 = r := ⟨_, rfl⟩
  rw [hr0] at hQ
  have B75 : ∀ (T : State) (i0 : Int32) (i1 : Int32) (t0 : Int32), Stand p l e ({ frames := 0, cells := 0, slots := 0, locals := 0 } : Room) s m args below meth c T locs cells slots → T.heap = h → f3_75 i0 i1 t0 = r → OFin p e below s ce sl Q (T.setTop (mkF m 75 #[.val (.int i0), .val (.int i1)] [(.int t0)])) := by
    intro T i0 i1 t0 X eT hr
    exact OFin.retZ X hx (t := .boolean) hret (by simp) hlk (hb hby d3_75) hc hs (own_q (hr) eT hQ)
  have B64 : ∀ (T : State) (i0 : Int32) (i1 : Int32) (t0 : Int32), Stand p l e ({ frames := 0, cells := 0, slots := 0, locals := 0 } : Room) s m args below meth c T locs cells slots → T.heap = h → f3_64 i0 i1 t0 = r → OFin p e below s ce sl Q (T.setTop (mkF m 64 #[.val (.int i0), .val (.int i1)] [(.int t0)])) := by
    intro T i0 i1 t0 X eT hr
    exact OFin.retZ X hx (t := .boolean) hret (by simp) hlk (hb hby d3_64) hc hs (own_q (hr) eT hQ)
  have B59 : ∀ (T : State) (i0 : Int32) (i1 : Int32), Stand p l e ({ frames := 0, cells := 0, slots := 0, locals := 0 } : Room) s m args below meth c T locs cells slots → T.heap = h → f3_59 i0 i1 = r → OFin p e below s ce sl Q (T.setTop (mkF m 59 #[.val (.int i0), .val (.int i1)] [])) := by
    intro T i0 i1 X eT hr
    refine OFin.to (T.setTop (mkF m 60 #[.val (.int i0), .val (.int i1)] [(.int (1 : Int32))])) (fun _ kt => XS.iconst X.here hx rfl (hb hby d3_59) kt) ?_
    refine OFin.to (T.setTop (mkF m 64 #[.val (.int i0), .val (.int i1)] [(.int (1 : Int32))])) (fun _ kt => XS.goto X.here hx rfl (pc0 := 60) (pc' := 64) rfl (hb hby d3_60) (by decide) (by decide) kt) ?_
    exact B64 T i0 i1 (1 : Int32) X eT hr
  have B40 : ∀ (T : State) (i0 : Int32) (i1 : Int32) (t0 : Int32), Stand p l e ({ frames := 0, cells := 0, slots := 0, locals := 0 } : Room) s m args below meth c T locs cells slots → T.heap = h → f3_40 i0 i1 t0 = r → OFin p e below s ce sl Q (T.setTop (mkF m 40 #[.val (.int i0), .val (.int i1)] [(.int t0)])) := by
    intro T i0 i1 t0 X eT hr
    exact OFin.retZ X hx (t := .boolean) hret (by simp) hlk (hb hby d3_40) hc hs (own_q (hr) eT hQ)
  have B35 : ∀ (T : State) (i0 : Int32) (i1 : Int32), Stand p l e ({ frames := 0, cells := 0, slots := 0, locals := 0 } : Room) s m args below meth c T locs cells slots → T.heap = h → f3_35 i0 i1 = r → OFin p e below s ce sl Q (T.setTop (mkF m 35 #[.val (.int i0), .val (.int i1)] [])) := by
    intro T i0 i1 X eT hr
    refine OFin.to (T.setTop (mkF m 36 #[.val (.int i0), .val (.int i1)] [(.int (1 : Int32))])) (fun _ kt => XS.iconst X.here hx rfl (hb hby d3_35) kt) ?_
    refine OFin.to (T.setTop (mkF m 40 #[.val (.int i0), .val (.int i1)] [(.int (1 : Int32))])) (fun _ kt => XS.goto X.here hx rfl (pc0 := 36) (pc' := 40) rfl (hb hby d3_36) (by decide) (by decide) kt) ?_
    exact B40 T i0 i1 (1 : Int32) X eT hr
  have B0 : ∀ (T : State) , Stand p l e ({ frames := 0, cells := 0, slots := 0, locals := 0 } : Room) s m args below meth c T locs cells slots → T.heap = h → f3_0 p0 p1 = r → OFin p e below s ce sl Q (T.setTop (mkF m 0 #[.val (.int p0), .val (.int p1)] [])) := by
    intro T  X eT hr
    refine OFin.to (T.setTop (mkF m 1 #[.val (.int p0), .val (.int p1)] [(.int p1)])) (fun _ kt => XS.iloadN X.here hx rfl (hb hby d3_0) rfl kt) ?_
    by_cases hc1 : p1 = (0 : Int32)
    · have hr := (if_pos hc1).symm.trans hr
      refine OFin.to (T.setTop (mkF m 4 #[.val (.int p0), .val (.int p1)] [])) (fun _ kt => XS.ifNo X.here hx rfl (hb hby d3_1) rfl (XT.i0_ne_f hc1) kt) ?_
      refine OFin.to (T.setTop (mkF m 5 #[.val (.int p0), .val (.int p1)] [(.int (1 : Int32))])) (fun _ kt => XS.iconst X.here hx rfl (hb hby d3_4) kt) ?_
      exact OFin.retZ X hx (t := .boolean) hret (by simp) hlk (hb hby d3_5) hc hs (own_q (own_nar1.trans hr) eT hQ)
    · have hr := (if_neg hc1).symm.trans hr
      refine OFin.to (T.setTop (mkF m 6 #[.val (.int p0), .val (.int p1)] [])) (fun _ kt => XS.ifYes X.here hx rfl (pc0 := 1) (pc' := 6) rfl (hb hby d3_1) rfl (XT.i0_ne_t hc1) (by decide) (by decide) kt) ?_
      refine OFin.to (T.setTop (mkF m 7 #[.val (.int p0), .val (.int p1)] [(.int p1)])) (fun _ kt => XS.iloadN X.here hx rfl (hb hby d3_6) rfl kt) ?_
      refine OFin.to (T.setTop (mkF m 8 #[.val (.int p0), .val (.int p1)] [(.int (1 : Int32)), (.int p1)])) (fun _ kt => XS.iconst X.here hx rfl (hb hby d3_7) kt) ?_
      by_cases hc8 : p1 = (1 : Int32)
      · have hr := (if_pos hc8).symm.trans hr
        refine OFin.to (T.setTop (mkF m 11 #[.val (.int p0), .val (.int p1)] [])) (fun _ kt => XS.icmpNo X.here hx rfl (hb hby d3_8) rfl (XT.ii_ne_f hc8) kt) ?_
        refine OFin.to (T.setTop (mkF m 12 #[.val (.int p0), .val (.int p1)] [(.int p0)])) (fun _ kt => XS.iloadN X.here hx rfl (hb hby d3_11) rfl kt) ?_
        refine OFin.to (T.setTop (mkF m 14 #[.val (.int p0), .val (.int p1)] [(.int (6 : Int32)), (.int p0)])) (fun _ kt => XS.bipush X.here hx rfl (hb hby d3_12) kt) ?_
        by_cases hc14 : p0 = (6 : Int32)
        · have hr := (if_pos hc14).symm.trans hr
          refine OFin.to (T.setTop (mkF m 35 #[.val (.int p0), .val (.int p1)] [])) (fun _ kt => XS.icmpYes X.here hx rfl (pc0 := 14) (pc' := 35) rfl (hb hby d3_14) rfl (XT.ii_eq_t hc14) (by decide) (by decide) kt) ?_
          exact B35 T p0 p1 X eT hr
        · have hr := (if_neg hc14).symm.trans hr
          refine OFin.to (T.setTop (mkF m 17 #[.val (.int p0), .val (.int p1)] [])) (fun _ kt => XS.icmpNo X.here hx rfl (hb hby d3_14) rfl (XT.ii_eq_f hc14) kt) ?_
          refine OFin.to (T.setTop (mkF m 18 #[.val (.int p0), .val (.int p1)] [(.int p0)])) (fun _ kt => XS.iloadN X.here hx rfl (hb hby d3_17) rfl kt) ?_
          refine OFin.to (T.setTop (mkF m 20 #[.val (.int p0), .val (.int p1)] [(.int (7 : Int32)), (.int p0)])) (fun _ kt => XS.bipush X.here hx rfl (hb hby d3_18) kt) ?_
          by_cases hc20 : p0 = (7 : Int32)
          · have hr := (if_pos hc20).symm.trans hr
            refine OFin.to (T.setTop (mkF m 35 #[.val (.int p0), .val (.int p1)] [])) (fun _ kt => XS.icmpYes X.here hx rfl (pc0 := 20) (pc' := 35) rfl (hb hby d3_20) rfl (XT.ii_eq_t hc20) (by decide) (by decide) kt) ?_
            exact B35 T p0 p1 X eT hr
          · have hr := (if_neg hc20).symm.trans hr
            refine OFin.to (T.setTop (mkF m 23 #[.val (.int p0), .val (.int p1)] [])) (fun _ kt => XS.icmpNo X.here hx rfl (hb hby d3_20) rfl (XT.ii_eq_f hc20) kt) ?_
            refine OFin.to (T.setTop (mkF m 24 #[.val (.int p0), .val (.int p1)] [(.int p0)])) (fun _ kt => XS.iloadN X.here hx rfl (hb hby d3_23) rfl kt) ?_
            refine OFin.to (T.setTop (mkF m 26 #[.val (.int p0), .val (.int p1)] [(.int (8 : Int32)), (.int p0)])) (fun _ kt => XS.bipush X.here hx rfl (hb hby d3_24) kt) ?_
            by_cases hc26 : p0 = (8 : Int32)
            · have hr := (if_pos hc26).symm.trans hr
              refine OFin.to (T.setTop (mkF m 35 #[.val (.int p0), .val (.int p1)] [])) (fun _ kt => XS.icmpYes X.here hx rfl (pc0 := 26) (pc' := 35) rfl (hb hby d3_26) rfl (XT.ii_eq_t hc26) (by decide) (by decide) kt) ?_
              exact B35 T p0 p1 X eT hr
            · have hr := (if_neg hc26).symm.trans hr
              refine OFin.to (T.setTop (mkF m 29 #[.val (.int p0), .val (.int p1)] [])) (fun _ kt => XS.icmpNo X.here hx rfl (hb hby d3_26) rfl (XT.ii_eq_f hc26) kt) ?_
              refine OFin.to (T.setTop (mkF m 30 #[.val (.int p0), .val (.int p1)] [(.int p0)])) (fun _ kt => XS.iloadN X.here hx rfl (hb hby d3_29) rfl kt) ?_
              refine OFin.to (T.setTop (mkF m 32 #[.val (.int p0), .val (.int p1)] [(.int (9 : Int32)), (.int p0)])) (fun _ kt => XS.bipush X.here hx rfl (hb hby d3_30) kt) ?_
              by_cases hc32 : p0 = (9 : Int32)
              · have hr := (if_pos hc32).symm.trans hr
                refine OFin.to (T.setTop (mkF m 35 #[.val (.int p0), .val (.int p1)] [])) (fun _ kt => XS.icmpNo X.here hx rfl (hb hby d3_32) rfl (XT.ii_ne_f hc32) kt) ?_
                exact B35 T p0 p1 X eT hr
              · have hr := (if_neg hc32).symm.trans hr
                refine OFin.to (T.setTop (mkF m 39 #[.val (.int p0), .val (.int p1)] [])) (fun _ kt => XS.icmpYes X.here hx rfl (pc0 := 32) (pc' := 39) rfl (hb hby d3_32) rfl (XT.ii_ne_t hc32) (by decide) (by decide) kt) ?_
                refine OFin.to (T.setTop (mkF m 40 #[.val (.int p0), .val (.int p1)] [(.int (0 : Int32))])) (fun _ kt => XS.iconst X.here hx rfl (hb hby d3_39) kt) ?_
                exact B40 T p0 p1 (0 : Int32) X eT hr
      · have hr := (if_neg hc8).symm.trans hr
        refine OFin.to (T.setTop (mkF m 41 #[.val (.int p0), .val (.int p1)] [])) (fun _ kt => XS.icmpYes X.here hx rfl (pc0 := 8) (pc' := 41) rfl (hb hby d3_8) rfl (XT.ii_ne_t hc8) (by decide) (by decide) kt) ?_
        refine OFin.to (T.setTop (mkF m 42 #[.val (.int p0), .val (.int p1)] [(.int p1)])) (fun _ kt => XS.iloadN X.here hx rfl (hb hby d3_41) rfl kt) ?_
        refine OFin.to (T.setTop (mkF m 44 #[.val (.int p0), .val (.int p1)] [(.int (6 : Int32)), (.int p1)])) (fun _ kt => XS.bipush X.here hx rfl (hb hby d3_42) kt) ?_
        by_cases hc44 : p1 = (6 : Int32)
        · have hr := (if_pos hc44).symm.trans hr
          refine OFin.to (T.setTop (mkF m 47 #[.val (.int p0), .val (.int p1)] [])) (fun _ kt => XS.icmpNo X.here hx rfl (hb hby d3_44) rfl (XT.ii_ne_f hc44) kt) ?_
          refine OFin.to (T.setTop (mkF m 48 #[.val (.int p0), .val (.int p1)] [(.int p0)])) (fun _ kt => XS.iloadN X.here hx rfl (hb hby d3_47) rfl kt) ?_
          refine OFin.to (T.setTop (mkF m 50 #[.val (.int p0), .val (.int p1)] [(.int (6 : Int32)), (.int p0)])) (fun _ kt => XS.bipush X.here hx rfl (hb hby d3_48) kt) ?_
          by_cases hc50 : p0 = (6 : Int32)
          · have hr := (if_pos hc50).symm.trans hr
            refine OFin.to (T.setTop (mkF m 59 #[.val (.int p0), .val (.int p1)] [])) (fun _ kt => XS.icmpYes X.here hx rfl (pc0 := 50) (pc' := 59) rfl (hb hby d3_50) rfl (XT.ii_eq_t hc50) (by decide) (by decide) kt) ?_
            exact B59 T p0 p1 X eT hr
          · have hr := (if_neg hc50).symm.trans hr
            refine OFin.to (T.setTop (mkF m 53 #[.val (.int p0), .val (.int p1)] [])) (fun _ kt => XS.icmpNo X.here hx rfl (hb hby d3_50) rfl (XT.ii_eq_f hc50) kt) ?_
            refine OFin.to (T.setTop (mkF m 54 #[.val (.int p0), .val (.int p1)] [(.int p0)])) (fun _ kt => XS.iloadN X.here hx rfl (hb hby d3_53) rfl kt) ?_
            refine OFin.to (T.setTop (mkF m 56 #[.val (.int p0), .val (.int p1)] [(.int (7 : Int32)), (.int p0)])) (fun _ kt => XS.bipush X.here hx rfl (hb hby d3_54) kt) ?_
            by_cases hc56 : p0 = (7 : Int32)
            · have hr := (if_pos hc56).symm.trans hr
              refine OFin.to (T.setTop (mkF m 59 #[.val (.int p0), .val (.int p1)] [])) (fun _ kt => XS.icmpNo X.here hx rfl (hb hby d3_56) rfl (XT.ii_ne_f hc56) kt) ?_
              exact B59 T p0 p1 X eT hr
            · have hr := (if_neg hc56).symm.trans hr
              refine OFin.to (T.setTop (mkF m 63 #[.val (.int p0), .val (.int p1)] [])) (fun _ kt => XS.icmpYes X.here hx rfl (pc0 := 56) (pc' := 63) rfl (hb hby d3_56) rfl (XT.ii_ne_t hc56) (by decide) (by decide) kt) ?_
              refine OFin.to (T.setTop (mkF m 64 #[.val (.int p0), .val (.int p1)] [(.int (0 : Int32))])) (fun _ kt => XS.iconst X.here hx rfl (hb hby d3_63) kt) ?_
              exact B64 T p0 p1 (0 : Int32) X eT hr
        · have hr := (if_neg hc44).symm.trans hr
          refine OFin.to (T.setTop (mkF m 65 #[.val (.int p0), .val (.int p1)] [])) (fun _ kt => XS.icmpYes X.here hx rfl (pc0 := 44) (pc' := 65) rfl (hb hby d3_44) rfl (XT.ii_ne_t hc44) (by decide) (by decide) kt) ?_
          refine OFin.to (T.setTop (mkF m 66 #[.val (.int p0), .val (.int p1)] [(.int p0)])) (fun _ kt => XS.iloadN X.here hx rfl (hb hby d3_65) rfl kt) ?_
          refine OFin.to (T.setTop (mkF m 67 #[.val (.int p0), .val (.int p1)] [(.int p1), (.int p0)])) (fun _ kt => XS.iloadN X.here hx rfl (hb hby d3_66) rfl kt) ?_
          by_cases hc67 : p0 = p1
          · have hr := (if_pos hc67).symm.trans hr
            refine OFin.to (T.setTop (mkF m 70 #[.val (.int p0), .val (.int p1)] [])) (fun _ kt => XS.icmpNo X.here hx rfl (hb hby d3_67) rfl (XT.ii_ne_f hc67) kt) ?_
            refine OFin.to (T.setTop (mkF m 71 #[.val (.int p0), .val (.int p1)] [(.int (1 : Int32))])) (fun _ kt => XS.iconst X.here hx rfl (hb hby d3_70) kt) ?_
            refine OFin.to (T.setTop (mkF m 75 #[.val (.int p0), .val (.int p1)] [(.int (1 : Int32))])) (fun _ kt => XS.goto X.here hx rfl (pc0 := 71) (pc' := 75) rfl (hb hby d3_71) (by decide) (by decide) kt) ?_
            exact B75 T p0 p1 (1 : Int32) X eT hr
          · have hr := (if_neg hc67).symm.trans hr
            refine OFin.to (T.setTop (mkF m 74 #[.val (.int p0), .val (.int p1)] [])) (fun _ kt => XS.icmpYes X.here hx rfl (pc0 := 67) (pc' := 74) rfl (hb hby d3_67) rfl (XT.ii_ne_t hc67) (by decide) (by decide) kt) ?_
            refine OFin.to (T.setTop (mkF m 75 #[.val (.int p0), .val (.int p1)] [(.int (0 : Int32))])) (fun _ kt => XS.iconst X.here hx rfl (hb hby d3_74) kt) ?_
            exact B75 T p0 p1 (0 : Int32) X eT hr
  exact B0 T X eT hr0
theorem pn_3 : plainName "com/example/stylesheet_engine/stylesheetengine/model/AtomicTypeIsSubtypeOfPinLaw" = true := by first | (simp [plainName, overriddenIn]; done) | decide +kernel
theorem ef_3 (m : MethodId) (p0 : Int32) (p1 : Int32) : entryFrame m #[(.int p0), (.int p1)] 2 = mkF m 0 #[.val (.int p0), .val (.int p1)] [] := by first | (simp [entryFrame, mkF, argsToLocals, Value.category]; done) | rfl
set_option maxRecDepth 65536 in
set_option maxHeartbeats 40000000 in
theorem rm3 (l : Launch) (Z : State) (a0 : Array Value) (hw : ∀ d ∈ tables_1, d.before a0 Z = true) (ws : List Jvm.Cond) (p0 : Int32) (p1 : Int32) (h0 : Heap) :
    MetFree l (⟨"com/example/stylesheet_engine/stylesheetengine/model/AtomicTypeIsSubtypeOfPinLaw", "expected", "(II)Z"⟩ : MethodName) (head1 (Jvm.Cond.code (⟨"com/example/stylesheet_engine/stylesheetengine/model/AtomicTypeIsSubtypeOfPinLaw", "expected", "(II)Z"⟩ : MethodName) method_3_code 2 (some .boolean) :: ws) ({ frames := 0, cells := 0, slots := 0, locals := 0 } : Room)) (fun a_ U => a_ = #[(.int p0), (.int p1)] ∧ Z.Warmed39 U.vm ∧ U.heap = h0) (fun _ _ _ _ _ => True) (fun _ U o_ U' => ∃ v L, o_ = .returned v ∧ OQ (fun v h L => v = some (.int (f3_0 p0 p1)) ∧ h = h0 ∧ L = []) v U'.heap L ∧ FrameEnd U o_ U' L ({ frames := 0, cells := 0, slots := 0, locals := 0 } : Room).cells ({ frames := 0, cells := 0, slots := 0, locals := 0 } : Room).slots) := by
  refine MetFree.of_bodySF (plainFor_of_name pn_3) hisR ?_
  intro p e s m args below meth c s₁ Bd hml0 hP hK
  obtain ⟨rfl, hZ, hh⟩ := hP
  have hx := Bd.exec
  have hby := Bd.bytes
  have hml : c.maxLocals = 2 := hml0
  have hown : s.vm.findClass "com/example/stylesheet_engine/stylesheetengine/model/AtomicTypeIsSubtypeOfPinLaw" = some m.cls := findClass_of_methodNamed Bd.named
  have hnm := (name_of_methodNamed Bd.named Bd.method).1
  have hret := Bd.returns
  have hlk : meth.locks = false := Bd.notSynchronized
  have X0 : Stand p l e ({ frames := 0, cells := 0, slots := 0, locals := 0 } : Room) s m #[(.int p0), (.int p1)] below meth c s₁ [] 0 0 := Stand.of_body Bd
  have e0 : s₁.heap = h0 := by rw [← hh, Bd.state]; rfl
  refine OFin.start (Q := fun v h L => v = some (.int (f3_0 p0 p1)) ∧ h = h0 ∧ L = []) (s := s) (fun t kt => castTop (ef_3 m p0 p1) kt) ?_
  exact ro3_0 p0 p1 X0 hx hZ hw hby hml hown hret hlk e0 (Nat.zero_le _) (Nat.zero_le _) (Nat.zero_le _) (Nat.zero_le _)  ⟨rfl, rfl, rfl⟩
theorem own_idx (x : Int32) : ∃ i : Nat, i < 11 ∧ ((x &&& (2147483647 : Int32)) - ((x &&& (2147483647 : Int32)) / (11 : Int32)) * (11 : Int32)) = Int32.ofNat i := by
  have h := c_mask x 2147483647 31 (by decide) (by decide)
  obtain ⟨z, hz⟩ : ∃ z, z = ((x &&& (2147483647 : Int32)) - ((x &&& (2147483647 : Int32)) / (11 : Int32)) * (11 : Int32)) := ⟨_, rfl⟩
  have h1 : z.toInt = (x &&& (2147483647 : Int32)).toInt.tmod 11 := by rw [hz]; exact rem_toInt _ _
  rw [Int.tmod_eq_emod_of_nonneg (by omega)] at h1
  refine ⟨z.toInt.toNat, by omega, ?_⟩
  rw [← hz]
  apply Int32.toInt_inj.mp
  rw [Int32.toInt_ofNat_small (by omega)]
  omega
theorem own_lawAF : ∀ i j : Fin 11, j.1 ≠ 1 → own_up 11 i.1 j.1 = f3_0 (Int32.ofNat i.1) (Int32.ofNat j.1) := by decide +kernel
theorem own_lawA (i j : Nat) (hi : i < 11) (hj : j < 11) (hj1 : j ≠ 1) : own_up 11 i j = f3_0 (Int32.ofNat i) (Int32.ofNat j) := own_lawAF ⟨i, hi⟩ ⟨j, hj⟩ hj1
theorem own_lawBF : ∀ i : Fin 11, i.1 ≠ 1 → own_num i.1 = f3_0 (Int32.ofNat i.1) (Int32.ofNat 1) := by decide +kernel
theorem own_lawB (i : Nat) (hi : i < 11) (hi1 : i ≠ 1) : own_num i = f3_0 (Int32.ofNat i) (Int32.ofNat 1) := own_lawBF ⟨i, hi⟩ hi1
theorem pn_0 : plainName "com/example/stylesheet_engine/stylesheetengine/model/AtomicTypeIsSubtypeOfPinLaw" = true := by first | (simp [plainName, overriddenIn]; done) | decide +kernel
theorem ef_0 (m : MethodId) (p0 : Int32) (p1 : Int32) : entryFrame m #[(.int p0), (.int p1)] maxLocals = mkF m 0 #[.val (.int p0), .val (.int p1), .unset, .unset, .unset, .unset] [] := by first | (simp [entryFrame, mkF, argsToLocals, Value.category, maxLocals]; done) | rfl
set_option maxRecDepth 65536 in
set_option maxHeartbeats 40000000 in
theorem rm0 (l : Launch) (Z : State) (a0 : Array Value) (hw : ∀ d ∈ tables_1, d.before a0 Z = true) (ws : List Jvm.Cond) (p0 : Int32) (p1 : Int32) (h0 : Heap) (O : Nat → Addr) (HO : OObj Z h0 O) :
    MetFree l x (head1 (Jvm.Cond.code x code maxLocals ret :: ws) (room_1)) (fun a_ U => a_ = #[(.int p0), (.int p1)] ∧ Z.Warmed39 U.vm ∧ U.heap = h0) (fun _ _ _ _ _ => True) (fun _ U o_ U' => ∃ v L, o_ = .returned v ∧ OQ (fun v h L => v = some (.int (1 : Int32)) ∧ Fr h0.size L) v U'.heap L ∧ FrameEnd U o_ U' L (room_1).cells (room_1).slots) := by
  refine MetFree.of_bodySF (plainFor_of_name pn_0) hisR ?_
  intro p e s m args below meth c s₁ Bd hml0 hP hK
  obtain ⟨rfl, hZ, hh⟩ := hP
  have hx := Bd.exec
  have hby := Bd.bytes
  have hml : c.maxLocals = 6 := hml0
  have hown : s.vm.findClass "com/example/stylesheet_engine/stylesheetengine/model/AtomicTypeIsSubtypeOfPinLaw" = some m.cls := findClass_of_methodNamed Bd.named
  have hnm := (name_of_methodNamed Bd.named Bd.method).1
  have hret := Bd.returns
  have hlk : meth.locks = false := Bd.notSynchronized
  have X0 : Stand p l e (room_1) s m #[(.int p0), (.int p1)] below meth c s₁ [] 0 0 := Stand.of_body Bd
  have e0 : s₁.heap = h0 := by rw [← hh, Bd.state]; rfl
  refine OFin.start (Q := fun v h L => v = some (.int (1 : Int32)) ∧ Fr h0.size L) (s := s) (fun t kt => castTop (ef_0 m p0 p1) kt) ?_
  refine OFin.to (s₁.setTop (mkF m 1 #[.val (.int p0), .val (.int p1), .unset, .unset, .unset, .unset] [(.int p0)])) (fun _ kt => XS.iloadN X0.here hx rfl (hb hby at_0) rfl kt) ?_
  refine OFin.to (s₁.setTop (mkF m 3 #[.val (.int p0), .val (.int p1), .unset, .unset, .unset, .unset] [(.int (2147483647 : Int32)), (.int p0)])) (fun _ kt => X0.ldcI hx hown (mvT hZ (hw _ (List.mem_of_getElem? (i := 0) rfl))) (g := (mkF m 1 #[.val (.int p0), .val (.int p1), .unset, .unset, .unset, .unset] [(.int p0)])) rfl (hb hby at_1) kt) ?_
  refine OFin.to (s₁.setTop (mkF m 4 #[.val (.int p0), .val (.int p1), .unset, .unset, .unset, .unset] [(.int (p0 &&& (2147483647 : Int32)))])) (fun _ kt => XS.iand X0.here hx rfl (hb hby at_3) rfl kt) ?_
  refine OFin.to (s₁.setTop (mkF m 6 #[.val (.int p0), .val (.int p1), .unset, .unset, .unset, .unset] [(.int (11 : Int32)), (.int (p0 &&& (2147483647 : Int32)))])) (fun _ kt => XS.bipush X0.here hx rfl (hb hby at_4) kt) ?_
  refine OFin.to (s₁.setTop (mkF m 7 #[.val (.int p0), .val (.int p1), .unset, .unset, .unset, .unset] [(.int ((p0 &&& (2147483647 : Int32)) - ((p0 &&& (2147483647 : Int32)) / (11 : Int32)) * (11 : Int32)))])) (fun _ kt => XS.irem X0.here hx rfl (hb hby at_6) rfl (by decide) kt) ?_
  obtain ⟨i, hi, ei⟩ := own_idx p0
  rw [ei]
  refine OFin.to (s₁.setTop (mkF m 8 #[.val (.int p0), .val (.int p1), .val (.int (Int32.ofNat i)), .unset, .unset, .unset] [])) (fun _ kt => XS.istoreN X0.here hx rfl (hb hby at_7) rfl (l' := #[.val (.int p0), .val (.int p1), .val (.int (Int32.ofNat i)), .unset, .unset, .unset]) rfl kt) ?_
  refine OFin.to (s₁.setTop (mkF m 9 #[.val (.int p0), .val (.int p1), .val (.int (Int32.ofNat i)), .unset, .unset, .unset] [(.int p1)])) (fun _ kt => XS.iloadN X0.here hx rfl (hb hby at_8) rfl kt) ?_
  refine OFin.to (s₁.setTop (mkF m 11 #[.val (.int p0), .val (.int p1), .val (.int (Int32.ofNat i)), .unset, .unset, .unset] [(.int (2147483647 : Int32)), (.int p1)])) (fun _ kt => X0.ldcI hx hown (mvT hZ (hw _ (List.mem_of_getElem? (i := 0) rfl))) (g := (mkF m 9 #[.val (.int p0), .val (.int p1), .val (.int (Int32.ofNat i)), .unset, .unset, .unset] [(.int p1)])) rfl (hb hby at_9) kt) ?_
  refine OFin.to (s₁.setTop (mkF m 12 #[.val (.int p0), .val (.int p1), .val (.int (Int32.ofNat i)), .unset, .unset, .unset] [(.int (p1 &&& (2147483647 : Int32)))])) (fun _ kt => XS.iand X0.here hx rfl (hb hby at_11) rfl kt) ?_
  refine OFin.to (s₁.setTop (mkF m 14 #[.val (.int p0), .val (.int p1), .val (.int (Int32.ofNat i)), .unset, .unset, .unset] [(.int (11 : Int32)), (.int (p1 &&& (2147483647 : Int32)))])) (fun _ kt => XS.bipush X0.here hx rfl (hb hby at_12) kt) ?_
  refine OFin.to (s₁.setTop (mkF m 15 #[.val (.int p0), .val (.int p1), .val (.int (Int32.ofNat i)), .unset, .unset, .unset] [(.int ((p1 &&& (2147483647 : Int32)) - ((p1 &&& (2147483647 : Int32)) / (11 : Int32)) * (11 : Int32)))])) (fun _ kt => XS.irem X0.here hx rfl (hb hby at_14) rfl (by decide) kt) ?_
  obtain ⟨j, hj, ej⟩ := own_idx p1
  rw [ej]
  refine OFin.to (s₁.setTop (mkF m 16 #[.val (.int p0), .val (.int p1), .val (.int (Int32.ofNat i)), .val (.int (Int32.ofNat j)), .unset, .unset] [])) (fun _ kt => XS.istoreN X0.here hx rfl (hb hby at_15) rfl (l' := #[.val (.int p0), .val (.int p1), .val (.int (Int32.ofNat i)), .val (.int (Int32.ofNat j)), .unset, .unset]) rfl kt) ?_
  refine OFin.to (s₁.setTop (mkF m 17 #[.val (.int p0), .val (.int p1), .val (.int (Int32.ofNat i)), .val (.int (Int32.ofNat j)), .unset, .unset] [(.int (Int32.ofNat i))])) (fun _ kt => XS.iloadN X0.here hx rfl (hb hby at_16) rfl kt) ?_
  refine OFin.to (s₁.setTop (mkF m 18 #[.val (.int p0), .val (.int p1), .val (.int (Int32.ofNat i)), .val (.int (Int32.ofNat j)), .unset, .unset] [(.int (1 : Int32)), (.int (Int32.ofNat i))])) (fun _ kt => XS.iconst X0.here hx rfl (hb hby at_17) kt) ?_
  by_cases hc1 : (Int32.ofNat i) = (1 : Int32)
  case pos =>
    refine OFin.to (s₁.setTop (mkF m 21 #[.val (.int p0), .val (.int p1), .val (.int (Int32.ofNat i)), .val (.int (Int32.ofNat j)), .unset, .unset] [])) (fun _ kt => XS.icmpNo X0.here hx rfl (hb hby at_18) rfl (XT.ii_ne_f hc1) kt) ?_
    refine OFin.to (s₁.setTop (mkF m 22 #[.val (.int p0), .val (.int p1), .val (.int (Int32.ofNat i)), .val (.int (Int32.ofNat j)), .unset, .unset] [(.int (Int32.ofNat j))])) (fun _ kt => XS.iloadN X0.here hx rfl (hb hby at_21) rfl kt) ?_
    refine OFin.to (s₁.setTop (mkF m 23 #[.val (.int p0), .val (.int p1), .val (.int (Int32.ofNat i)), .val (.int (Int32.ofNat j)), .unset, .unset] [(.int (1 : Int32)), (.int (Int32.ofNat j))])) (fun _ kt => XS.iconst X0.here hx rfl (hb hby at_22) kt) ?_
    by_cases hc2 : (Int32.ofNat j) = (1 : Int32)
    case pos =>
      refine OFin.to (s₁.setTop (mkF m 26 #[.val (.int p0), .val (.int p1), .val (.int (Int32.ofNat i)), .val (.int (Int32.ofNat j)), .unset, .unset] [])) (fun _ kt => XS.icmpNo X0.here hx rfl (hb hby at_23) rfl (XT.ii_ne_f hc2) kt) ?_
      refine OFin.to (s₁.setTop (mkF m 27 #[.val (.int p0), .val (.int p1), .val (.int (Int32.ofNat i)), .val (.int (Int32.ofNat j)), .unset, .unset] [(.int (1 : Int32))])) (fun _ kt => XS.iconst X0.here hx rfl (hb hby at_26) kt) ?_
      exact OFin.retZ X0 hx (t := .boolean) hret (by simp) hlk (hb hby at_27) (Nat.zero_le _) (Nat.zero_le _) ⟨by rw [own_nar1], Fr.nil _⟩
    have hj1 : j ≠ 1 := fun q => hc2 (by rw [q]; rfl)
    refine OFin.to (s₁.setTop (mkF m 28 #[.val (.int p0), .val (.int p1), .val (.int (Int32.ofNat i)), .val (.int (Int32.ofNat j)), .unset, .unset] [])) (fun _ kt => XS.icmpYes X0.here hx rfl (pc0 := 23) (pc' := 28) rfl (hb hby at_23) rfl (XT.ii_ne_t hc2) (by decide) (by decide) kt) ?_
    refine OFin.to (s₁.setTop (mkF m 29 #[.val (.int p0), .val (.int p1), .val (.int (Int32.ofNat i)), .val (.int (Int32.ofNat j)), .unset, .unset] [(.int (Int32.ofNat i))])) (fun _ kt => XS.iloadN X0.here hx rfl (hb hby at_28) rfl kt) ?_
    obtain ⟨v1, T1, L1, hQ1, X1, st1⟩ := own_callS X0 hx hZ hown (hw _ (List.mem_of_getElem? (i := 1) rfl)) (hw _ (List.mem_of_getElem? (i := 2) rfl)) (hw _ (List.mem_of_getElem? (i := 3) rfl)) (hw _ (List.mem_of_getElem? (i := 4) rfl)) (by decide) e0 (rm1 l Z a0 hw [] i hi O h0 HO) 0 (by decide) (by decide) (by decide) (by decide) (g := (mkF m 29 #[.val (.int p0), .val (.int p1), .val (.int (Int32.ofNat i)), .val (.int (Int32.ofNat j)), .unset, .unset] [(.int (Int32.ofNat i))])) rfl (by rw [hml]; rfl) (rest := []) (lenOf pd_1 rfl) rfl (by show 2 * 0 + _ ≤ _; exact Nat.le_of_eq rfl) (hb hby at_29)
    obtain ⟨rfl, e1, rfl⟩ := hQ1
    rw [List.append_nil] at X1
    refine OFin.to (T1.setTop (mkF m 32 #[.val (.int p0), .val (.int p1), .val (.int (Int32.ofNat i)), .val (.int (Int32.ofNat j)), .unset, .unset] [(.ref (O i))])) st1 ?_
    refine OFin.to (T1.setTop (mkF m 34 #[.val (.int p0), .val (.int p1), .val (.int (Int32.ofNat i)), .val (.int (Int32.ofNat j)), .val (.ref (O i)), .unset] [])) (fun _ kt => XS.astore X1.here hx rfl (hb hby at_32) rfl rfl (l' := #[.val (.int p0), .val (.int p1), .val (.int (Int32.ofNat i)), .val (.int (Int32.ofNat j)), .val (.ref (O i)), .unset]) rfl kt) ?_
    refine OFin.to (T1.setTop (mkF m 35 #[.val (.int p0), .val (.int p1), .val (.int (Int32.ofNat i)), .val (.int (Int32.ofNat j)), .val (.ref (O i)), .unset] [(.int (Int32.ofNat j))])) (fun _ kt => XS.iloadN X1.here hx rfl (hb hby at_34) rfl kt) ?_
    obtain ⟨v2, T2, L2, hQ2, X2, st2⟩ := own_callS X1 hx hZ hown (hw _ (List.mem_of_getElem? (i := 1) rfl)) (hw _ (List.mem_of_getElem? (i := 2) rfl)) (hw _ (List.mem_of_getElem? (i := 3) rfl)) (hw _ (List.mem_of_getElem? (i := 4) rfl)) (by decide) e1 (rm1 l Z a0 hw [] j hj O h0 HO) 0 (by decide) (by decide) (by decide) (by decide) (g := (mkF m 35 #[.val (.int p0), .val (.int p1), .val (.int (Int32.ofNat i)), .val (.int (Int32.ofNat j)), .val (.ref (O i)), .unset] [(.int (Int32.ofNat j))])) rfl (by rw [hml]; rfl) (rest := []) (lenOf pd_1 rfl) rfl (by show 2 * 0 + _ ≤ _; exact Nat.le_of_eq rfl) (hb hby at_35)
    obtain ⟨rfl, e2, rfl⟩ := hQ2
    rw [List.append_nil] at X2
    refine OFin.to (T2.setTop (mkF m 38 #[.val (.int p0), .val (.int p1), .val (.int (Int32.ofNat i)), .val (.int (Int32.ofNat j)), .val (.ref (O i)), .unset] [(.ref (O j))])) st2 ?_
    refine OFin.to (T2.setTop (mkF m 40 #[.val (.int p0), .val (.int p1), .val (.int (Int32.ofNat i)), .val (.int (Int32.ofNat j)), .val (.ref (O i)), .val (.ref (O j))] [])) (fun _ kt => XS.astore X2.here hx rfl (hb hby at_38) rfl rfl (l' := #[.val (.int p0), .val (.int p1), .val (.int (Int32.ofNat i)), .val (.int (Int32.ofNat j)), .val (.ref (O i)), .val (.ref (O j))]) rfl kt) ?_
    refine OFin.to (T2.setTop (mkF m 42 #[.val (.int p0), .val (.int p1), .val (.int (Int32.ofNat i)), .val (.int (Int32.ofNat j)), .val (.ref (O i)), .val (.ref (O j))] [(.ref (O i))])) (fun _ kt => XS.aload X2.here hx rfl (hb hby at_40) rfl rfl kt) ?_
    refine OFin.to (T2.setTop (mkF m 44 #[.val (.int p0), .val (.int p1), .val (.int (Int32.ofNat i)), .val (.int (Int32.ofNat j)), .val (.ref (O i)), .val (.ref (O j))] [(.ref (O j)), (.ref (O i))])) (fun _ kt => XS.aload X2.here hx rfl (hb hby at_42) rfl rfl kt) ?_
    obtain ⟨v3, T3, L3, hQ3, X3, st3⟩ := own_callV X2 hx hZ hown (hw _ (List.mem_of_getElem? (i := 10) rfl)) (hw _ (List.mem_of_getElem? (i := 11) rfl)) (hw _ (List.mem_of_getElem? (i := 13) rfl)) (hw _ (List.mem_of_getElem? (i := 12) rfl)) (hw _ (List.mem_of_getElem? (i := 14) rfl)) (hw _ (List.mem_of_getElem? (i := 6) rfl)) (by decide) e2 (HO.2.1 i hi) (rm2a l Z a0 hw [] i j hi hj hj1 O h0 HO) 0 (by decide) (by decide) (by decide) (by decide) (g := (mkF m 44 #[.val (.int p0), .val (.int p1), .val (.int (Int32.ofNat i)), .val (.int (Int32.ofNat j)), .val (.ref (O i)), .val (.ref (O j))] [(.ref (O j)), (.ref (O i))])) rfl (by rw [hml]; rfl) (rest := []) (lenOf pd_0 rfl) rfl (by show 2 * 0 + _ ≤ _; exact Nat.le_of_eq rfl) (hb hby at_44)
    obtain ⟨rfl, e3, rfl⟩ := hQ3
    rw [List.append_nil] at X3
    refine OFin.to (T3.setTop (mkF m 47 #[.val (.int p0), .val (.int p1), .val (.int (Int32.ofNat i)), .val (.int (Int32.ofNat j)), .val (.ref (O i)), .val (.ref (O j))] [(.int (own_up 11 i j))])) st3 ?_
    refine OFin.to (T3.setTop (mkF m 48 #[.val (.int p0), .val (.int p1), .val (.int (Int32.ofNat i)), .val (.int (Int32.ofNat j)), .val (.ref (O i)), .val (.ref (O j))] [(.int (Int32.ofNat i)), (.int (own_up 11 i j))])) (fun _ kt => XS.iloadN X3.here hx rfl (hb hby at_47) rfl kt) ?_
    refine OFin.to (T3.setTop (mkF m 49 #[.val (.int p0), .val (.int p1), .val (.int (Int32.ofNat i)), .val (.int (Int32.ofNat j)), .val (.ref (O i)), .val (.ref (O j))] [(.int (Int32.ofNat j)), (.int (Int32.ofNat i)), (.int (own_up 11 i j))])) (fun _ kt => XS.iloadN X3.here hx rfl (hb hby at_48) rfl kt) ?_
    obtain ⟨v4, T4, L4, hQ4, X4, st4⟩ := own_callS X3 hx hZ hown (hw _ (List.mem_of_getElem? (i := 19) rfl)) (hw _ (List.mem_of_getElem? (i := 20) rfl)) (hw _ (List.mem_of_getElem? (i := 3) rfl)) (hw _ (List.mem_of_getElem? (i := 21) rfl)) (by decide) e3 (rm3 l Z a0 hw [] (Int32.ofNat i) (Int32.ofNat j) h0) 1 (by decide) (by decide) (by decide) (by decide) (g := (mkF m 49 #[.val (.int p0), .val (.int p1), .val (.int (Int32.ofNat i)), .val (.int (Int32.ofNat j)), .val (.ref (O i)), .val (.ref (O j))] [(.int (Int32.ofNat j)), (.int (Int32.ofNat i)), (.int (own_up 11 i j))])) rfl (by rw [hml]; rfl) (rest := [(.int (own_up 11 i j))]) (lenOf pd_2 rfl) rfl (by show 2 * 0 + _ ≤ _; exact Nat.le_of_eq rfl) (hb hby at_49)
    obtain ⟨rfl, e4, rfl⟩ := hQ4
    rw [List.append_nil] at X4
    refine OFin.to (T4.setTop (mkF m 52 #[.val (.int p0), .val (.int p1), .val (.int (Int32.ofNat i)), .val (.int (Int32.ofNat j)), .val (.ref (O i)), .val (.ref (O j))] [(.int (f3_0 (Int32.ofNat i) (Int32.ofNat j))), (.int (own_up 11 i j))])) st4 ?_
    refine OFin.to (T4.setTop (mkF m 55 #[.val (.int p0), .val (.int p1), .val (.int (Int32.ofNat i)), .val (.int (Int32.ofNat j)), .val (.ref (O i)), .val (.ref (O j))] [])) (fun _ kt => XS.icmpNo X4.here hx rfl (hb hby at_52) rfl (XT.ii_ne_f (own_lawA i j hi hj hj1)) kt) ?_
    refine OFin.to (T4.setTop (mkF m 56 #[.val (.int p0), .val (.int p1), .val (.int (Int32.ofNat i)), .val (.int (Int32.ofNat j)), .val (.ref (O i)), .val (.ref (O j))] [(.int (1 : Int32))])) (fun _ kt => XS.iconst X4.here hx rfl (hb hby at_55) kt) ?_
    refine OFin.to (T4.setTop (mkF m 60 #[.val (.int p0), .val (.int p1), .val (.int (Int32.ofNat i)), .val (.int (Int32.ofNat j)), .val (.ref (O i)), .val (.ref (O j))] [(.int (1 : Int32))])) (fun _ kt => XS.goto X4.here hx rfl (pc0 := 56) (pc' := 60) rfl (hb hby at_56) (by decide) (by decide) kt) ?_
    exact OFin.retZ X4 hx (t := .boolean) hret (by simp) hlk (hb hby at_60) (Nat.zero_le _) (Nat.zero_le _) ⟨by rw [own_nar1], Fr.nil _⟩
  have hi1 : i ≠ 1 := fun q => hc1 (by rw [q]; rfl)
  refine OFin.to (s₁.setTop (mkF m 28 #[.val (.int p0), .val (.int p1), .val (.int (Int32.ofNat i)), .val (.int (Int32.ofNat j)), .unset, .unset] [])) (fun _ kt => XS.icmpYes X0.here hx rfl (pc0 := 18) (pc' := 28) rfl (hb hby at_18) rfl (XT.ii_ne_t hc1) (by decide) (by decide) kt) ?_
  refine OFin.to (s₁.setTop (mkF m 29 #[.val (.int p0), .val (.int p1), .val (.int (Int32.ofNat i)), .val (.int (Int32.ofNat j)), .unset, .unset] [(.int (Int32.ofNat i))])) (fun _ kt => XS.iloadN X0.here hx rfl (hb hby at_28) rfl kt) ?_
  obtain ⟨v5, T5, L5, hQ5, X5, st5⟩ := own_callS X0 hx hZ hown (hw _ (List.mem_of_getElem? (i := 1) rfl)) (hw _ (List.mem_of_getElem? (i := 2) rfl)) (hw _ (List.mem_of_getElem? (i := 3) rfl)) (hw _ (List.mem_of_getElem? (i := 4) rfl)) (by decide) e0 (rm1 l Z a0 hw [] i hi O h0 HO) 0 (by decide) (by decide) (by decide) (by decide) (g := (mkF m 29 #[.val (.int p0), .val (.int p1), .val (.int (Int32.ofNat i)), .val (.int (Int32.ofNat j)), .unset, .unset] [(.int (Int32.ofNat i))])) rfl (by rw [hml]; rfl) (rest := []) (lenOf pd_1 rfl) rfl (by show 2 * 0 + _ ≤ _; exact Nat.le_of_eq rfl) (hb hby at_29)
  obtain ⟨rfl, e5, rfl⟩ := hQ5
  rw [List.append_nil] at X5
  refine OFin.to (T5.setTop (mkF m 32 #[.val (.int p0), .val (.int p1), .val (.int (Int32.ofNat i)), .val (.int (Int32.ofNat j)), .unset, .unset] [(.ref (O i))])) st5 ?_
  refine OFin.to (T5.setTop (mkF m 34 #[.val (.int p0), .val (.int p1), .val (.int (Int32.ofNat i)), .val (.int (Int32.ofNat j)), .val (.ref (O i)), .unset] [])) (fun _ kt => XS.astore X5.here hx rfl (hb hby at_32) rfl rfl (l' := #[.val (.int p0), .val (.int p1), .val (.int (Int32.ofNat i)), .val (.int (Int32.ofNat j)), .val (.ref (O i)), .unset]) rfl kt) ?_
  refine OFin.to (T5.setTop (mkF m 35 #[.val (.int p0), .val (.int p1), .val (.int (Int32.ofNat i)), .val (.int (Int32.ofNat j)), .val (.ref (O i)), .unset] [(.int (Int32.ofNat j))])) (fun _ kt => XS.iloadN X5.here hx rfl (hb hby at_34) rfl kt) ?_
  obtain ⟨v6, T6, L6, hQ6, X6, st6⟩ := own_callS X5 hx hZ hown (hw _ (List.mem_of_getElem? (i := 1) rfl)) (hw _ (List.mem_of_getElem? (i := 2) rfl)) (hw _ (List.mem_of_getElem? (i := 3) rfl)) (hw _ (List.mem_of_getElem? (i := 4) rfl)) (by decide) e5 (rm1 l Z a0 hw [] j hj O h0 HO) 0 (by decide) (by decide) (by decide) (by decide) (g := (mkF m 35 #[.val (.int p0), .val (.int p1), .val (.int (Int32.ofNat i)), .val (.int (Int32.ofNat j)), .val (.ref (O i)), .unset] [(.int (Int32.ofNat j))])) rfl (by rw [hml]; rfl) (rest := []) (lenOf pd_1 rfl) rfl (by show 2 * 0 + _ ≤ _; exact Nat.le_of_eq rfl) (hb hby at_35)
  obtain ⟨rfl, e6, rfl⟩ := hQ6
  rw [List.append_nil] at X6
  refine OFin.to (T6.setTop (mkF m 38 #[.val (.int p0), .val (.int p1), .val (.int (Int32.ofNat i)), .val (.int (Int32.ofNat j)), .val (.ref (O i)), .unset] [(.ref (O j))])) st6 ?_
  refine OFin.to (T6.setTop (mkF m 40 #[.val (.int p0), .val (.int p1), .val (.int (Int32.ofNat i)), .val (.int (Int32.ofNat j)), .val (.ref (O i)), .val (.ref (O j))] [])) (fun _ kt => XS.astore X6.here hx rfl (hb hby at_38) rfl rfl (l' := #[.val (.int p0), .val (.int p1), .val (.int (Int32.ofNat i)), .val (.int (Int32.ofNat j)), .val (.ref (O i)), .val (.ref (O j))]) rfl kt) ?_
  refine OFin.to (T6.setTop (mkF m 42 #[.val (.int p0), .val (.int p1), .val (.int (Int32.ofNat i)), .val (.int (Int32.ofNat j)), .val (.ref (O i)), .val (.ref (O j))] [(.ref (O i))])) (fun _ kt => XS.aload X6.here hx rfl (hb hby at_40) rfl rfl kt) ?_
  refine OFin.to (T6.setTop (mkF m 44 #[.val (.int p0), .val (.int p1), .val (.int (Int32.ofNat i)), .val (.int (Int32.ofNat j)), .val (.ref (O i)), .val (.ref (O j))] [(.ref (O j)), (.ref (O i))])) (fun _ kt => XS.aload X6.here hx rfl (hb hby at_42) rfl rfl kt) ?_
  by_cases hj1 : j = 1
  case pos =>
    subst hj1
    obtain ⟨v7, T7, L7, hQ7, X7, st7⟩ := own_callV X6 hx hZ hown (hw _ (List.mem_of_getElem? (i := 10) rfl)) (hw _ (List.mem_of_getElem? (i := 11) rfl)) (hw _ (List.mem_of_getElem? (i := 13) rfl)) (hw _ (List.mem_of_getElem? (i := 12) rfl)) (hw _ (List.mem_of_getElem? (i := 14) rfl)) (hw _ (List.mem_of_getElem? (i := 6) rfl)) (by decide) e6 (HO.2.1 i hi) (rm2b l Z a0 hw [] i hi O h0 HO) 0 (by decide) (by decide) (by decide) (by decide) (g := (mkF m 44 #[.val (.int p0), .val (.int p1), .val (.int (Int32.ofNat i)), .val (.int (Int32.ofNat 1)), .val (.ref (O i)), .val (.ref (O 1))] [(.ref (O 1)), (.ref (O i))])) rfl (by rw [hml]; rfl) (rest := []) (lenOf pd_0 rfl) rfl (by show 2 * 0 + _ ≤ _; exact Nat.le_of_eq rfl) (hb hby at_44)
    obtain ⟨rfl, e7, rfl⟩ := hQ7
    rw [List.append_nil] at X7
    refine OFin.to (T7.setTop (mkF m 47 #[.val (.int p0), .val (.int p1), .val (.int (Int32.ofNat i)), .val (.int (Int32.ofNat 1)), .val (.ref (O i)), .val (.ref (O 1))] [(.int (own_num i))])) st7 ?_
    refine OFin.to (T7.setTop (mkF m 48 #[.val (.int p0), .val (.int p1), .val (.int (Int32.ofNat i)), .val (.int (Int32.ofNat 1)), .val (.ref (O i)), .val (.ref (O 1))] [(.int (Int32.ofNat i)), (.int (own_num i))])) (fun _ kt => XS.iloadN X7.here hx rfl (hb hby at_47) rfl kt) ?_
    refine OFin.to (T7.setTop (mkF m 49 #[.val (.int p0), .val (.int p1), .val (.int (Int32.ofNat i)), .val (.int (Int32.ofNat 1)), .val (.ref (O i)), .val (.ref (O 1))] [(.int (Int32.ofNat 1)), (.int (Int32.ofNat i)), (.int (own_num i))])) (fun _ kt => XS.iloadN X7.here hx rfl (hb hby at_48) rfl kt) ?_
    obtain ⟨v8, T8, L8, hQ8, X8, st8⟩ := own_callS X7 hx hZ hown (hw _ (List.mem_of_getElem? (i := 19) rfl)) (hw _ (List.mem_of_getElem? (i := 20) rfl)) (hw _ (List.mem_of_getElem? (i := 3) rfl)) (hw _ (List.mem_of_getElem? (i := 21) rfl)) (by decide) e7 (rm3 l Z a0 hw [] (Int32.ofNat i) (Int32.ofNat 1) h0) 1 (by decide) (by decide) (by decide) (by decide) (g := (mkF m 49 #[.val (.int p0), .val (.int p1), .val (.int (Int32.ofNat i)), .val (.int (Int32.ofNat 1)), .val (.ref (O i)), .val (.ref (O 1))] [(.int (Int32.ofNat 1)), (.int (Int32.ofNat i)), (.int (own_num i))])) rfl (by rw [hml]; rfl) (rest := [(.int (own_num i))]) (lenOf pd_2 rfl) rfl (by show 2 * 0 + _ ≤ _; exact Nat.le_of_eq rfl) (hb hby at_49)
    obtain ⟨rfl, e8, rfl⟩ := hQ8
    rw [List.append_nil] at X8
    refine OFin.to (T8.setTop (mkF m 52 #[.val (.int p0), .val (.int p1), .val (.int (Int32.ofNat i)), .val (.int (Int32.ofNat 1)), .val (.ref (O i)), .val (.ref (O 1))] [(.int (f3_0 (Int32.ofNat i) (Int32.ofNat 1))), (.int (own_num i))])) st8 ?_
    refine OFin.to (T8.setTop (mkF m 55 #[.val (.int p0), .val (.int p1), .val (.int (Int32.ofNat i)), .val (.int (Int32.ofNat 1)), .val (.ref (O i)), .val (.ref (O 1))] [])) (fun _ kt => XS.icmpNo X8.here hx rfl (hb hby at_52) rfl (XT.ii_ne_f (own_lawB i hi hi1)) kt) ?_
    refine OFin.to (T8.setTop (mkF m 56 #[.val (.int p0), .val (.int p1), .val (.int (Int32.ofNat i)), .val (.int (Int32.ofNat 1)), .val (.ref (O i)), .val (.ref (O 1))] [(.int (1 : Int32))])) (fun _ kt => XS.iconst X8.here hx rfl (hb hby at_55) kt) ?_
    refine OFin.to (T8.setTop (mkF m 60 #[.val (.int p0), .val (.int p1), .val (.int (Int32.ofNat i)), .val (.int (Int32.ofNat 1)), .val (.ref (O i)), .val (.ref (O 1))] [(.int (1 : Int32))])) (fun _ kt => XS.goto X8.here hx rfl (pc0 := 56) (pc' := 60) rfl (hb hby at_56) (by decide) (by decide) kt) ?_
    exact OFin.retZ X8 hx (t := .boolean) hret (by simp) hlk (hb hby at_60) (Nat.zero_le _) (Nat.zero_le _) ⟨by rw [own_nar1], Fr.nil _⟩
  obtain ⟨v9, T9, L9, hQ9, X9, st9⟩ := own_callV X6 hx hZ hown (hw _ (List.mem_of_getElem? (i := 10) rfl)) (hw _ (List.mem_of_getElem? (i := 11) rfl)) (hw _ (List.mem_of_getElem? (i := 13) rfl)) (hw _ (List.mem_of_getElem? (i := 12) rfl)) (hw _ (List.mem_of_getElem? (i := 14) rfl)) (hw _ (List.mem_of_getElem? (i := 6) rfl)) (by decide) e6 (HO.2.1 i hi) (rm2a l Z a0 hw [] i j hi hj hj1 O h0 HO) 0 (by decide) (by decide) (by decide) (by decide) (g := (mkF m 44 #[.val (.int p0), .val (.int p1), .val (.int (Int32.ofNat i)), .val (.int (Int32.ofNat j)), .val (.ref (O i)), .val (.ref (O j))] [(.ref (O j)), (.ref (O i))])) rfl (by rw [hml]; rfl) (rest := []) (lenOf pd_0 rfl) rfl (by show 2 * 0 + _ ≤ _; exact Nat.le_of_eq rfl) (hb hby at_44)
  obtain ⟨rfl, e9, rfl⟩ := hQ9
  rw [List.append_nil] at X9
  refine OFin.to (T9.setTop (mkF m 47 #[.val (.int p0), .val (.int p1), .val (.int (Int32.ofNat i)), .val (.int (Int32.ofNat j)), .val (.ref (O i)), .val (.ref (O j))] [(.int (own_up 11 i j))])) st9 ?_
  refine OFin.to (T9.setTop (mkF m 48 #[.val (.int p0), .val (.int p1), .val (.int (Int32.ofNat i)), .val (.int (Int32.ofNat j)), .val (.ref (O i)), .val (.ref (O j))] [(.int (Int32.ofNat i)), (.int (own_up 11 i j))])) (fun _ kt => XS.iloadN X9.here hx rfl (hb hby at_47) rfl kt) ?_
  refine OFin.to (T9.setTop (mkF m 49 #[.val (.int p0), .val (.int p1), .val (.int (Int32.ofNat i)), .val (.int (Int32.ofNat j)), .val (.ref (O i)), .val (.ref (O j))] [(.int (Int32.ofNat j)), (.int (Int32.ofNat i)), (.int (own_up 11 i j))])) (fun _ kt => XS.iloadN X9.here hx rfl (hb hby at_48) rfl kt) ?_
  obtain ⟨v10, T10, L10, hQ10, X10, st10⟩ := own_callS X9 hx hZ hown (hw _ (List.mem_of_getElem? (i := 19) rfl)) (hw _ (List.mem_of_getElem? (i := 20) rfl)) (hw _ (List.mem_of_getElem? (i := 3) rfl)) (hw _ (List.mem_of_getElem? (i := 21) rfl)) (by decide) e9 (rm3 l Z a0 hw [] (Int32.ofNat i) (Int32.ofNat j) h0) 1 (by decide) (by decide) (by decide) (by decide) (g := (mkF m 49 #[.val (.int p0), .val (.int p1), .val (.int (Int32.ofNat i)), .val (.int (Int32.ofNat j)), .val (.ref (O i)), .val (.ref (O j))] [(.int (Int32.ofNat j)), (.int (Int32.ofNat i)), (.int (own_up 11 i j))])) rfl (by rw [hml]; rfl) (rest := [(.int (own_up 11 i j))]) (lenOf pd_2 rfl) rfl (by show 2 * 0 + _ ≤ _; exact Nat.le_of_eq rfl) (hb hby at_49)
  obtain ⟨rfl, e10, rfl⟩ := hQ10
  rw [List.append_nil] at X10
  refine OFin.to (T10.setTop (mkF m 52 #[.val (.int p0), .val (.int p1), .val (.int (Int32.ofNat i)), .val (.int (Int32.ofNat j)), .val (.ref (O i)), .val (.ref (O j))] [(.int (f3_0 (Int32.ofNat i) (Int32.ofNat j))), (.int (own_up 11 i j))])) st10 ?_
  refine OFin.to (T10.setTop (mkF m 55 #[.val (.int p0), .val (.int p1), .val (.int (Int32.ofNat i)), .val (.int (Int32.ofNat j)), .val (.ref (O i)), .val (.ref (O j))] [])) (fun _ kt => XS.icmpNo X10.here hx rfl (hb hby at_52) rfl (XT.ii_ne_f (own_lawA i j hi hj hj1)) kt) ?_
  refine OFin.to (T10.setTop (mkF m 56 #[.val (.int p0), .val (.int p1), .val (.int (Int32.ofNat i)), .val (.int (Int32.ofNat j)), .val (.ref (O i)), .val (.ref (O j))] [(.int (1 : Int32))])) (fun _ kt => XS.iconst X10.here hx rfl (hb hby at_55) kt) ?_
  refine OFin.to (T10.setTop (mkF m 60 #[.val (.int p0), .val (.int p1), .val (.int (Int32.ofNat i)), .val (.int (Int32.ofNat j)), .val (.ref (O i)), .val (.ref (O j))] [(.int (1 : Int32))])) (fun _ kt => XS.goto X10.here hx rfl (pc0 := 56) (pc' := 60) rfl (hb hby at_56) (by decide) (by decide) kt) ?_
  exact OFin.retZ X10 hx (t := .boolean) hret (by simp) hlk (hb hby at_60) (Nat.zero_le _) (Nat.zero_le _) ⟨by rw [own_nar1], Fr.nil _⟩
set_option maxRecDepth 65536 in
set_option maxHeartbeats 40000000 in
theorem comes_1 {Post : Tables → Env → Array Value → State → Outcome → State → Prop} (hpost : ∀ tb e args s v u, (limb_1_1.after args s (.returned v) u = true ∧ limb_1_2.after args s (.returned v) u = true ∧ True) → FrameEnd s (.returned v) u (Jvm.fieldLocs frame_1_writes args s ++ Jvm.arrayLocs frame_1_arrays args s ++ Jvm.staticLocs frame_1_statics s) 0 0 → Post tb e args s (.returned v) u) :
    ArmFor flags0 classFile x code maxLocals ret World_1 tables_1 room_1 Calls_1 rest_1 Pre_1 Post := by
  intro l hfl _ _ p e ha hc hk s m args below hf hA hF happ hP
  obtain ⟨hcalls, hrest, hpre⟩ := hP
  obtain ⟨-, -, -, hnamed, -, -, -, hat⟩ := (Spec.applies_iff hf).mp happ
  obtain ⟨hg, hn⟩ := and_e (Cond.before_iff.mp (show (Jvm.Cond.and given_1 narrow_1).before args s = true from hpre))
  obtain ⟨hcnt, g0⟩ := and_e hg
  obtain ⟨k0, g1⟩ := and_e g0
  obtain ⟨w0, w1, rfl⟩ : ∃ w0 w1 : Value, args = #[w0, w1] := by
    have hs : args.size = 2 := by simpa [Cond.value, given_1] using hcnt
    obtain ⟨L⟩ := args
    match L, hs with
    | [w0, w1], _ => exact ⟨w0, w1, rfl⟩
  have hw := fun d (hd : d ∈ tables_1) => atoms_spec (ws := Jvm.Cond.code x code maxLocals ret :: tables_1) hat d (List.mem_cons_of_mem _ hd)
  have hfit : Fit s := fun {y c} hc i hi => by
    obtain ⟨ha, rfl⟩ := Array.getElem?_eq_some_iff.mp hc
    have q := List.all_eq_true.mp ((Array.all_eq_true_iff_forall_mem.mp hF) _ (Array.getElem_mem ha)) i (List.mem_range.mpr hi)
    simpa [Array.getElem?_eq_getElem hi] using q
  obtain ⟨v0, ev0⟩ := is_v k0
  obtain rfl : w0 = (.int v0) := Option.some.inj ev0
  obtain ⟨v1, ev1⟩ := is_v g1
  obtain rfl : w1 = (.int v1) := Option.some.inj ev1
  obtain ⟨c0, r0⟩ := and_e hn
  obtain ⟨c1, r1⟩ := and_e r0
  obtain ⟨c2, r2⟩ := and_e r1
  obtain ⟨c3, r3⟩ := and_e r2
  obtain ⟨c4, r4⟩ := and_e r3
  obtain ⟨c5, r5⟩ := and_e r4
  obtain ⟨c6, r6⟩ := and_e r5
  obtain ⟨c7, r7⟩ := and_e r6
  obtain ⟨c8, r8⟩ := and_e r7
  obtain ⟨c9, r9⟩ := and_e r8
  obtain ⟨c10, r10⟩ := and_e r9
  obtain ⟨c11, r11⟩ := and_e r10
  obtain ⟨c12, r12⟩ := and_e r11
  obtain ⟨c13, r13⟩ := and_e r12
  obtain ⟨c14, r14⟩ := and_e r13
  obtain ⟨c15, r15⟩ := and_e r14
  obtain ⟨c16, r16⟩ := and_e r15
  obtain ⟨c17, r17⟩ := and_e r16
  obtain ⟨c18, r18⟩ := and_e r17
  obtain ⟨c19, r19⟩ := and_e r18
  obtain ⟨c20, r20⟩ := and_e r19
  obtain ⟨c21, r21⟩ := and_e r20
  obtain ⟨c22, r22⟩ := and_e r21
  obtain ⟨c23, r23⟩ := and_e r22
  obtain ⟨c24, r24⟩ := and_e r23
  obtain ⟨c25, r25⟩ := and_e r24
  obtain ⟨c26, r26⟩ := and_e r25
  obtain ⟨c27, r27⟩ := and_e r26
  obtain ⟨c28, r28⟩ := and_e r27
  obtain ⟨c29, r29⟩ := and_e r28
  obtain ⟨c30, r30⟩ := and_e r29
  obtain ⟨c31, r31⟩ := and_e r30
  obtain ⟨o0, ev0'⟩ := exa_v c0
  have E0 := Exa.start ev0' c0
  have S0 := Sta.start ev0' (Or.inr ⟨(hw _ (List.mem_of_getElem? (i := 6) rfl)), (hw _ (List.mem_of_getElem? (i := 7) rfl))⟩)
  have D0 := own_fldI ev0' c5
  obtain ⟨o1, ev1'⟩ := exa_v c2
  have E1 := Exa.start ev1' c2
  have S1 := Sta.start ev1' (Or.inr ⟨(hw _ (List.mem_of_getElem? (i := 6) rfl)), (hw _ (List.mem_of_getElem? (i := 16) rfl))⟩)
  have D1 := own_fldI ev1' c4
  obtain ⟨o2, ev2'⟩ := exa_v c18
  have E2 := Exa.start ev2' c18
  have S2 := Sta.start ev2' (Or.inr ⟨(hw _ (List.mem_of_getElem? (i := 6) rfl)), (hw _ (List.mem_of_getElem? (i := 36) rfl))⟩)
  have D2 := own_fldI ev2' c19
  obtain ⟨o3, ev3'⟩ := exa_v c1
  have E3 := Exa.start ev3' c1
  have S3 := Sta.start ev3' (Or.inr ⟨(hw _ (List.mem_of_getElem? (i := 6) rfl)), (hw _ (List.mem_of_getElem? (i := 9) rfl))⟩)
  have D3 := own_fldI ev3' c3
  obtain ⟨o4, ev4'⟩ := exa_v c29
  have E4 := Exa.start ev4' c29
  have S4 := Sta.start ev4' (Or.inr ⟨(hw _ (List.mem_of_getElem? (i := 6) rfl)), (hw _ (List.mem_of_getElem? (i := 42) rfl))⟩)
  have D4 := own_fldI ev4' c30
  obtain ⟨o5, ev5'⟩ := exa_v c17
  have E5 := Exa.start ev5' c17
  have S5 := Sta.start ev5' (Or.inr ⟨(hw _ (List.mem_of_getElem? (i := 6) rfl)), (hw _ (List.mem_of_getElem? (i := 34) rfl))⟩)
  have D5 := own_fldI ev5' c20
  obtain ⟨o6, ev6'⟩ := exa_v c12
  have E6 := Exa.start ev6' c12
  have S6 := Sta.start ev6' (Or.inr ⟨(hw _ (List.mem_of_getElem? (i := 6) rfl)), (hw _ (List.mem_of_getElem? (i := 29) rfl))⟩)
  have D6 := own_fldI ev6' c13
  obtain ⟨o7, ev7'⟩ := exa_v c26
  have E7 := Exa.start ev7' c26
  have S7 := Sta.start ev7' (Or.inr ⟨(hw _ (List.mem_of_getElem? (i := 6) rfl)), (hw _ (List.mem_of_getElem? (i := 40) rfl))⟩)
  have D7 := own_fldI ev7' c27
  obtain ⟨o8, ev8'⟩ := exa_v c10
  have E8 := Exa.start ev8' c10
  have S8 := Sta.start ev8' (Or.inr ⟨(hw _ (List.mem_of_getElem? (i := 6) rfl)), (hw _ (List.mem_of_getElem? (i := 27) rfl))⟩)
  have D8 := own_fldI ev8' c11
  obtain ⟨o9, ev9'⟩ := exa_v c7
  have E9 := Exa.start ev9' c7
  have S9 := Sta.start ev9' (Or.inr ⟨(hw _ (List.mem_of_getElem? (i := 6) rfl)), (hw _ (List.mem_of_getElem? (i := 24) rfl))⟩)
  have D9 := own_fldI ev9' c8
  obtain ⟨o10, ev10'⟩ := exa_v c14
  have E10 := Exa.start ev10' c14
  have S10 := Sta.start ev10' (Or.inr ⟨(hw _ (List.mem_of_getElem? (i := 6) rfl)), (hw _ (List.mem_of_getElem? (i := 32) rfl))⟩)
  have D10 := own_fldI ev10' c15
  have F0 := own_fldN ev0' c6
  have F1 := own_fldR ev1' ev0' c24
  have F2 := own_fldR ev2' ev0' c25
  have F3 := own_fldR ev3' ev0' c9
  have F4 := own_fldR ev4' ev0' r31
  have F5 := own_fldR ev5' ev0' c21
  have F6 := own_fldR ev6' ev0' c22
  have F7 := own_fldR ev7' ev6' c31
  have F8 := own_fldR ev8' ev0' c23
  have F9 := own_fldR ev9' ev0' c16
  have F10 := own_fldR ev10' ev0' c28
  obtain ⟨O, hO⟩ : ∃ O : Nat → Addr, O = fun k => match k with | 0 => o0 | 1 => o1 | 2 => o2 | 3 => o3 | 4 => o4 | 5 => o5 | 6 => o6 | 7 => o7 | 8 => o8 | 9 => o9 | _ => o10 := ⟨_, rfl⟩
  have HD : ∀ k, k < 11 → Fld s s.heap (O k) "java/lang/Enum" "ordinal" "I" (.int (Int32.ofNat k)) := by
    intro k hk
    subst hO
    match k, hk with
    | 0, _ => exact D0
    | 1, _ => exact D1
    | 2, _ => exact D2
    | 3, _ => exact D3
    | 4, _ => exact D4
    | 5, _ => exact D5
    | 6, _ => exact D6
    | 7, _ => exact D7
    | 8, _ => exact D8
    | 9, _ => exact D9
    | 10, _ => exact D10
    | n + 11, h => exact absurd h (by omega)
  have HS : ∀ k, k < 11 → Sta s s.heap "com/example/stylesheet_engine/stylesheetengine/model/AtomicType" (own_name k) "Lcom/example/stylesheet_engine/stylesheetengine/model/AtomicType;" (.ref (O k)) := by
    intro k hk
    subst hO
    match k, hk with
    | 0, _ => exact S0
    | 1, _ => exact S1
    | 2, _ => exact S2
    | 3, _ => exact S3
    | 4, _ => exact S4
    | 5, _ => exact S5
    | 6, _ => exact S6
    | 7, _ => exact S7
    | 8, _ => exact S8
    | 9, _ => exact S9
    | 10, _ => exact S10
    | n + 11, h => exact absurd h (by omega)
  have HE : ∀ k, k < 11 → Exa s s.heap (O k) "com/example/stylesheet_engine/stylesheetengine/model/AtomicType" := by
    intro k hk
    subst hO
    match k, hk with
    | 0, _ => exact E0
    | 1, _ => exact E1
    | 2, _ => exact E2
    | 3, _ => exact E3
    | 4, _ => exact E4
    | 5, _ => exact E5
    | 6, _ => exact E6
    | 7, _ => exact E7
    | 8, _ => exact E8
    | 9, _ => exact E9
    | 10, _ => exact E10
    | n + 11, h => exact absurd h (by omega)
  have HF : ∀ k, k < 11 → Fld s s.heap (O k) "com/example/stylesheet_engine/stylesheetengine/model/AtomicType" "base" "Lcom/example/stylesheet_engine/stylesheetengine/model/AtomicType;" (own_bv O k) := by
    intro k hk
    subst hO
    match k, hk with
    | 0, _ => exact F0
    | 1, _ => exact F1
    | 2, _ => exact F2
    | 3, _ => exact F3
    | 4, _ => exact F4
    | 5, _ => exact F5
    | 6, _ => exact F6
    | 7, _ => exact F7
    | 8, _ => exact F8
    | 9, _ => exact F9
    | 10, _ => exact F10
    | n + 11, h => exact absurd h (by omega)
  have HO : OObj s s.heap O := ⟨HS, HE, HF, fun i j hi hj q => Classical.byContradiction fun hne => Fld.ne (HD i hi) (HD j hj) (fun e => hne (own_eq i j (by omega) (by omega) (Value.int.inj e))) q⟩
  obtain ⟨n, o, h1, h2, h3, _, L, rfl, ⟨rfl, N⟩, hq⟩ := rm0 l s _ hw tables_1 v0 v1 s.heap O HO p e ha hc hk s m _ below hf ((Spec.applies_iff_loose hf).mp happ).1 ⟨rfl, State.Warmed39.refl s, rfl⟩ trivial
  refine ⟨n, _, h1, h2, h3, hpost _ _ _ _ _ _ ⟨Cond.after_iff.mpr rfl, Cond.after_iff.mpr (eq_i res_at (Term.int_eval (1)) rfl), trivial⟩ ⟨hq.1, hq.2.1, (hq.2.2.sift fun y hy => Or.inr (N y hy)).mono (by decide) (by decide)⟩⟩
theorem main_1_1 : Claimed_1_1 := comes_1 fun _ _ _ _ _ _ h hF => ⟨h.1, hF⟩
theorem main_1_2 : Claimed_1_2 := comes_1 fun _ _ _ _ _ _ h hF => ⟨h.2.1, hF⟩
end Jvm.Pilot.@@N@@
namespace Jvm.Pilot.@@N@@
open Jvm Jvm.ClassFile Sem Op Lib Jvm.Free Jvm.Stand Jvm.Pilot.@@N@@.Jvm.D
/-! MADE BY PROGRAM (witnessworld.py) out of the Statement's table words and the real class files: 12 classes; the members and pool entries that the words name. The judged class is class 1, her method 3. -/
namespace start1
open Jvm.ClassFile
def u (s : String) : CpInfo := .utf8 (stringToUtf16 s)
/-- a pool by its gaps: so many unusable entries, then the entry; so many at the end -/
def gap : Nat → List CpInfo → List CpInfo
  | 0, r => r
  | n + 1, r => .unusable :: gap n r
def poolList (es : List (Nat × CpInfo)) (last : Nat) : List CpInfo := es.foldr (fun e r => gap e.1 (e.2 :: r)) (gap last [])
def pool (es : List (Nat × CpInfo)) (last : Nat) : Array CpInfo := ⟨poolList es last⟩
def fileOf (pool : Array CpInfo) (this : Nat) (attrs : Array Attribute := #[]) (ms : Array MethodInfo := #[]) (fl : Nat := 33) (sup : Nat := 0) (ifs : Array Nat := #[]) (fds : Array FieldInfo := #[]) : ClassFile where
  minorVersion := 0
  majorVersion := 65
  constantPool := pool
  accessFlags := fl
  thisClass := this
  superClass := sup
  interfaces := ifs
  fields := fds
  methods := ms
  attributes := attrs
def plain (name : String) (sup : Option ClassId) : Class where
  name := name
  kind := .ordinary
  loader := none
  accessFlags := 33
  super := sup
  interfaces := #[]
  cf := none
  fields := #[]
  methods := #[]
  instanceTypes := #[]
  staticTypes := #[]
  resolved := #[]
  callSites := []
  init := .initialized
  statics := none
  mirror := none

def pool0 : Array CpInfo := pool [(5, u "<init>"), (0, u "()V"), (1, .class_ 10), (1, u "java/lang/Object")] 113

def k0m0 : Method := { name := "<init>", desc := "()V", sig := { parameters := [], returnType := none }, accessFlags := 1, code := none }
/-- java/lang/Object -/
def k0 : Class := { plain "java/lang/Object" none with
  accessFlags := 33
  interfaces := #[]
  cf := some (fileOf pool0 8 #[] #[{ accessFlags := 1, nameIndex := 5, descriptorIndex := 6, attributes := #[] }] 33 0 #[] #[])
  fields := #[]
  methods := #[k0m0]
  instanceTypes := #[]
  staticTypes := #[]
  resolved := Array.replicate 124 none
  statics := none }

def pool1 : Array CpInfo := pool [(2, .class_ 4), (1, u "java/lang/Object"), (0, u "<init>"), (0, u "()V"), (0, .fieldref 8 9), (0, .class_ 10), (0, .nameAndType 11 12), (0, u "com/example/stylesheet_engine/stylesheetengine/model/AtomicType"), (0, u "ANY_ATOMIC"), (0, u "Lcom/example/stylesheet_engine/stylesheetengine/model/AtomicType;"), (0, .fieldref 8 14), (0, .nameAndType 15 12), (0, u "NUMERIC"), (0, .fieldref 8 17), (0, .nameAndType 18 12), (0, u "UNTYPED_ATOMIC"), (0, .fieldref 8 20), (0, .nameAndType 21 12), (0, u "STRING"), (0, .fieldref 8 23), (0, .nameAndType 24 12), (0, u "ANY_URI"), (0, .fieldref 8 26), (0, .nameAndType 27 12), (0, u "BOOLEAN"), (0, .fieldref 8 29), (0, .nameAndType 30 12), (0, u "DECIMAL"), (0, .fieldref 8 32), (0, .nameAndType 33 12), (0, u "INTEGER"), (0, .fieldref 8 35), (0, .nameAndType 36 12), (0, u "FLOAT"), (0, .fieldref 8 38), (0, .nameAndType 39 12), (0, u "DOUBLE"), (0, .fieldref 8 41), (0, .nameAndType 42 12), (0, u "TIME"), (0, .integer 2147483647), (0, .methodref 45 46), (0, .class_ 47), (0, .nameAndType 48 49), (0, u "com/example/stylesheet_engine/stylesheetengine/model/AtomicTypeIsSubtypeOfPinLaw"), (0, u "pick"), (0, u "(I)Lcom/example/stylesheet_engine/stylesheetengine/model/AtomicType;"), (0, .methodref 8 51), (0, .nameAndType 52 53), (0, u "isSubtypeOf"), (0, u "(Lcom/example/stylesheet_engine/stylesheetengine/model/AtomicType;)Z"), (0, .methodref 45 55), (0, .nameAndType 56 57), (0, u "expected"), (0, u "(II)Z"), (3, u "law")] 2

def k1m0 : Method := { name := "<init>", desc := "()V", sig := { parameters := [], returnType := none }, accessFlags := 1, code := none }
def k1c1 : Code := { maxStack := 2, maxLocals := 1, code := method_2_code, exceptionTable := #[], attributes := #[] }
def k1m1 : Method := { name := "pick", desc := "(I)Lcom/example/stylesheet_engine/stylesheetengine/model/AtomicType;", sig := { parameters := [.int], returnType := some (.object "com/example/stylesheet_engine/stylesheetengine/model/AtomicType") }, accessFlags := 10, code := some k1c1 }
def k1c2 : Code := { maxStack := 2, maxLocals := 2, code := method_3_code, exceptionTable := #[], attributes := #[] }
def k1m2 : Method := { name := "expected", desc := "(II)Z", sig := { parameters := [.int, .int], returnType := some .boolean }, accessFlags := 10, code := some k1c2 }
def k1c3 : Code := { maxStack := 3, maxLocals := 6, code := code, exceptionTable := #[], attributes := #[] }
def k1m3 : Method := { name := "law", desc := "(II)Z", sig := { parameters := [.int, .int], returnType := some .boolean }, accessFlags := 9, code := some k1c3 }
/-- com/example/stylesheet_engine/stylesheetengine/model/AtomicTypeIsSubtypeOfPinLaw -/
def k1 : Class := { plain "com/example/stylesheet_engine/stylesheetengine/model/AtomicTypeIsSubtypeOfPinLaw" (some 0) with
  accessFlags := 49
  interfaces := #[]
  cf := some (fileOf pool1 45 #[] #[{ accessFlags := 1, nameIndex := 5, descriptorIndex := 6, attributes := #[] }, { accessFlags := 10, nameIndex := 48, descriptorIndex := 49, attributes := #[] }, { accessFlags := 10, nameIndex := 56, descriptorIndex := 57, attributes := #[] }, { accessFlags := 9, nameIndex := 61, descriptorIndex := 57, attributes := #[] }] 49 2 #[] #[])
  fields := #[]
  methods := #[k1m0, k1m1, k1m2, k1m3]
  instanceTypes := #[]
  staticTypes := #[]
  resolved := Array.replicate 64 none
  statics := none }

def pool2 : Array CpInfo := pool [(1, .class_ 2), (0, u "java/lang/constant/Constable"), (0, .class_ 4), (0, u "java/lang/Object")] 6

/-- java/lang/constant/Constable -/
def k2 : Class := { plain "java/lang/constant/Constable" (some 0) with
  accessFlags := 1537
  interfaces := #[]
  cf := some (fileOf pool2 1 #[] #[] 1537 3 #[] #[])
  fields := #[]
  methods := #[]
  instanceTypes := #[]
  staticTypes := #[]
  resolved := Array.replicate 11 none
  statics := none }

def pool3 : Array CpInfo := pool [(1, .class_ 2), (0, u "java/lang/Comparable"), (0, .class_ 4), (0, u "java/lang/Object")] 7

/-- java/lang/Comparable -/
def k3 : Class := { plain "java/lang/Comparable" (some 0) with
  accessFlags := 1537
  interfaces := #[]
  cf := some (fileOf pool3 1 #[] #[] 1537 3 #[] #[])
  fields := #[]
  methods := #[]
  instanceTypes := #[]
  staticTypes := #[]
  resolved := Array.replicate 12 none
  statics := none }

def pool4 : Array CpInfo := pool [(1, .class_ 2), (0, u "java/io/Serializable"), (0, .class_ 4), (0, u "java/lang/Object")] 2

/-- java/io/Serializable -/
def k4 : Class := { plain "java/io/Serializable" (some 0) with
  accessFlags := 1537
  interfaces := #[]
  cf := some (fileOf pool4 1 #[] #[] 1537 3 #[] #[])
  fields := #[]
  methods := #[]
  instanceTypes := #[]
  staticTypes := #[]
  resolved := Array.replicate 7 none
  statics := none }

def pool5 : Array CpInfo := pool [(2, .class_ 4), (1, u "java/lang/Enum"), (0, u "name"), (0, u "Ljava/lang/String;"), (2, u "ordinal"), (0, u "I"), (1, .class_ 14), (1, u "java/lang/Object"), (4, u "hash"), (86, .class_ 108), (1, u "java/lang/Enum$EnumDesc"), (2, .class_ 112), (0, u "java/lang/constant/Constable"), (0, .class_ 114), (0, u "java/lang/Comparable"), (0, .class_ 116), (0, u "java/io/Serializable")] 87

/-- java/lang/Enum -/
def k5 : Class := { plain "java/lang/Enum" (some 0) with
  accessFlags := 1057
  interfaces := #[2, 3, 4]
  cf := some (fileOf pool5 2 #[.nestMembers #[106]] #[] 1057 12 #[111, 113, 115] #[{ accessFlags := 18, nameIndex := 5, descriptorIndex := 6, attributes := #[] }, { accessFlags := 18, nameIndex := 9, descriptorIndex := 10, attributes := #[] }, { accessFlags := 2, nameIndex := 19, descriptorIndex := 10, attributes := #[] }])
  fields := #[{ name := "name", type := (.object "java/lang/String"), accessFlags := 18, slot := 0, constantValue := 0 }, { name := "ordinal", type := .int, accessFlags := 18, slot := 1, constantValue := 0 }, { name := "hash", type := .int, accessFlags := 2, slot := 2, constantValue := 0 }]
  methods := #[]
  instanceTypes := #[(.object "java/lang/String"), .int, .int]
  staticTypes := #[]
  resolved := Array.replicate 204 none
  statics := none }

def pool6 : Array CpInfo := pool [(1, .class_ 2), (0, u "com/example/stylesheet_engine/stylesheetengine/model/AtomicType"), (2, u "ANY_ATOMIC"), (0, u "Lcom/example/stylesheet_engine/stylesheetengine/model/AtomicType;"), (0, .fieldref 1 8), (0, .nameAndType 9 6), (0, u "NUMERIC"), (2, u "UNTYPED_ATOMIC"), (2, u "STRING"), (2, u "ANY_URI"), (2, u "BOOLEAN"), (0, .fieldref 1 23), (0, .nameAndType 24 6), (0, u "DECIMAL"), (2, u "INTEGER"), (0, .fieldref 1 29), (0, .nameAndType 30 6), (0, u "FLOAT"), (0, .fieldref 1 32), (0, .nameAndType 33 6), (0, u "DOUBLE"), (2, u "TIME"), (2, u "$VALUES"), (0, u "[Lcom/example/stylesheet_engine/stylesheetengine/model/AtomicType;"), (6, .class_ 49), (1, u "java/lang/Enum"), (8, u "localName"), (0, u "Ljava/lang/String;"), (0, .fieldref 1 61), (0, .nameAndType 62 6), (0, u "base"), (14, .methodref 1 78), (0, .nameAndType 79 80), (0, u "isSubtypeOf"), (0, u "(Lcom/example/stylesheet_engine/stylesheetengine/model/AtomicType;)Z")] 73

def k6c0 : Code := { maxStack := 2, maxLocals := 4, code := prog_31_method_7_code, exceptionTable := #[], attributes := #[] }
def k6m0 : Method := { name := "isSubtypeOf", desc := "(Lcom/example/stylesheet_engine/stylesheetengine/model/AtomicType;)Z", sig := { parameters := [(.object "com/example/stylesheet_engine/stylesheetengine/model/AtomicType")], returnType := some .boolean }, accessFlags := 1, code := some k6c0 }
/-- com/example/stylesheet_engine/stylesheetengine/model/AtomicType -/
def k6 : Class := { plain "com/example/stylesheet_engine/stylesheetengine/model/AtomicType" (some 5) with
  accessFlags := 16433
  interfaces := #[]
  cf := some (fileOf pool6 1 #[] #[{ accessFlags := 1, nameIndex := 79, descriptorIndex := 80, attributes := #[] }] 16433 47 #[] #[{ accessFlags := 16409, nameIndex := 5, descriptorIndex := 6, attributes := #[] }, { accessFlags := 16409, nameIndex := 9, descriptorIndex := 6, attributes := #[] }, { accessFlags := 16409, nameIndex := 12, descriptorIndex := 6, attributes := #[] }, { accessFlags := 16409, nameIndex := 15, descriptorIndex := 6, attributes := #[] }, { accessFlags := 16409, nameIndex := 18, descriptorIndex := 6, attributes := #[] }, { accessFlags := 16409, nameIndex := 21, descriptorIndex := 6, attributes := #[] }, { accessFlags := 16409, nameIndex := 24, descriptorIndex := 6, attributes := #[] }, { accessFlags := 16409, nameIndex := 27, descriptorIndex := 6, attributes := #[] }, { accessFlags := 16409, nameIndex := 30, descriptorIndex := 6, attributes := #[] }, { accessFlags := 16409, nameIndex := 33, descriptorIndex := 6, attributes := #[] }, { accessFlags := 16409, nameIndex := 36, descriptorIndex := 6, attributes := #[] }, { accessFlags := 18, nameIndex := 58, descriptorIndex := 59, attributes := #[] }, { accessFlags := 18, nameIndex := 62, descriptorIndex := 6, attributes := #[] }, { accessFlags := 4122, nameIndex := 39, descriptorIndex := 40, attributes := #[] }])
  fields := #[{ name := "ANY_ATOMIC", type := (.object "com/example/stylesheet_engine/stylesheetengine/model/AtomicType"), accessFlags := 16409, slot := 0, constantValue := 0 }, { name := "NUMERIC", type := (.object "com/example/stylesheet_engine/stylesheetengine/model/AtomicType"), accessFlags := 16409, slot := 1, constantValue := 0 }, { name := "UNTYPED_ATOMIC", type := (.object "com/example/stylesheet_engine/stylesheetengine/model/AtomicType"), accessFlags := 16409, slot := 2, constantValue := 0 }, { name := "STRING", type := (.object "com/example/stylesheet_engine/stylesheetengine/model/AtomicType"), accessFlags := 16409, slot := 3, constantValue := 0 }, { name := "ANY_URI", type := (.object "com/example/stylesheet_engine/stylesheetengine/model/AtomicType"), accessFlags := 16409, slot := 4, constantValue := 0 }, { name := "BOOLEAN", type := (.object "com/example/stylesheet_engine/stylesheetengine/model/AtomicType"), accessFlags := 16409, slot := 5, constantValue := 0 }, { name := "DECIMAL", type := (.object "com/example/stylesheet_engine/stylesheetengine/model/AtomicType"), accessFlags := 16409, slot := 6, constantValue := 0 }, { name := "INTEGER", type := (.object "com/example/stylesheet_engine/stylesheetengine/model/AtomicType"), accessFlags := 16409, slot := 7, constantValue := 0 }, { name := "FLOAT", type := (.object "com/example/stylesheet_engine/stylesheetengine/model/AtomicType"), accessFlags := 16409, slot := 8, constantValue := 0 }, { name := "DOUBLE", type := (.object "com/example/stylesheet_engine/stylesheetengine/model/AtomicType"), accessFlags := 16409, slot := 9, constantValue := 0 }, { name := "TIME", type := (.object "com/example/stylesheet_engine/stylesheetengine/model/AtomicType"), accessFlags := 16409, slot := 10, constantValue := 0 }, { name := "localName", type := (.object "java/lang/String"), accessFlags := 18, slot := 3, constantValue := 0 }, { name := "base", type := (.object "com/example/stylesheet_engine/stylesheetengine/model/AtomicType"), accessFlags := 18, slot := 4, constantValue := 0 }, { name := "$VALUES", type := (.array (.object "com/example/stylesheet_engine/stylesheetengine/model/AtomicType")), accessFlags := 4122, slot := 11, constantValue := 0 }]
  methods := #[k6m0]
  instanceTypes := #[(.object "java/lang/String"), .int, .int, (.object "java/lang/String"), (.object "com/example/stylesheet_engine/stylesheetengine/model/AtomicType")]
  staticTypes := #[(.object "com/example/stylesheet_engine/stylesheetengine/model/AtomicType"), (.object "com/example/stylesheet_engine/stylesheetengine/model/AtomicType"), (.object "com/example/stylesheet_engine/stylesheetengine/model/AtomicType"), (.object "com/example/stylesheet_engine/stylesheetengine/model/AtomicType"), (.object "com/example/stylesheet_engine/stylesheetengine/model/AtomicType"), (.object "com/example/stylesheet_engine/stylesheetengine/model/AtomicType"), (.object "com/example/stylesheet_engine/stylesheetengine/model/AtomicType"), (.object "com/example/stylesheet_engine/stylesheetengine/model/AtomicType"), (.object "com/example/stylesheet_engine/stylesheetengine/model/AtomicType"), (.object "com/example/stylesheet_engine/stylesheetengine/model/AtomicType"), (.object "com/example/stylesheet_engine/stylesheetengine/model/AtomicType"), (.array (.object "com/example/stylesheet_engine/stylesheetengine/model/AtomicType"))]
  resolved := Array.replicate 154 none
  statics := some 0 }

def pool7 : Array CpInfo := pool [(1, u "java/lang/Cloneable"), (0, .class_ 1), (0, u "java/lang/Object"), (0, .class_ 3)] 3

/-- java/lang/Cloneable -/
def k7 : Class := { plain "java/lang/Cloneable" (some 0) with
  accessFlags := 1537
  interfaces := #[]
  cf := some (fileOf pool7 2 #[] #[] 1537 4 #[] #[])
  fields := #[]
  methods := #[]
  instanceTypes := #[]
  staticTypes := #[]
  resolved := Array.replicate 8 none
  statics := none }

/-- the primitive byte -/
def k8 : Class := { plain "byte" none with kind := .primitive 'B', accessFlags := 0x411 }
/-- [B -/
def k9 : Class := { plain "[B" (some 0) with kind := .array 8 .byte, interfaces := #[7, 4], accessFlags := 1041 }

/-- the primitive int -/
def k10 : Class := { plain "int" none with kind := .primitive 'I', accessFlags := 0x411 }
/-- [I -/
def k11 : Class := { plain "[I" (some 0) with kind := .array 10 .int, interfaces := #[7, 4], accessFlags := 1041 }

def heap : Heap := #[{ cls := 6, slots := #[.ref 1, .ref 2, .ref 3, .ref 4, .ref 5, .ref 6, .ref 7, .ref 8, .ref 9, .ref 10, .ref 11, .null], vm := .statics 6 },
  { cls := 6, slots := #[.null, .int 0, .int 0, .null, .null], vm := .none },
  { cls := 6, slots := #[.null, .int 1, .int 0, .null, .ref 1], vm := .none },
  { cls := 6, slots := #[.null, .int 2, .int 0, .null, .ref 1], vm := .none },
  { cls := 6, slots := #[.null, .int 3, .int 0, .null, .ref 1], vm := .none },
  { cls := 6, slots := #[.null, .int 4, .int 0, .null, .ref 1], vm := .none },
  { cls := 6, slots := #[.null, .int 5, .int 0, .null, .ref 1], vm := .none },
  { cls := 6, slots := #[.null, .int 6, .int 0, .null, .ref 1], vm := .none },
  { cls := 6, slots := #[.null, .int 7, .int 0, .null, .ref 7], vm := .none },
  { cls := 6, slots := #[.null, .int 8, .int 0, .null, .ref 1], vm := .none },
  { cls := 6, slots := #[.null, .int 9, .int 0, .null, .ref 1], vm := .none },
  { cls := 6, slots := #[.null, .int 10, .int 0, .null, .ref 1], vm := .none }]
def classes : Array Class := #[k0, k1, k2, k3, k4, k5, k6, k7, k8, k9, k10, k11]
def interned : List (Array UInt16 × Addr) := []
def slotsUsed : Nat := 67
def theMethod : MethodId := ⟨1, 3⟩
def args0 : Array Value := #[.int 5, .int 3]
def aboutOver (below : List Frame) : State where
  vm := { classes := classes, interned := interned.toArray }
  heap := heap
  slotsUsed := slotsUsed
  threads := #[{ frames := .invoking theMethod args0 :: below }]
def below0 : List Frame := [.native { method := ⟨0, 0⟩, args := #[] }]
def about1 : State := aboutOver below0
def p0 : Program := .bare "" "" ""
def e0 : Env := launch0.env 0 0 0
theorem w_frames : about1.frames = Frame.invoking theMethod args0 :: below0 := rfl
set_option maxRecDepth 65536 in
theorem w_args : argsFit about1.vm theMethod args0 = true := by decide +kernel
set_option maxRecDepth 65536 in
theorem w_heap : heapFits about1 = true := by decide +kernel
set_option maxRecDepth 65536 in
theorem w_runnable : about1.curStatus? = some .runnable := by decide +kernel
set_option maxRecDepth 65536 in
theorem w_alone : about1.alone = true := by decide +kernel
set_option maxRecDepth 65536 in
theorem w_named : about1.methodNamed? x = some theMethod := by decide +kernel
set_option maxRecDepth 65536 in
theorem w_hears : about1.hears theMethod below0 = true := by decide +kernel
set_option maxRecDepth 65536 in
theorem w_ripe : about1.ripe theMethod args0 below0 = true := by decide +kernel
theorem w_running : about1.status = .running := rfl
set_option maxRecDepth 65536 in
theorem w_room : about1.hasRoom e0.platform room_1 = true :=
  launch0.hasRoom_least _ room_1 (by decide +kernel) (by decide +kernel) (by decide +kernel) (by decide +kernel) (by decide +kernel) (by decide +kernel)
theorem allAtoms_all (ts : List Jvm.Cond) (a : Array Jvm.Value) (st : Jvm.State) : (allAtoms ts).before a st = ts.all (fun c => c.before a st) := by
  induction ts with
  | nil => rfl
  | cons c t ih =>
    show (Jvm.Cond.and c (allAtoms t)).before a st = _
    rw [Jvm.Cond.before_and, ih, List.all_cons]
def words1 : List Jvm.Cond := Jvm.Cond.code x code maxLocals ret :: tables_1
/-- a 'code' word, met by the world's own term for the bytes: nothing is compared byte by byte -/
theorem code_word {y : MethodName} {bytes : ByteArray} {mx : Nat} {rt : Option FieldType} {a : Array Value} {s : State} {m : MethodId} {meth : Method} {c : Code} (h1 : s.methodNamed? y = some m) (h2 : s.vm.method? m = some meth) (h3 : meth.code = some c) (h4 : c.code = bytes)
    (h5 : (c.maxLocals == mx && c.exceptionTable.isEmpty && decide (c.maxStack ≤ mostOperands) && decide (meth.sig.returnType = rt) && !meth.locks && decide (parseMethodDescriptor y.desc = some meth.sig)) = true) : (Jvm.Cond.code y bytes mx rt).before a s = true := by
  simp only [Bool.and_eq_true, beq_iff_eq, Bool.not_eq_true', decide_eq_true_eq] at h5
  obtain ⟨⟨⟨⟨⟨g1, g2⟩, g3⟩, g4⟩, g5⟩, g6⟩ := h5
  simp [Cond.before, Cond.holds, Cond.value, h1, h2, h3, h4, g1, g2, g3, g4, g5, g6]
def isCode : Jvm.Cond → Bool
  | .code _ _ _ _ => true
  | _ => false
theorem all_split {L : List Jvm.Cond} {P : Jvm.Cond → Bool} (h1 : L.all (fun c => isCode c || P c) = true) (h2 : ∀ c ∈ L.filter isCode, P c = true) : L.all P = true := by
  refine List.all_eq_true.mpr fun c hc => ?_
  have h := List.all_eq_true.mp h1 c hc
  rcases Bool.eq_false_or_eq_true (isCode c) with hi | hi
  · exact h2 c (List.mem_filter.mpr ⟨hc, hi⟩)
  · simpa [hi] using h
set_option maxRecDepth 65536 in
theorem w_c0 : (Jvm.Cond.code x code maxLocals ret).before args0 about1 = true := code_word (m := ⟨1, 3⟩) (meth := k1m3) (c := k1c3) (by decide +kernel) rfl rfl rfl (by decide +kernel)
set_option maxRecDepth 65536 in
theorem w_c1 : (Jvm.Cond.code ({ cls := "com/example/stylesheet_engine/stylesheetengine/model/AtomicTypeIsSubtypeOfPinLaw", name := "pick", desc := "(I)Lcom/example/stylesheet_engine/stylesheetengine/model/AtomicType;" } : Jvm.MethodName) method_2_code (1 : Nat) (Option.some (Jvm.ClassFile.FieldType.object "com/example/stylesheet_engine/stylesheetengine/model/AtomicType"))).before args0 about1 = true := code_word (m := ⟨1, 1⟩) (meth := k1m1) (c := k1c1) (by decide +kernel) rfl rfl rfl (by decide +kernel)
set_option maxRecDepth 65536 in
theorem w_c2 : (Jvm.Cond.code ({ cls := "com/example/stylesheet_engine/stylesheetengine/model/AtomicType", name := "isSubtypeOf", desc := "(Lcom/example/stylesheet_engine/stylesheetengine/model/AtomicType;)Z" } : Jvm.MethodName) prog_31_method_7_code (4 : Nat) (Option.some Jvm.ClassFile.FieldType.boolean)).before args0 about1 = true := code_word (m := ⟨6, 0⟩) (meth := k6m0) (c := k6c0) (by decide +kernel) rfl rfl rfl (by decide +kernel)
set_option maxRecDepth 65536 in
theorem w_c3 : (Jvm.Cond.code ({ cls := "com/example/stylesheet_engine/stylesheetengine/model/AtomicTypeIsSubtypeOfPinLaw", name := "expected", desc := "(II)Z" } : Jvm.MethodName) method_3_code (2 : Nat) (Option.some Jvm.ClassFile.FieldType.boolean)).before args0 about1 = true := code_word (m := ⟨1, 2⟩) (meth := k1m2) (c := k1c2) (by decide +kernel) rfl rfl rfl (by decide +kernel)
def codes1 : List Jvm.Cond := [Jvm.Cond.code x code maxLocals ret, Jvm.Cond.code ({ cls := "com/example/stylesheet_engine/stylesheetengine/model/AtomicTypeIsSubtypeOfPinLaw", name := "pick", desc := "(I)Lcom/example/stylesheet_engine/stylesheetengine/model/AtomicType;" } : Jvm.MethodName) method_2_code (1 : Nat) (Option.some (Jvm.ClassFile.FieldType.object "com/example/stylesheet_engine/stylesheetengine/model/AtomicType")), Jvm.Cond.code ({ cls := "com/example/stylesheet_engine/stylesheetengine/model/AtomicType", name := "isSubtypeOf", desc := "(Lcom/example/stylesheet_engine/stylesheetengine/model/AtomicType;)Z" } : Jvm.MethodName) prog_31_method_7_code (4 : Nat) (Option.some Jvm.ClassFile.FieldType.boolean), Jvm.Cond.code ({ cls := "com/example/stylesheet_engine/stylesheetengine/model/AtomicTypeIsSubtypeOfPinLaw", name := "expected", desc := "(II)Z" } : Jvm.MethodName) method_3_code (2 : Nat) (Option.some Jvm.ClassFile.FieldType.boolean)]
set_option maxRecDepth 65536 in
theorem codes_eq : words1.filter isCode = codes1 := rfl
theorem w_codes : ∀ c ∈ words1.filter isCode, c.before args0 about1 = true := by
  rw [codes_eq]
  intro c hc
  simp only [codes1, List.mem_cons, List.not_mem_nil, or_false] at hc
  rcases hc with rfl | rfl | rfl | rfl
  · exact w_c0
  · exact w_c1
  · exact w_c2
  · exact w_c3
set_option maxRecDepth 65536 in
theorem w_t1 : (words1.take 24).all (fun c => isCode c || c.before args0 about1) = true := by decide +kernel
set_option maxRecDepth 65536 in
theorem w_t2 : (words1.drop 24).all (fun c => isCode c || c.before args0 about1) = true := by decide +kernel
theorem w_tables : (allAtoms (Jvm.Cond.code x code maxLocals ret :: tables_1)).before args0 about1 = true := by
  rw [allAtoms_all]
  show words1.all (fun c => c.before args0 about1) = true
  refine all_split ?_ w_codes
  rw [← List.take_append_drop 24 words1, List.all_append, w_t1, w_t2]
  rfl
set_option maxRecDepth 65536 in
theorem w_case : (Jvm.Cond.and given_1 narrow_1).before args0 about1 = true := by decide +kernel
theorem w_applies : (headSpec (Jvm.Cond.code x code maxLocals ret :: tables_1) room_1).applies x e0.platform about1 = true :=
  (Spec.applies_iff w_frames).mpr ⟨w_running, w_runnable, w_alone, w_named, w_hears, w_ripe, w_room, w_tables⟩
theorem atStart : AtStart classFile x code maxLocals ret World_1 tables_1 room_1 Calls_1 rest_1 Pre_1 launch0 p0 e0 about1 theMethod args0 below0 :=
  ⟨lists_1, trivial, launch0.admits_env _ _ _, launch0.least_env, fairChoices_fair.cas, fairChoices_fair.clock, w_frames, w_args, w_heap, w_applies, trivial, trivial, w_case⟩
end start1
theorem witness_1 : WitnessClaimed_1 := ⟨start1.p0, start1.e0, start1.about1, start1.theMethod, start1.args0, start1.below0, start1.atStart⟩
end Jvm.Pilot.@@N@@
