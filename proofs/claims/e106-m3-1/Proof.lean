import JvmDerived
import JvmDerived.Pilot.@@N@@Statement
import JvmDerived.Pilot.@@N@@Code
set_option linter.unusedVariables false
set_option linter.unusedSimpArgs false
namespace Jvm.Pilot.@@N@@
open Jvm Jvm.ClassFile Sem Op Lib Jvm.Free Jvm.Stand Jvm.LawKit Jvm.RoadKit Bundle Jvm.Pilot.@@N@@.Jvm.D
section OwnKit
variable {p : Program} {l : Launch} {e : Env} {R : Room} {s : State} {m : MethodId} {args : Array Value} {below : List Frame} {meth : Method} {c : Code} {T : State} {locs : List Loc} {cells slots : Nat} {Z : State} {a0 : Array Value} {h : Heap} {ce sl : Nat} {Q : Option Value → Heap → List Loc → Prop} {S : State}
/-- a contract's last word, under a name of its own -/
def OQ (Q : Option Value → Heap → List Loc → Prop) (v : Option Value) (h : Heap) (L : List Loc) : Prop := Q v h L
theorem own_q {z r : Int32} (hr : z = r) (eT : T.heap = h) (hQ : Q (some (.int r)) h locs) : Q (some (.int z)) T.heap locs := by subst hr; rw [eT]; exact hQ
theorem own_qJ {z r : Int64} (hr : z = r) (eT : T.heap = h) (hQ : Q (some (.long r)) h locs) : Q (some (.long z)) T.heap locs := by subst hr; rw [eT]; exact hQ
/-- from S the body runs to its return, and leaves what Q says -/
def OFin (p : Program) (e : Env) (below : List Frame) (s : State) (ce sl : Nat) (Q : Option Value → Heap → List Loc → Prop) (S : State) : Prop :=
  ∃ (t : State) (o : Outcome), Steps p.tables e below S t ∧ t.status = .running ∧ Ended t below o ∧ ∃ v L, o = .returned v ∧ Q v t.heap L ∧ FrameEnd s o t L ce sl
theorem OFin.start {S' : State} (st : ∀ target, Steps p.tables e below S' target → Steps p.tables e below S target) (k : OFin p e below s ce sl Q S') :
    ∃ (t : State) (o : Outcome), Steps p.tables e below S t ∧ t.status = .running ∧ Ended t below o ∧ ∃ v L, o = .returned v ∧ Q v t.heap L ∧ FrameEnd s o t L ce sl := by
  obtain ⟨t, o, h, r⟩ := k
  exact ⟨t, o, st _ h, r⟩
theorem OFin.to (S' : State) (st : ∀ target, Steps p.tables e below S' target → Steps p.tables e below S target) (k : OFin p e below s ce sl Q S') : OFin p e below s ce sl Q S := OFin.start st k
theorem OFin.via (S' : State) (st : Steps p.tables e below S S') (k : OFin p e below s ce sl Q S') : OFin p e below s ce sl Q S := OFin.start (fun _ h => st.trans h) k
theorem OFin.mono {Q' : Option Value → Heap → List Loc → Prop} (k : OFin p e below s ce sl Q' S) (h : ∀ v h L, Q' v h L → Q v h L) : OFin p e below s ce sl Q S := by
  obtain ⟨t, o, h1, h2, h3, v, L, h4, h5, h6⟩ := k
  exact ⟨t, o, h1, h2, h3, v, L, h4, h _ _ _ h5, h6⟩
theorem OFin.retZ (X : Stand p l e R s m args below meth c T locs cells slots) (hx : p.tables.exec = Jvm.exec) {t : FieldType} (hret : meth.sig.returnType = some t) (ht : t = .boolean ∨ t = .byte ∨ t = .char ∨ t = .short) (hlk : meth.locks = false) {pc : Nat} {Ls : Array Slot} {z : Int32} {rest : List Value}
    (hd : decode c.code pc = .ok (.ireturn, 1)) (hc : cells ≤ ce) (hs : slots ≤ sl) (hQ : Q (some (.int (nar t z))) T.heap locs) : OFin p e below s ce sl Q (T.setTop (mkF m pc Ls (.int z :: rest))) := by
  obtain ⟨fs, hr, hrun, hended, hW, hsame⟩ := X.leave (v := some (.int (nar t z))) (fun h => by rw [hret] at h; cases h) hlk
  exact ⟨_, _, retN X hx hret ht hd hr, hrun, hended, _, _, rfl, hQ, ⟨_, rfl⟩, hW, hsame.mono hc hs⟩
theorem OFin.retI (X : Stand p l e R s m args below meth c T locs cells slots) (hx : p.tables.exec = Jvm.exec) (hret : meth.sig.returnType = some .int) (hlk : meth.locks = false) {pc : Nat} {Ls : Array Slot} {z : Int32} {rest : List Value}
    (hd : decode c.code pc = .ok (.ireturn, 1)) (hc : cells ≤ ce) (hs : slots ≤ sl) (hQ : Q (some (.int z)) T.heap locs) : OFin p e below s ce sl Q (T.setTop (mkF m pc Ls (.int z :: rest))) := by
  obtain ⟨fs, hr, hrun, hended, hW, hsame⟩ := X.leave (v := some (.int z)) (fun h => by rw [hret] at h; cases h) hlk
  refine ⟨_, _, ?_, hrun, hended, _, _, rfl, hQ, ⟨_, rfl⟩, hW, hsame.mono hc hs⟩
  have hm' : T.vm.method? m = some meth := X.method'
  have hn : narrow .int (.int z) = .int z := rfl
  show Steps p.tables e below (T.setTop { method := m, pc := pc, locals := Ls, stack := _ :: rest, locked := none }) _
  jvm_step X.here [X.here.top, hx, hd, hm', hret, hn]
  first | (intro acts; rw [hr _ acts rfl rfl rfl]) | rw [hr _ _ rfl rfl rfl]
  exact Steps.refl _
theorem OFin.retJ (X : Stand p l e R s m args below meth c T locs cells slots) (hx : p.tables.exec = Jvm.exec) (hret : meth.sig.returnType = some .long) (hlk : meth.locks = false) {pc : Nat} {Ls : Array Slot} {z : Int64} {rest : List Value}
    (hd : decode c.code pc = .ok (.lreturn, 1)) (hc : cells ≤ ce) (hs : slots ≤ sl) (hQ : Q (some (.long z)) T.heap locs) : OFin p e below s ce sl Q (T.setTop (mkF m pc Ls (.long z :: rest))) := by
  obtain ⟨fs, hr, hrun, hended, hW, hsame⟩ := X.leave (v := some (.long z)) (fun h => by rw [hret] at h; cases h) hlk
  refine ⟨_, _, ?_, hrun, hended, _, _, rfl, hQ, ⟨_, rfl⟩, hW, hsame.mono hc hs⟩
  have hm' : T.vm.method? m = some meth := X.method'
  show Steps p.tables e below (T.setTop { method := m, pc := pc, locals := Ls, stack := _ :: rest, locked := none }) _
  jvm_step X.here [X.here.top, hx, hd, hm', hret, narrow]
  first | (intro acts; rw [hr _ acts rfl rfl rfl]) | rw [hr _ _ rfl rfl rfl]
  exact Steps.refl _
theorem OFin.retV (X : Stand p l e R s m args below meth c T locs cells slots) (hx : p.tables.exec = Jvm.exec) (hret : meth.sig.returnType = none) (hlk : meth.locks = false) {pc : Nat} {Ls : Array Slot}
    (hd : decode c.code pc = .ok (.return_, 1)) (hc : cells ≤ ce) (hs : slots ≤ sl) (hQ : Q none T.heap locs) : OFin p e below s ce sl Q (T.setTop (mkF m pc Ls [])) := by
  obtain ⟨fs, hr, hrun, hended, hW, hsame⟩ := X.leave (v := none) (fun _ => rfl) hlk
  exact ⟨_, _, X.returnOut hx hret hd hr, hrun, hended, _, _, rfl, hQ, ⟨_, rfl⟩, hW, hsame.mono hc hs⟩
/-- a static call by the callee's contract -/
theorem own_callS {y : MethodName} {bytes : ByteArray} {maxL : Nat} {ret : Option FieldType} {rm : Room} {as' : List Value} {QQ : Option Value → Heap → List Loc → Prop} {own : String} {index : Nat}
    (X : Stand p l e R s m args below meth c T locs cells slots) (hx : p.tables.exec = Jvm.exec) (hZ : Z.Warmed39 s.vm) (hown : s.vm.findClass own = some m.cls)
    (w1 : (Cond.methodLink own index y).before a0 Z = true) (w2 : (Cond.static y).before a0 Z = true) (w3 : (Cond.initialized y.cls).before a0 Z = true) (w4 : (Cond.code y bytes maxL ret).before a0 Z = true) (hy : y.cls ≠ "java/lang/invoke/MethodHandle" ∧ y.cls ≠ "java/lang/invoke/VarHandle") (eT : T.heap = h)
    (hM : MetFree l y (head1 [Cond.code y bytes maxL ret] rm) (fun a U => a = as'.toArray ∧ Z.Warmed39 U.vm ∧ U.heap = h) (fun _ _ _ _ _ => True) (fun _ U o U' => ∃ v L, o = .returned v ∧ OQ QQ v U'.heap L ∧ FrameEnd U o U' L rm.cells rm.slots))
    (W : Nat) (hf : rm.frames + 1 ≤ R.frames) (hl : W + (maxL + 11) + rm.locals ≤ R.locals) (hc : cells + rm.cells ≤ R.cells) (hs : slots + rm.slots ≤ R.slots)
    {g : JFrame} (hg : g.method = m) (hsize : g.locals.size = c.maxLocals) {rest : List Value} (hlen : ∀ sig, parseMethodDescriptor y.desc = some sig → as'.length = sig.parameters.length) (hstack : g.stack = as'.reverse ++ rest) (hW : 2 * g.monitorRoom + (rest.map fun v => v.category).sum ≤ W) (hd : decode c.code g.pc = .ok (.invokestatic index, 3)) :
    ∃ v T' L, QQ v T'.heap L ∧ Stand p l e R s m args below meth c T' (locs ++ L) (cells + rm.cells) (slots + rm.slots) ∧ ∀ target, Steps p.tables e below (T'.setTop { g with pc := g.pc + 3, stack := v.toList ++ rest }) target → Steps p.tables e below (T.setTop g) target := by
  obtain ⟨v, _, ⟨T', L1, k1, n1⟩, -, X', ⟨L, hQ, l1, y1, z1⟩, st⟩ := Jvm.LawKit.callS X hx (y := y) hown (mvT hZ w1) (mvT hZ w2) (mvT hZ w3) (mvT hZ w4) hy (backOf (W := W) (Q := OQ QQ) hM hZ w4 w3 hf hl) (g := g) hg hsize (argsL := as') (rest := rest) hlen hstack hW hd (fun _ _ => ⟨rfl, eT, hc, hs⟩)
  dsimp only [Pt.U, Pt.locs, Pt.cells, Pt.slots] at X' l1 y1 z1 st hQ
  subst l1 y1 z1
  exact ⟨v, T', L, hQ, X', st⟩
/-- a static call of a body that writes and makes nothing -/
theorem own_callSP {y : MethodName} {bytes : ByteArray} {maxL : Nat} {ret : Option FieldType} {rm : Room} {as' : List Value} {v : Value} {own : String} {index : Nat}
    (X : Stand p l e R s m args below meth c T locs cells slots) (hx : p.tables.exec = Jvm.exec) (hZ : Z.Warmed39 s.vm) (hown : s.vm.findClass own = some m.cls)
    (w1 : (Cond.methodLink own index y).before a0 Z = true) (w2 : (Cond.static y).before a0 Z = true) (w3 : (Cond.initialized y.cls).before a0 Z = true) (w4 : (Cond.code y bytes maxL ret).before a0 Z = true) (hy : y.cls ≠ "java/lang/invoke/MethodHandle" ∧ y.cls ≠ "java/lang/invoke/VarHandle") (eT : T.heap = h)
    (hM : MetFree l y (head1 [Cond.code y bytes maxL ret] rm) (fun a U => a = as'.toArray ∧ Z.Warmed39 U.vm ∧ U.heap = h) (fun _ _ _ _ _ => True) (fun _ U o U' => ∃ v' L, o = .returned v' ∧ OQ (fun v' h' L => v' = some v ∧ h' = h ∧ L = []) v' U'.heap L ∧ FrameEnd U o U' L rm.cells rm.slots))
    (hrc : rm.cells = 0) (hrs : rm.slots = 0) (W : Nat) (hf : rm.frames + 1 ≤ R.frames) (hl : W + (maxL + 11) + rm.locals ≤ R.locals) (hc : cells ≤ R.cells) (hs : slots ≤ R.slots)
    {g : JFrame} (hg : g.method = m) (hsize : g.locals.size = c.maxLocals) {rest : List Value} (hlen : ∀ sig, parseMethodDescriptor y.desc = some sig → as'.length = sig.parameters.length) (hstack : g.stack = as'.reverse ++ rest) (hW : 2 * g.monitorRoom + (rest.map fun v => v.category).sum ≤ W) (hd : decode c.code g.pc = .ok (.invokestatic index, 3)) :
    ∃ T', Stand p l e R s m args below meth c T' locs cells slots ∧ T'.heap = h ∧ ∀ target, Steps p.tables e below (T'.setTop { g with pc := g.pc + 3, stack := v :: rest }) target → Steps p.tables e below (T.setTop g) target := by
  obtain ⟨v', T', L, ⟨rfl, hh, rfl⟩, X', st⟩ := own_callS X hx hZ hown w1 w2 w3 w4 hy eT hM W hf hl (by rw [hrc]; exact hc) (by rw [hrs]; exact hs) hg hsize hlen hstack hW hd
  rw [hrc, hrs, List.append_nil] at X'
  exact ⟨T', X', hh, st⟩
theorem OFin.retA (X : Stand p l e R s m args below meth c T locs cells slots) (hx : p.tables.exec = Jvm.exec) {t : FieldType} (hret : meth.sig.returnType = some t) (ht : t.isReference = true) (hlk : meth.locks = false) {pc : Nat} {Ls : Array Slot} {a : Addr} {rest : List Value}
    (hd : decode c.code pc = .ok (.areturn, 1)) (hc : cells ≤ ce) (hs : slots ≤ sl) (hQ : Q (some (.ref a)) T.heap locs) : OFin p e below s ce sl Q (T.setTop (mkF m pc Ls (.ref a :: rest))) := by
  obtain ⟨fs, hr, hrun, hended, hW, hsame⟩ := X.leave (v := some (.ref a)) (fun h => by rw [hret] at h; cases h) hlk
  refine ⟨_, _, ?_, hrun, hended, _, _, rfl, hQ, ⟨_, rfl⟩, hW, hsame.mono hc hs⟩
  have hm' : T.vm.method? m = some meth := X.method'
  show Steps p.tables e below (T.setTop { method := m, pc := pc, locals := Ls, stack := _ :: rest, locked := none }) _
  jvm_step X.here [X.here.top, hx, hd, hm', hret, ht, Value.isRef]
  first | (intro acts; rw [hr _ acts rfl rfl rfl]) | rw [hr _ _ rfl rfl rfl]
  exact Steps.refl _
theorem own_nar0 : nar .boolean (0 : Int32) = 0 := by decide
theorem own_nar1 : nar .boolean (1 : Int32) = 1 := by decide
end OwnKit
section OwnArr
variable {p : Program} {l : Launch} {e : Env} {R : Room} {s : State} {m : MethodId} {args : Array Value} {below : List Frame} {meth : Method} {c : Code} {T : State} {locs : List Loc} {cells slots : Nat} {Z : State} {a0 : Array Value} {h h' : Heap} {a b : Addr} {ty : FieldType} {vs : List Value} {v : Value} {i : Nat}
/-- the array at a holds just these -/
def OArr (Z : State) (h : Heap) (a : Addr) (ty : FieldType) (vs : List Value) : Prop := ∃ cl : Cell, Arr Z h a cl ty ∧ cl.slots = vs.toArray
theorem OArr.lt (V : OArr Z h a ty vs) : a < h.size := by obtain ⟨cl, A, -⟩ := V; exact A.lt
theorem OArr.ext (V : OArr Z h a ty vs) (E : Ext h h') : OArr Z h' a ty vs := by obtain ⟨cl, A, r⟩ := V; exact ⟨cl, A.ext E, r⟩
theorem OArr.other (V : OArr Z h b ty vs) (W : Wr h h' a i v) (q : b ≠ a) : OArr Z h' b ty vs := by obtain ⟨cl, A, r⟩ := V; exact ⟨cl, A.other W q, r⟩
theorem OArr.keep {ws : List Addr} (V : OArr Z h a ty vs) (K : Keep h h' ws) (q : a ∉ ws) : OArr Z h' a ty vs := by obtain ⟨cl, A, r⟩ := V; exact ⟨cl, ⟨K.2.1 a cl A.1 q, A.2⟩, r⟩
theorem OArr.set (V : OArr Z h a ty vs) (W : Wr h h' a i v) : OArr Z h' a ty (vs.set i v) := by
  obtain ⟨cl, A, r⟩ := V
  exact ⟨_, A.same W, by simp [Cell.setSlot, r]⟩
theorem own_newP (X : Stand p l e R s m args below meth c T locs cells slots) (hx : p.tables.exec = Jvm.exec) (hZ : Z.Warmed39 s.vm) {aty : ArrayType} (w : (Cond.arrayClass (newarray.typeOf aty)).before a0 Z = true) (eT : T.heap = h) {g : JFrame} (hg : g.method = m) (hd : decode c.code g.pc = .ok (.newarray aty, 2)) {n : Int32} {rest : List Value} (hs : g.stack = .int n :: rest)
    (hn : ¬ n < 0) (N : Nat) (hN : n.toNatClampNeg = N) {cap : Nat} (hcap : N ≤ cap) (hb : cap * 8 ≤ 536870912) (hc : cells + 1 ≤ R.cells) (hl : slots + cap ≤ R.slots) :
    ∃ T' h', Stand p l e R s m args below meth c T' locs (cells + 1) (slots + cap) ∧ T'.heap = h' ∧ Ext h h' ∧ OArr Z h' h.size (newarray.typeOf aty) (List.replicate N (defaultValue (newarray.typeOf aty))) ∧
      ∀ target, Steps p.tables e below (T'.setTop { g with pc := g.pc + 2, stack := .ref h.size :: rest }) target → Steps p.tables e below (T.setTop g) target := by
  obtain ⟨T', h', cA, X', e', E, A, st⟩ := newP X hx hZ w eT hg hd hs hn (cap := cap) (by rw [hN]; exact hcap) hb hc hl
  exact ⟨T', h', X', e', E, ⟨_, A, by simp [newA, hN]⟩, st⟩
theorem own_in (V : OArr Z h a ty vs) : ∃ cl : Cell, Arr Z h a cl ty ∧ cl.slots = vs.toArray ∧ ∀ j : Int32, ¬ j < 0 → j.toNatClampNeg < vs.length → ¬ (j < 0 ∨ cl.slots.size ≤ j.toNatClampNeg) := by
  obtain ⟨cl, A, r⟩ := V
  refine ⟨cl, A, r, fun j h1 h2 h3 => h3.elim h1 fun q => ?_⟩
  rw [r] at q
  simp at q
  omega
theorem own_stI (X : Stand p l e R s m args below meth c T locs cells slots) (hx : p.tables.exec = Jvm.exec) (hZ : Z.Warmed39 s.vm) (eT : T.heap = h) (V : OArr Z h a .int vs) {j x : Int32} (i : Nat) (hj0 : ¬ j < 0) (hj : j.toNatClampNeg = i) (hi : i < vs.length) {g : JFrame} (hg : g.method = m) {rest : List Value} (hs : g.stack = .int x :: .int j :: .ref a :: rest) (hd : decode c.code g.pc = .ok (.iastore, 1)) :
    ∃ T' h', Stand p l e R s m args below meth c T' (locs ++ [⟨a, i⟩]) cells slots ∧ T'.heap = h' ∧ Wr h h' a i (.int x) ∧ OArr Z h' a .int (vs.set i (.int x)) ∧ ∀ target, Steps p.tables e below (T'.setTop { g with pc := g.pc + 1, stack := rest }) target → Steps p.tables e below (T.setTop g) target := by
  obtain ⟨cl, A, r, q⟩ := own_in V
  subst hj
  obtain ⟨T', h', X', e', W, st⟩ := stI X hx hZ eT A (j := j) (q j hj0 hi) hg hs hd
  exact ⟨T', h', X', e', W, V.set W, st⟩
theorem own_stJ (X : Stand p l e R s m args below meth c T locs cells slots) (hx : p.tables.exec = Jvm.exec) (hZ : Z.Warmed39 s.vm) (eT : T.heap = h) (V : OArr Z h a .long vs) {j : Int32} {x : Int64} (i : Nat) (hj0 : ¬ j < 0) (hj : j.toNatClampNeg = i) (hi : i < vs.length) {g : JFrame} (hg : g.method = m) {rest : List Value} (hs : g.stack = .long x :: .int j :: .ref a :: rest) (hd : decode c.code g.pc = .ok (.lastore, 1)) :
    ∃ T' h', Stand p l e R s m args below meth c T' (locs ++ [⟨a, i⟩]) cells slots ∧ T'.heap = h' ∧ Wr h h' a i (.long x) ∧ OArr Z h' a .long (vs.set i (.long x)) ∧ ∀ target, Steps p.tables e below (T'.setTop { g with pc := g.pc + 1, stack := rest }) target → Steps p.tables e below (T.setTop g) target := by
  obtain ⟨cl, A, r, q⟩ := own_in V
  subst hj
  obtain ⟨T', h', X', e', W, st⟩ := stJ X hx hZ eT A (j := j) (q j hj0 hi) hg hs hd
  exact ⟨T', h', X', e', W, V.set W, st⟩
theorem own_stB (X : Stand p l e R s m args below meth c T locs cells slots) (hx : p.tables.exec = Jvm.exec) (hZ : Z.Warmed39 s.vm) (eT : T.heap = h) (V : OArr Z h a .byte vs) {j x : Int32} (i : Nat) (hj0 : ¬ j < 0) (hj : j.toNatClampNeg = i) (hi : i < vs.length) {g : JFrame} (hg : g.method = m) {rest : List Value} (hs : g.stack = .int x :: .int j :: .ref a :: rest) (hd : decode c.code g.pc = .ok (.bastore, 1)) :
    ∃ T' h', Stand p l e R s m args below meth c T' (locs ++ [⟨a, i⟩]) cells slots ∧ T'.heap = h' ∧ Wr h h' a i (.int (nar .byte x)) ∧ OArr Z h' a .byte (vs.set i (.int (nar .byte x))) ∧ ∀ target, Steps p.tables e below (T'.setTop { g with pc := g.pc + 1, stack := rest }) target → Steps p.tables e below (T.setTop g) target := by
  obtain ⟨cl, A, r, q⟩ := own_in V
  subst hj
  obtain ⟨T', h', X', e', W, st⟩ := stB X hx hZ eT A (j := j) (q j hj0 hi) hg hs hd
  exact ⟨T', h', X', e', W, V.set W, st⟩
theorem own_ldI (X : Stand p l e R s m args below meth c T locs cells slots) (hx : p.tables.exec = Jvm.exec) (hZ : Z.Warmed39 s.vm) (eT : T.heap = h) (V : OArr Z h a .int vs) {j : Int32} {v : Value} (hj0 : ¬ j < 0) (hv : vs[j.toNatClampNeg]? = some v) {g : JFrame} (hg : g.method = m) {rest : List Value} (hs : g.stack = .int j :: .ref a :: rest) (hd : decode c.code g.pc = .ok (.iaload, 1)) (target : State)
    (hr : Steps p.tables e below (T.setTop { g with pc := g.pc + 1, stack := v :: rest }) target) : Steps p.tables e below (T.setTop g) target := by
  obtain ⟨cl, A, r, q⟩ := own_in V
  exact X.iaload hx (j := j) (v := v) (by rw [eT]; exact A.1) (State.isArrayOf_alike hZ.alike A.2.1) A.2.2 (q j hj0 (List.getElem?_eq_some_iff.mp hv).1) (by rw [r]; simpa using hv) hg hs hd _ hr
theorem own_ldJ (X : Stand p l e R s m args below meth c T locs cells slots) (hx : p.tables.exec = Jvm.exec) (hZ : Z.Warmed39 s.vm) (eT : T.heap = h) (V : OArr Z h a .long vs) {j : Int32} {v : Value} (hj0 : ¬ j < 0) (hv : vs[j.toNatClampNeg]? = some v) {g : JFrame} (hg : g.method = m) {rest : List Value} (hs : g.stack = .int j :: .ref a :: rest) (hd : decode c.code g.pc = .ok (.laload, 1)) (target : State)
    (hr : Steps p.tables e below (T.setTop { g with pc := g.pc + 1, stack := v :: rest }) target) : Steps p.tables e below (T.setTop g) target := by
  obtain ⟨cl, A, r, q⟩ := own_in V
  exact X.laload hx (j := j) (v := v) (by rw [eT]; exact A.1) (State.isArrayOf_alike hZ.alike A.2.1) A.2.2 (q j hj0 (List.getElem?_eq_some_iff.mp hv).1) (by rw [r]; simpa using hv) hg hs hd _ hr
theorem own_ldB (X : Stand p l e R s m args below meth c T locs cells slots) (hx : p.tables.exec = Jvm.exec) (hZ : Z.Warmed39 s.vm) (eT : T.heap = h) (V : OArr Z h a .byte vs) {j : Int32} {v : Value} (hj0 : ¬ j < 0) (hv : vs[j.toNatClampNeg]? = some v) {g : JFrame} (hg : g.method = m) {rest : List Value} (hs : g.stack = .int j :: .ref a :: rest) (hd : decode c.code g.pc = .ok (.baload, 1)) (target : State)
    (hr : Steps p.tables e below (T.setTop { g with pc := g.pc + 1, stack := v :: rest }) target) : Steps p.tables e below (T.setTop g) target := by
  obtain ⟨cl, A, r, q⟩ := own_in V
  exact X.baloadBytes hx (j := j) (v := v) (by rw [eT]; exact A.1) (State.isArrayOf_alike hZ.alike A.2.1) A.2.2 (q j hj0 (List.getElem?_eq_some_iff.mp hv).1) (by rw [r]; simpa using hv) hg hs hd _ hr
theorem own_ldR (X : Stand p l e R s m args below meth c T locs cells slots) (hx : p.tables.exec = Jvm.exec) (hZ : Z.Warmed39 s.vm) (eT : T.heap = h) (V : OArr Z h a ty vs) (hty : ty.isReference = true) {j : Int32} {v : Value} (hj0 : ¬ j < 0) (hv : vs[j.toNatClampNeg]? = some v) {g : JFrame} (hg : g.method = m) {rest : List Value} (hs : g.stack = .int j :: .ref a :: rest) (hd : decode c.code g.pc = .ok (.aaload, 1)) (target : State)
    (hr : Steps p.tables e below (T.setTop { g with pc := g.pc + 1, stack := v :: rest }) target) : Steps p.tables e below (T.setTop g) target := by
  obtain ⟨cl, A, r, q⟩ := own_in V
  exact X.aaload hx (j := j) (v := v) (by rw [eT]; exact A.1) (State.isArrayOf_alike hZ.alike A.2.1) hty A.2.2 (q j hj0 (List.getElem?_eq_some_iff.mp hv).1) (by rw [r]; simpa using hv) hg hs hd _ hr
theorem own_len (X : Stand p l e R s m args below meth c T locs cells slots) (hx : p.tables.exec = Jvm.exec) (hZ : Z.Warmed39 s.vm) (eT : T.heap = h) (V : OArr Z h a ty vs) {n : Int32} (hn : vs.length.toInt32 = n) {g : JFrame} (hg : g.method = m) {rest : List Value} (hs : g.stack = .ref a :: rest) (hd : decode c.code g.pc = .ok (.arraylength, 1)) (target : State)
    (hr : Steps p.tables e below (T.setTop { g with pc := g.pc + 1, stack := .int n :: rest }) target) : Steps p.tables e below (T.setTop g) target := by
  obtain ⟨cl, A, r, q⟩ := own_in V
  refine X.arraylength hx (by rw [eT]; exact A.1) (State.isArrayOf_alike hZ.alike A.2.1) hg hs hd _ ?_
  rw [r]
  rw [← hn] at hr
  simpa using hr
end OwnArr
theorem pd_0 : parseMethodDescriptor "(I)Z" = some ⟨[.int], some .boolean⟩ := by decide +kernel
theorem d1_0 : decode prog_80_method_6_code 0 = .ok (.iload_n 0, 1) := by decide +kernel
theorem d1_1 : decode prog_80_method_6_code 1 = .ok (.bipush 9, 2) := by decide +kernel
theorem d1_3 : decode prog_80_method_6_code 3 = .ok (.if_icmp .eq 51, 3) := by decide +kernel
theorem d1_6 : decode prog_80_method_6_code 6 = .ok (.iload_n 0, 1) := by decide +kernel
theorem d1_7 : decode prog_80_method_6_code 7 = .ok (.bipush 10, 2) := by decide +kernel
theorem d1_9 : decode prog_80_method_6_code 9 = .ok (.if_icmp .eq 45, 3) := by decide +kernel
theorem d1_12 : decode prog_80_method_6_code 12 = .ok (.iload_n 0, 1) := by decide +kernel
theorem d1_13 : decode prog_80_method_6_code 13 = .ok (.bipush 13, 2) := by decide +kernel
theorem d1_15 : decode prog_80_method_6_code 15 = .ok (.if_icmp .eq 39, 3) := by decide +kernel
theorem d1_18 : decode prog_80_method_6_code 18 = .ok (.iload_n 0, 1) := by decide +kernel
theorem d1_19 : decode prog_80_method_6_code 19 = .ok (.bipush 32, 2) := by decide +kernel
theorem d1_21 : decode prog_80_method_6_code 21 = .ok (.if_icmp .lt 9, 3) := by decide +kernel
theorem d1_24 : decode prog_80_method_6_code 24 = .ok (.iload_n 0, 1) := by decide +kernel
theorem d1_25 : decode prog_80_method_6_code 25 = .ok (.ldc 53, 2) := by decide +kernel
theorem d1_27 : decode prog_80_method_6_code 27 = .ok (.if_icmp .le 27, 3) := by decide +kernel
theorem d1_30 : decode prog_80_method_6_code 30 = .ok (.iload_n 0, 1) := by decide +kernel
theorem d1_31 : decode prog_80_method_6_code 31 = .ok (.ldc 54, 2) := by decide +kernel
theorem d1_33 : decode prog_80_method_6_code 33 = .ok (.if_icmp .lt 9, 3) := by decide +kernel
theorem d1_36 : decode prog_80_method_6_code 36 = .ok (.iload_n 0, 1) := by decide +kernel
theorem d1_37 : decode prog_80_method_6_code 37 = .ok (.ldc 55, 2) := by decide +kernel
theorem d1_39 : decode prog_80_method_6_code 39 = .ok (.if_icmp .le 15, 3) := by decide +kernel
theorem d1_42 : decode prog_80_method_6_code 42 = .ok (.iload_n 0, 1) := by decide +kernel
theorem d1_43 : decode prog_80_method_6_code 43 = .ok (.ldc 56, 2) := by decide +kernel
theorem d1_45 : decode prog_80_method_6_code 45 = .ok (.if_icmp .lt 13, 3) := by decide +kernel
theorem d1_48 : decode prog_80_method_6_code 48 = .ok (.iload_n 0, 1) := by decide +kernel
theorem d1_49 : decode prog_80_method_6_code 49 = .ok (.ldc 57, 2) := by decide +kernel
theorem d1_51 : decode prog_80_method_6_code 51 = .ok (.if_icmp .gt 7, 3) := by decide +kernel
theorem d1_54 : decode prog_80_method_6_code 54 = .ok (.iconst 1, 1) := by decide +kernel
theorem d1_55 : decode prog_80_method_6_code 55 = .ok (.goto 4, 3) := by decide +kernel
theorem d1_58 : decode prog_80_method_6_code 58 = .ok (.iconst 0, 1) := by decide +kernel
theorem d1_59 : decode prog_80_method_6_code 59 = .ok (.ireturn, 1) := by decide +kernel
def f1_59 (i0 : Int32) (t0 : Int32) : Int32 := (nar .boolean t0)
def f1_58 (i0 : Int32) : Int32 := (f1_59 i0 (0 : Int32))
def f1_54 (i0 : Int32) : Int32 := (f1_59 i0 (1 : Int32))
def f1_42 (i0 : Int32) : Int32 := (if i0 < (65536 : Int32) then (f1_58 i0) else (if (1114111 : Int32) < i0 then (f1_58 i0) else (f1_54 i0)))
def f1_30 (i0 : Int32) : Int32 := (if i0 < (57344 : Int32) then (f1_42 i0) else (if (65533 : Int32) < i0 then (f1_42 i0) else (f1_54 i0)))
def f1_0 (p0 : Int32) : Int32 := (if p0 = (9 : Int32) then (f1_54 p0) else (if p0 = (10 : Int32) then (f1_54 p0) else (if p0 = (13 : Int32) then (f1_54 p0) else (if p0 < (32 : Int32) then (f1_30 p0) else (if (55295 : Int32) < p0 then (f1_30 p0) else (f1_54 p0))))))
set_option maxRecDepth 65536 in
set_option maxHeartbeats 40000000 in
theorem ro1_0 {p : Program} {l : Launch} {e : Env} {s : State} {m : MethodId} {args : Array Value} {below : List Frame} {meth : Method} {c : Code} {T : State} {locs : List Loc} {cells slots : Nat} {Z : State} {a0 : Array Value} {h : Heap} {ce sl : Nat} {Q : Option Value → Heap → List Loc → Prop} (p0 : Int32)
    (X : Stand p l e ({ frames := 0, cells := 0, slots := 0, locals := 0 } : Room) s m args below meth c T locs cells slots) (hx : p.tables.exec = Jvm.exec) (hZ : Z.Warmed39 s.vm) (hw : ∀ d ∈ tables_1, d.before a0 Z = true) (hby : c.code = prog_80_method_6_code) (hml : c.maxLocals = 1) (hown : s.vm.findClass "com/example/stylesheet_engine/stylesheetengine/model/XmlChars" = some m.cls) (hret : meth.sig.returnType = some .boolean) (hlk : meth.locks = false) (eT : T.heap = h) (hc : cells ≤ ce) (hs : slots ≤ sl) (hcR : cells ≤ (({ frames := 0, cells := 0, slots := 0, locals := 0 } : Room)).cells) (hsR : slots ≤ (({ frames := 0, cells := 0, slots := 0, locals := 0 } : Room)).slots)
    (hQ : Q (some (.int (f1_0 p0))) h locs) : OFin p e below s ce sl Q (T.setTop (mkF m 0 #[.val (.int p0)] [])) := by
  obtain ⟨r, hr0⟩ : ∃ r, f1_0 p0 = r := ⟨_, rfl⟩
  rw [hr0] at hQ
  have B59 : ∀ (T : State) (i0 : Int32) (t0 : Int32), Stand p l e ({ frames := 0, cells := 0, slots := 0, locals := 0 } : Room) s m args below meth c T locs cells slots → T.heap = h → f1_59 i0 t0 = r → OFin p e below s ce sl Q (T.setTop (mkF m 59 #[.val (.int i0)] [(.int t0)])) := by
    intro T i0 t0 X eT hr
    exact OFin.retZ X hx (t := .boolean) hret (by simp) hlk (hb hby d1_59) hc hs (own_q (hr) eT hQ)
  have B58 : ∀ (T : State) (i0 : Int32), Stand p l e ({ frames := 0, cells := 0, slots := 0, locals := 0 } : Room) s m args below meth c T locs cells slots → T.heap = h → f1_58 i0 = r → OFin p e below s ce sl Q (T.setTop (mkF m 58 #[.val (.int i0)] [])) := by
    intro T i0 X eT hr
    refine OFin.to (T.setTop (mkF m 59 #[.val (.int i0)] [(.int (0 : Int32))])) (fun _ kt => XS.iconst X.here hx rfl (hb hby d1_58) kt) ?_
    exact B59 T i0 (0 : Int32) X eT hr
  have B54 : ∀ (T : State) (i0 : Int32), Stand p l e ({ frames := 0, cells := 0, slots := 0, locals := 0 } : Room) s m args below meth c T locs cells slots → T.heap = h → f1_54 i0 = r → OFin p e below s ce sl Q (T.setTop (mkF m 54 #[.val (.int i0)] [])) := by
    intro T i0 X eT hr
    refine OFin.to (T.setTop (mkF m 55 #[.val (.int i0)] [(.int (1 : Int32))])) (fun _ kt => XS.iconst X.here hx rfl (hb hby d1_54) kt) ?_
    refine OFin.to (T.setTop (mkF m 59 #[.val (.int i0)] [(.int (1 : Int32))])) (fun _ kt => XS.goto X.here hx rfl (pc0 := 55) (pc' := 59) rfl (hb hby d1_55) (by decide) (by decide) kt) ?_
    exact B59 T i0 (1 : Int32) X eT hr
  have B42 : ∀ (T : State) (i0 : Int32), Stand p l e ({ frames := 0, cells := 0, slots := 0, locals := 0 } : Room) s m args below meth c T locs cells slots → T.heap = h → f1_42 i0 = r → OFin p e below s ce sl Q (T.setTop (mkF m 42 #[.val (.int i0)] [])) := by
    intro T i0 X eT hr
    refine OFin.to (T.setTop (mkF m 43 #[.val (.int i0)] [(.int i0)])) (fun _ kt => XS.iloadN X.here hx rfl (hb hby d1_42) rfl kt) ?_
    refine OFin.to (T.setTop (mkF m 45 #[.val (.int i0)] [(.int (65536 : Int32)), (.int i0)])) (fun _ kt => X.ldcI hx hown (mvT hZ (hw _ (List.mem_of_getElem? (i := 17) rfl))) (g := (mkF m 43 #[.val (.int i0)] [(.int i0)])) rfl (hb hby d1_43) kt) ?_
    by_cases hc45 : i0 < (65536 : Int32)
    · have hr := (if_pos hc45).symm.trans hr
      refine OFin.to (T.setTop (mkF m 58 #[.val (.int i0)] [])) (fun _ kt => XS.icmpYes X.here hx rfl (pc0 := 45) (pc' := 58) rfl (hb hby d1_45) rfl (XT.ii_lt_t hc45) (by decide) (by decide) kt) ?_
      exact B58 T i0 X eT hr
    · have hr := (if_neg hc45).symm.trans hr
      refine OFin.to (T.setTop (mkF m 48 #[.val (.int i0)] [])) (fun _ kt => XS.icmpNo X.here hx rfl (hb hby d1_45) rfl (XT.ii_lt_f hc45) kt) ?_
      refine OFin.to (T.setTop (mkF m 49 #[.val (.int i0)] [(.int i0)])) (fun _ kt => XS.iloadN X.here hx rfl (hb hby d1_48) rfl kt) ?_
      refine OFin.to (T.setTop (mkF m 51 #[.val (.int i0)] [(.int (1114111 : Int32)), (.int i0)])) (fun _ kt => X.ldcI hx hown (mvT hZ (hw _ (List.mem_of_getElem? (i := 24) rfl))) (g := (mkF m 49 #[.val (.int i0)] [(.int i0)])) rfl (hb hby d1_49) kt) ?_
      by_cases hc51 : (1114111 : Int32) < i0
      · have hr := (if_pos hc51).symm.trans hr
        refine OFin.to (T.setTop (mkF m 58 #[.val (.int i0)] [])) (fun _ kt => XS.icmpYes X.here hx rfl (pc0 := 51) (pc' := 58) rfl (hb hby d1_51) rfl (XT.ii_gt_t hc51) (by decide) (by decide) kt) ?_
        exact B58 T i0 X eT hr
      · have hr := (if_neg hc51).symm.trans hr
        refine OFin.to (T.setTop (mkF m 54 #[.val (.int i0)] [])) (fun _ kt => XS.icmpNo X.here hx rfl (hb hby d1_51) rfl (XT.ii_gt_f hc51) kt) ?_
        exact B54 T i0 X eT hr
  have B30 : ∀ (T : State) (i0 : Int32), Stand p l e ({ frames := 0, cells := 0, slots := 0, locals := 0 } : Room) s m args below meth c T locs cells slots → T.heap = h → f1_30 i0 = r → OFin p e below s ce sl Q (T.setTop (mkF m 30 #[.val (.int i0)] [])) := by
    intro T i0 X eT hr
    refine OFin.to (T.setTop (mkF m 31 #[.val (.int i0)] [(.int i0)])) (fun _ kt => XS.iloadN X.here hx rfl (hb hby d1_30) rfl kt) ?_
    refine OFin.to (T.setTop (mkF m 33 #[.val (.int i0)] [(.int (57344 : Int32)), (.int i0)])) (fun _ kt => X.ldcI hx hown (mvT hZ (hw _ (List.mem_of_getElem? (i := 16) rfl))) (g := (mkF m 31 #[.val (.int i0)] [(.int i0)])) rfl (hb hby d1_31) kt) ?_
    by_cases hc33 : i0 < (57344 : Int32)
    · have hr := (if_pos hc33).symm.trans hr
      refine OFin.to (T.setTop (mkF m 42 #[.val (.int i0)] [])) (fun _ kt => XS.icmpYes X.here hx rfl (pc0 := 33) (pc' := 42) rfl (hb hby d1_33) rfl (XT.ii_lt_t hc33) (by decide) (by decide) kt) ?_
      exact B42 T i0 X eT hr
    · have hr := (if_neg hc33).symm.trans hr
      refine OFin.to (T.setTop (mkF m 36 #[.val (.int i0)] [])) (fun _ kt => XS.icmpNo X.here hx rfl (hb hby d1_33) rfl (XT.ii_lt_f hc33) kt) ?_
      refine OFin.to (T.setTop (mkF m 37 #[.val (.int i0)] [(.int i0)])) (fun _ kt => XS.iloadN X.here hx rfl (hb hby d1_36) rfl kt) ?_
      refine OFin.to (T.setTop (mkF m 39 #[.val (.int i0)] [(.int (65533 : Int32)), (.int i0)])) (fun _ kt => X.ldcI hx hown (mvT hZ (hw _ (List.mem_of_getElem? (i := 23) rfl))) (g := (mkF m 37 #[.val (.int i0)] [(.int i0)])) rfl (hb hby d1_37) kt) ?_
      by_cases hc39 : (65533 : Int32) < i0
      · have hr := (if_pos hc39).symm.trans hr
        refine OFin.to (T.setTop (mkF m 42 #[.val (.int i0)] [])) (fun _ kt => XS.icmpNo X.here hx rfl (hb hby d1_39) rfl (XT.ii_le_f hc39) kt) ?_
        exact B42 T i0 X eT hr
      · have hr := (if_neg hc39).symm.trans hr
        refine OFin.to (T.setTop (mkF m 54 #[.val (.int i0)] [])) (fun _ kt => XS.icmpYes X.here hx rfl (pc0 := 39) (pc' := 54) rfl (hb hby d1_39) rfl (XT.ii_le_t hc39) (by decide) (by decide) kt) ?_
        exact B54 T i0 X eT hr
  have B0 : ∀ (T : State) , Stand p l e ({ frames := 0, cells := 0, slots := 0, locals := 0 } : Room) s m args below meth c T locs cells slots → T.heap = h → f1_0 p0 = r → OFin p e below s ce sl Q (T.setTop (mkF m 0 #[.val (.int p0)] [])) := by
    intro T  X eT hr
    refine OFin.to (T.setTop (mkF m 1 #[.val (.int p0)] [(.int p0)])) (fun _ kt => XS.iloadN X.here hx rfl (hb hby d1_0) rfl kt) ?_
    refine OFin.to (T.setTop (mkF m 3 #[.val (.int p0)] [(.int (9 : Int32)), (.int p0)])) (fun _ kt => XS.bipush X.here hx rfl (hb hby d1_1) kt) ?_
    by_cases hc3 : p0 = (9 : Int32)
    · have hr := (if_pos hc3).symm.trans hr
      refine OFin.to (T.setTop (mkF m 54 #[.val (.int p0)] [])) (fun _ kt => XS.icmpYes X.here hx rfl (pc0 := 3) (pc' := 54) rfl (hb hby d1_3) rfl (XT.ii_eq_t hc3) (by decide) (by decide) kt) ?_
      exact B54 T p0 X eT hr
    · have hr := (if_neg hc3).symm.trans hr
      refine OFin.to (T.setTop (mkF m 6 #[.val (.int p0)] [])) (fun _ kt => XS.icmpNo X.here hx rfl (hb hby d1_3) rfl (XT.ii_eq_f hc3) kt) ?_
      refine OFin.to (T.setTop (mkF m 7 #[.val (.int p0)] [(.int p0)])) (fun _ kt => XS.iloadN X.here hx rfl (hb hby d1_6) rfl kt) ?_
      refine OFin.to (T.setTop (mkF m 9 #[.val (.int p0)] [(.int (10 : Int32)), (.int p0)])) (fun _ kt => XS.bipush X.here hx rfl (hb hby d1_7) kt) ?_
      by_cases hc9 : p0 = (10 : Int32)
      · have hr := (if_pos hc9).symm.trans hr
        refine OFin.to (T.setTop (mkF m 54 #[.val (.int p0)] [])) (fun _ kt => XS.icmpYes X.here hx rfl (pc0 := 9) (pc' := 54) rfl (hb hby d1_9) rfl (XT.ii_eq_t hc9) (by decide) (by decide) kt) ?_
        exact B54 T p0 X eT hr
      · have hr := (if_neg hc9).symm.trans hr
        refine OFin.to (T.setTop (mkF m 12 #[.val (.int p0)] [])) (fun _ kt => XS.icmpNo X.here hx rfl (hb hby d1_9) rfl (XT.ii_eq_f hc9) kt) ?_
        refine OFin.to (T.setTop (mkF m 13 #[.val (.int p0)] [(.int p0)])) (fun _ kt => XS.iloadN X.here hx rfl (hb hby d1_12) rfl kt) ?_
        refine OFin.to (T.setTop (mkF m 15 #[.val (.int p0)] [(.int (13 : Int32)), (.int p0)])) (fun _ kt => XS.bipush X.here hx rfl (hb hby d1_13) kt) ?_
        by_cases hc15 : p0 = (13 : Int32)
        · have hr := (if_pos hc15).symm.trans hr
          refine OFin.to (T.setTop (mkF m 54 #[.val (.int p0)] [])) (fun _ kt => XS.icmpYes X.here hx rfl (pc0 := 15) (pc' := 54) rfl (hb hby d1_15) rfl (XT.ii_eq_t hc15) (by decide) (by decide) kt) ?_
          exact B54 T p0 X eT hr
        · have hr := (if_neg hc15).symm.trans hr
          refine OFin.to (T.setTop (mkF m 18 #[.val (.int p0)] [])) (fun _ kt => XS.icmpNo X.here hx rfl (hb hby d1_15) rfl (XT.ii_eq_f hc15) kt) ?_
          refine OFin.to (T.setTop (mkF m 19 #[.val (.int p0)] [(.int p0)])) (fun _ kt => XS.iloadN X.here hx rfl (hb hby d1_18) rfl kt) ?_
          refine OFin.to (T.setTop (mkF m 21 #[.val (.int p0)] [(.int (32 : Int32)), (.int p0)])) (fun _ kt => XS.bipush X.here hx rfl (hb hby d1_19) kt) ?_
          by_cases hc21 : p0 < (32 : Int32)
          · have hr := (if_pos hc21).symm.trans hr
            refine OFin.to (T.setTop (mkF m 30 #[.val (.int p0)] [])) (fun _ kt => XS.icmpYes X.here hx rfl (pc0 := 21) (pc' := 30) rfl (hb hby d1_21) rfl (XT.ii_lt_t hc21) (by decide) (by decide) kt) ?_
            exact B30 T p0 X eT hr
          · have hr := (if_neg hc21).symm.trans hr
            refine OFin.to (T.setTop (mkF m 24 #[.val (.int p0)] [])) (fun _ kt => XS.icmpNo X.here hx rfl (hb hby d1_21) rfl (XT.ii_lt_f hc21) kt) ?_
            refine OFin.to (T.setTop (mkF m 25 #[.val (.int p0)] [(.int p0)])) (fun _ kt => XS.iloadN X.here hx rfl (hb hby d1_24) rfl kt) ?_
            refine OFin.to (T.setTop (mkF m 27 #[.val (.int p0)] [(.int (55295 : Int32)), (.int p0)])) (fun _ kt => X.ldcI hx hown (mvT hZ (hw _ (List.mem_of_getElem? (i := 22) rfl))) (g := (mkF m 25 #[.val (.int p0)] [(.int p0)])) rfl (hb hby d1_25) kt) ?_
            by_cases hc27 : (55295 : Int32) < p0
            · have hr := (if_pos hc27).symm.trans hr
              refine OFin.to (T.setTop (mkF m 30 #[.val (.int p0)] [])) (fun _ kt => XS.icmpNo X.here hx rfl (hb hby d1_27) rfl (XT.ii_le_f hc27) kt) ?_
              exact B30 T p0 X eT hr
            · have hr := (if_neg hc27).symm.trans hr
              refine OFin.to (T.setTop (mkF m 54 #[.val (.int p0)] [])) (fun _ kt => XS.icmpYes X.here hx rfl (pc0 := 27) (pc' := 54) rfl (hb hby d1_27) rfl (XT.ii_le_t hc27) (by decide) (by decide) kt) ?_
              exact B54 T p0 X eT hr
  exact B0 T X eT hr0
theorem pn_1 : plainName "com/example/stylesheet_engine/stylesheetengine/model/XmlChars" = true := by first | (simp [plainName, overriddenIn]; done) | decide +kernel
theorem ef_1 (m : MethodId) (p0 : Int32) : entryFrame m #[(.int p0)] 1 = mkF m 0 #[.val (.int p0)] [] := by first | (simp [entryFrame, mkF, argsToLocals, Value.category]; done) | rfl
set_option maxRecDepth 65536 in
set_option maxHeartbeats 40000000 in
theorem rm1 (l : Launch) (Z : State) (a0 : Array Value) (hw : ∀ d ∈ tables_1, d.before a0 Z = true) (ws : List Jvm.Cond) (p0 : Int32) (h0 : Heap) :
    MetFree l (⟨"com/example/stylesheet_engine/stylesheetengine/model/XmlChars", "isXmlChar", "(I)Z"⟩ : MethodName) (head1 (Jvm.Cond.code (⟨"com/example/stylesheet_engine/stylesheetengine/model/XmlChars", "isXmlChar", "(I)Z"⟩ : MethodName) prog_80_method_6_code 1 (some .boolean) :: ws) ({ frames := 0, cells := 0, slots := 0, locals := 0 } : Room)) (fun a_ U => a_ = #[(.int p0)] ∧ Z.Warmed39 U.vm ∧ U.heap = h0) (fun _ _ _ _ _ => True) (fun _ U o_ U' => ∃ v L, o_ = .returned v ∧ OQ (fun v h L => v = some (.int (f1_0 p0)) ∧ h = h0 ∧ L = []) v U'.heap L ∧ FrameEnd U o_ U' L ({ frames := 0, cells := 0, slots := 0, locals := 0 } : Room).cells ({ frames := 0, cells := 0, slots := 0, locals := 0 } : Room).slots) := by
  refine MetFree.of_bodySF (plainFor_of_name pn_1) hisR ?_
  intro p e s m args below meth c s₁ Bd hml0 hP hK
  obtain ⟨rfl, hZ, hh⟩ := hP
  have hx := Bd.exec
  have hby := Bd.bytes
  have hml : c.maxLocals = 1 := hml0
  have hown : s.vm.findClass "com/example/stylesheet_engine/stylesheetengine/model/XmlChars" = some m.cls := findClass_of_methodNamed Bd.named
  have hnm := (name_of_methodNamed Bd.named Bd.method).1
  have hret := Bd.returns
  have hlk : meth.locks = false := Bd.notSynchronized
  have X0 : Stand p l e ({ frames := 0, cells := 0, slots := 0, locals := 0 } : Room) s m #[(.int p0)] below meth c s₁ [] 0 0 := Stand.of_body Bd
  have e0 : s₁.heap = h0 := by rw [← hh, Bd.state]; rfl
  refine OFin.start (Q := fun v h L => v = some (.int (f1_0 p0)) ∧ h = h0 ∧ L = []) (s := s) (fun t kt => castTop (ef_1 m p0) kt) ?_
  exact ro1_0 p0 X0 hx hZ hw hby hml hown hret hlk e0 (Nat.zero_le _) (Nat.zero_le _) (Nat.zero_le _) (Nat.zero_le _)  ⟨rfl, rfl, rfl⟩
theorem d2_0 : decode method_2_code 0 = .ok (.iload_n 0, 1) := by decide +kernel
theorem d2_1 : decode method_2_code 1 = .ok (.ifCond .ge 5, 3) := by decide +kernel
theorem d2_4 : decode method_2_code 4 = .ok (.iconst 0, 1) := by decide +kernel
theorem d2_5 : decode method_2_code 5 = .ok (.ireturn, 1) := by decide +kernel
theorem d2_6 : decode method_2_code 6 = .ok (.iload_n 0, 1) := by decide +kernel
theorem d2_7 : decode method_2_code 7 = .ok (.ldc 7, 2) := by decide +kernel
theorem d2_9 : decode method_2_code 9 = .ok (.if_icmp .le 5, 3) := by decide +kernel
theorem d2_12 : decode method_2_code 12 = .ok (.iconst 0, 1) := by decide +kernel
theorem d2_13 : decode method_2_code 13 = .ok (.ireturn, 1) := by decide +kernel
theorem d2_14 : decode method_2_code 14 = .ok (.iload_n 0, 1) := by decide +kernel
theorem d2_15 : decode method_2_code 15 = .ok (.bipush 32, 2) := by decide +kernel
theorem d2_17 : decode method_2_code 17 = .ok (.if_icmp .ge 27, 3) := by decide +kernel
theorem d2_20 : decode method_2_code 20 = .ok (.iload_n 0, 1) := by decide +kernel
theorem d2_21 : decode method_2_code 21 = .ok (.bipush 9, 2) := by decide +kernel
theorem d2_23 : decode method_2_code 23 = .ok (.if_icmp .eq 15, 3) := by decide +kernel
theorem d2_26 : decode method_2_code 26 = .ok (.iload_n 0, 1) := by decide +kernel
theorem d2_27 : decode method_2_code 27 = .ok (.bipush 10, 2) := by decide +kernel
theorem d2_29 : decode method_2_code 29 = .ok (.if_icmp .eq 9, 3) := by decide +kernel
theorem d2_32 : decode method_2_code 32 = .ok (.iload_n 0, 1) := by decide +kernel
theorem d2_33 : decode method_2_code 33 = .ok (.bipush 13, 2) := by decide +kernel
theorem d2_35 : decode method_2_code 35 = .ok (.if_icmp .ne 7, 3) := by decide +kernel
theorem d2_38 : decode method_2_code 38 = .ok (.iconst 1, 1) := by decide +kernel
theorem d2_39 : decode method_2_code 39 = .ok (.goto 4, 3) := by decide +kernel
theorem d2_42 : decode method_2_code 42 = .ok (.iconst 0, 1) := by decide +kernel
theorem d2_43 : decode method_2_code 43 = .ok (.ireturn, 1) := by decide +kernel
theorem d2_44 : decode method_2_code 44 = .ok (.iload_n 0, 1) := by decide +kernel
theorem d2_45 : decode method_2_code 45 = .ok (.bipush 11, 2) := by decide +kernel
theorem d2_47 : decode method_2_code 47 = .ok (.ishr, 1) := by decide +kernel
theorem d2_48 : decode method_2_code 48 = .ok (.bipush 27, 2) := by decide +kernel
theorem d2_50 : decode method_2_code 50 = .ok (.if_icmp .ne 5, 3) := by decide +kernel
theorem d2_53 : decode method_2_code 53 = .ok (.iconst 0, 1) := by decide +kernel
theorem d2_54 : decode method_2_code 54 = .ok (.ireturn, 1) := by decide +kernel
theorem d2_55 : decode method_2_code 55 = .ok (.iload_n 0, 1) := by decide +kernel
theorem d2_56 : decode method_2_code 56 = .ok (.ldc 8, 2) := by decide +kernel
theorem d2_58 : decode method_2_code 58 = .ok (.if_icmp .eq 9, 3) := by decide +kernel
theorem d2_61 : decode method_2_code 61 = .ok (.iload_n 0, 1) := by decide +kernel
theorem d2_62 : decode method_2_code 62 = .ok (.ldc 9, 2) := by decide +kernel
theorem d2_64 : decode method_2_code 64 = .ok (.if_icmp .ne 5, 3) := by decide +kernel
theorem d2_67 : decode method_2_code 67 = .ok (.iconst 0, 1) := by decide +kernel
theorem d2_68 : decode method_2_code 68 = .ok (.ireturn, 1) := by decide +kernel
theorem d2_69 : decode method_2_code 69 = .ok (.iconst 1, 1) := by decide +kernel
theorem d2_70 : decode method_2_code 70 = .ok (.ireturn, 1) := by decide +kernel
def f2_67 (i0 : Int32) : Int32 := (0 : Int32)
def f2_43 (i0 : Int32) (t0 : Int32) : Int32 := (nar .boolean t0)
def f2_38 (i0 : Int32) : Int32 := (f2_43 i0 (1 : Int32))
def f2_0 (p0 : Int32) : Int32 := (if p0 < (0 : Int32) then (0 : Int32) else (if (1114111 : Int32) < p0 then (0 : Int32) else (if p0 < (32 : Int32) then (if p0 = (9 : Int32) then (f2_38 p0) else (if p0 = (10 : Int32) then (f2_38 p0) else (if p0 = (13 : Int32) then (f2_38 p0) else (f2_43 p0 (0 : Int32))))) else (if (p0 >>> ((11 : Int32) &&& 31)) = (27 : Int32) then (0 : Int32) else (if p0 = (65534 : Int32) then (f2_67 p0) else (if p0 = (65535 : Int32) then (f2_67 p0) else (1 : Int32)))))))
set_option maxRecDepth 65536 in
set_option maxHeartbeats 40000000 in
theorem ro2_0 {p : Program} {l : Launch} {e : Env} {s : State} {m : MethodId} {args : Array Value} {below : List Frame} {meth : Method} {c : Code} {T : State} {locs : List Loc} {cells slots : Nat} {Z : State} {a0 : Array Value} {h : Heap} {ce sl : Nat} {Q : Option Value → Heap → List Loc → Prop} (p0 : Int32)
    (X : Stand p l e ({ frames := 0, cells := 0, slots := 0, locals := 0 } : Room) s m args below meth c T locs cells slots) (hx : p.tables.exec = Jvm.exec) (hZ : Z.Warmed39 s.vm) (hw : ∀ d ∈ tables_1, d.before a0 Z = true) (hby : c.code = method_2_code) (hml : c.maxLocals = 1) (hown : s.vm.findClass "com/example/stylesheet_engine/stylesheetengine/model/XmlCharsIsXmlCharPinLaw" = some m.cls) (hret : meth.sig.returnType = some .boolean) (hlk : meth.locks = false) (eT : T.heap = h) (hc : cells ≤ ce) (hs : slots ≤ sl) (hcR : cells ≤ (({ frames := 0, cells := 0, slots := 0, locals := 0 } : Room)).cells) (hsR : slots ≤ (({ frames := 0, cells := 0, slots := 0, locals := 0 } : Room)).slots)
    (hQ : Q (some (.int (f2_0 p0))) h locs) : OFin p e below s ce sl Q (T.setTop (mkF m 0 #[.val (.int p0)] [])) := by
  obtain ⟨r, hr0⟩ : ∃ r, f2_0 p0 = r := ⟨_, rfl⟩
  rw [hr0] at hQ
  have B67 : ∀ (T : State) (i0 : Int32), Stand p l e ({ frames := 0, cells := 0, slots := 0, locals := 0 } : Room) s m args below meth c T locs cells slots → T.heap = h → f2_67 i0 = r → OFin p e below s ce sl Q (T.setTop (mkF m 67 #[.val (.int i0)] [])) := by
    intro T i0 X eT hr
    refine OFin.to (T.setTop (mkF m 68 #[.val (.int i0)] [(.int (0 : Int32))])) (fun _ kt => XS.iconst X.here hx rfl (hb hby d2_67) kt) ?_
    exact OFin.retZ X hx (t := .boolean) hret (by simp) hlk (hb hby d2_68) hc hs (own_q (own_nar0.trans hr) eT hQ)
  have B43 : ∀ (T : State) (i0 : Int32) (t0 : Int32), Stand p l e ({ frames := 0, cells := 0, slots := 0, locals := 0 } : Room) s m args below meth c T locs cells slots → T.heap = h → f2_43 i0 t0 = r → OFin p e below s ce sl Q (T.setTop (mkF m 43 #[.val (.int i0)] [(.int t0)])) := by
    intro T i0 t0 X eT hr
    exact OFin.retZ X hx (t := .boolean) hret (by simp) hlk (hb hby d2_43) hc hs (own_q (hr) eT hQ)
  have B38 : ∀ (T : State) (i0 : Int32), Stand p l e ({ frames := 0, cells := 0, slots := 0, locals := 0 } : Room) s m args below meth c T locs cells slots → T.heap = h → f2_38 i0 = r → OFin p e below s ce sl Q (T.setTop (mkF m 38 #[.val (.int i0)] [])) := by
    intro T i0 X eT hr
    refine OFin.to (T.setTop (mkF m 39 #[.val (.int i0)] [(.int (1 : Int32))])) (fun _ kt => XS.iconst X.here hx rfl (hb hby d2_38) kt) ?_
    refine OFin.to (T.setTop (mkF m 43 #[.val (.int i0)] [(.int (1 : Int32))])) (fun _ kt => XS.goto X.here hx rfl (pc0 := 39) (pc' := 43) rfl (hb hby d2_39) (by decide) (by decide) kt) ?_
    exact B43 T i0 (1 : Int32) X eT hr
  have B0 : ∀ (T : State) , Stand p l e ({ frames := 0, cells := 0, slots := 0, locals := 0 } : Room) s m args below meth c T locs cells slots → T.heap = h → f2_0 p0 = r → OFin p e below s ce sl Q (T.setTop (mkF m 0 #[.val (.int p0)] [])) := by
    intro T  X eT hr
    refine OFin.to (T.setTop (mkF m 1 #[.val (.int p0)] [(.int p0)])) (fun _ kt => XS.iloadN X.here hx rfl (hb hby d2_0) rfl kt) ?_
    by_cases hc1 : p0 < (0 : Int32)
    · have hr := (if_pos hc1).symm.trans hr
      refine OFin.to (T.setTop (mkF m 4 #[.val (.int p0)] [])) (fun _ kt => XS.ifNo X.here hx rfl (hb hby d2_1) rfl (XT.i0_ge_f hc1) kt) ?_
      refine OFin.to (T.setTop (mkF m 5 #[.val (.int p0)] [(.int (0 : Int32))])) (fun _ kt => XS.iconst X.here hx rfl (hb hby d2_4) kt) ?_
      exact OFin.retZ X hx (t := .boolean) hret (by simp) hlk (hb hby d2_5) hc hs (own_q (own_nar0.trans hr) eT hQ)
    · have hr := (if_neg hc1).symm.trans hr
      refine OFin.to (T.setTop (mkF m 6 #[.val (.int p0)] [])) (fun _ kt => XS.ifYes X.here hx rfl (pc0 := 1) (pc' := 6) rfl (hb hby d2_1) rfl (XT.i0_ge_t hc1) (by decide) (by decide) kt) ?_
      refine OFin.to (T.setTop (mkF m 7 #[.val (.int p0)] [(.int p0)])) (fun _ kt => XS.iloadN X.here hx rfl (hb hby d2_6) rfl kt) ?_
      refine OFin.to (T.setTop (mkF m 9 #[.val (.int p0)] [(.int (1114111 : Int32)), (.int p0)])) (fun _ kt => X.ldcI hx hown (mvT hZ (hw _ (List.mem_of_getElem? (i := 8) rfl))) (g := (mkF m 7 #[.val (.int p0)] [(.int p0)])) rfl (hb hby d2_7) kt) ?_
      by_cases hc9 : (1114111 : Int32) < p0
      · have hr := (if_pos hc9).symm.trans hr
        refine OFin.to (T.setTop (mkF m 12 #[.val (.int p0)] [])) (fun _ kt => XS.icmpNo X.here hx rfl (hb hby d2_9) rfl (XT.ii_le_f hc9) kt) ?_
        refine OFin.to (T.setTop (mkF m 13 #[.val (.int p0)] [(.int (0 : Int32))])) (fun _ kt => XS.iconst X.here hx rfl (hb hby d2_12) kt) ?_
        exact OFin.retZ X hx (t := .boolean) hret (by simp) hlk (hb hby d2_13) hc hs (own_q (own_nar0.trans hr) eT hQ)
      · have hr := (if_neg hc9).symm.trans hr
        refine OFin.to (T.setTop (mkF m 14 #[.val (.int p0)] [])) (fun _ kt => XS.icmpYes X.here hx rfl (pc0 := 9) (pc' := 14) rfl (hb hby d2_9) rfl (XT.ii_le_t hc9) (by decide) (by decide) kt) ?_
        refine OFin.to (T.setTop (mkF m 15 #[.val (.int p0)] [(.int p0)])) (fun _ kt => XS.iloadN X.here hx rfl (hb hby d2_14) rfl kt) ?_
        refine OFin.to (T.setTop (mkF m 17 #[.val (.int p0)] [(.int (32 : Int32)), (.int p0)])) (fun _ kt => XS.bipush X.here hx rfl (hb hby d2_15) kt) ?_
        by_cases hc17 : p0 < (32 : Int32)
        · have hr := (if_pos hc17).symm.trans hr
          refine OFin.to (T.setTop (mkF m 20 #[.val (.int p0)] [])) (fun _ kt => XS.icmpNo X.here hx rfl (hb hby d2_17) rfl (XT.ii_ge_f hc17) kt) ?_
          refine OFin.to (T.setTop (mkF m 21 #[.val (.int p0)] [(.int p0)])) (fun _ kt => XS.iloadN X.here hx rfl (hb hby d2_20) rfl kt) ?_
          refine OFin.to (T.setTop (mkF m 23 #[.val (.int p0)] [(.int (9 : Int32)), (.int p0)])) (fun _ kt => XS.bipush X.here hx rfl (hb hby d2_21) kt) ?_
          by_cases hc23 : p0 = (9 : Int32)
          · have hr := (if_pos hc23).symm.trans hr
            refine OFin.to (T.setTop (mkF m 38 #[.val (.int p0)] [])) (fun _ kt => XS.icmpYes X.here hx rfl (pc0 := 23) (pc' := 38) rfl (hb hby d2_23) rfl (XT.ii_eq_t hc23) (by decide) (by decide) kt) ?_
            exact B38 T p0 X eT hr
          · have hr := (if_neg hc23).symm.trans hr
            refine OFin.to (T.setTop (mkF m 26 #[.val (.int p0)] [])) (fun _ kt => XS.icmpNo X.here hx rfl (hb hby d2_23) rfl (XT.ii_eq_f hc23) kt) ?_
            refine OFin.to (T.setTop (mkF m 27 #[.val (.int p0)] [(.int p0)])) (fun _ kt => XS.iloadN X.here hx rfl (hb hby d2_26) rfl kt) ?_
            refine OFin.to (T.setTop (mkF m 29 #[.val (.int p0)] [(.int (10 : Int32)), (.int p0)])) (fun _ kt => XS.bipush X.here hx rfl (hb hby d2_27) kt) ?_
            by_cases hc29 : p0 = (10 : Int32)
            · have hr := (if_pos hc29).symm.trans hr
              refine OFin.to (T.setTop (mkF m 38 #[.val (.int p0)] [])) (fun _ kt => XS.icmpYes X.here hx rfl (pc0 := 29) (pc' := 38) rfl (hb hby d2_29) rfl (XT.ii_eq_t hc29) (by decide) (by decide) kt) ?_
              exact B38 T p0 X eT hr
            · have hr := (if_neg hc29).symm.trans hr
              refine OFin.to (T.setTop (mkF m 32 #[.val (.int p0)] [])) (fun _ kt => XS.icmpNo X.here hx rfl (hb hby d2_29) rfl (XT.ii_eq_f hc29) kt) ?_
              refine OFin.to (T.setTop (mkF m 33 #[.val (.int p0)] [(.int p0)])) (fun _ kt => XS.iloadN X.here hx rfl (hb hby d2_32) rfl kt) ?_
              refine OFin.to (T.setTop (mkF m 35 #[.val (.int p0)] [(.int (13 : Int32)), (.int p0)])) (fun _ kt => XS.bipush X.here hx rfl (hb hby d2_33) kt) ?_
              by_cases hc35 : p0 = (13 : Int32)
              · have hr := (if_pos hc35).symm.trans hr
                refine OFin.to (T.setTop (mkF m 38 #[.val (.int p0)] [])) (fun _ kt => XS.icmpNo X.here hx rfl (hb hby d2_35) rfl (XT.ii_ne_f hc35) kt) ?_
                exact B38 T p0 X eT hr
              · have hr := (if_neg hc35).symm.trans hr
                refine OFin.to (T.setTop (mkF m 42 #[.val (.int p0)] [])) (fun _ kt => XS.icmpYes X.here hx rfl (pc0 := 35) (pc' := 42) rfl (hb hby d2_35) rfl (XT.ii_ne_t hc35) (by decide) (by decide) kt) ?_
                refine OFin.to (T.setTop (mkF m 43 #[.val (.int p0)] [(.int (0 : Int32))])) (fun _ kt => XS.iconst X.here hx rfl (hb hby d2_42) kt) ?_
                exact B43 T p0 (0 : Int32) X eT hr
        · have hr := (if_neg hc17).symm.trans hr
          refine OFin.to (T.setTop (mkF m 44 #[.val (.int p0)] [])) (fun _ kt => XS.icmpYes X.here hx rfl (pc0 := 17) (pc' := 44) rfl (hb hby d2_17) rfl (XT.ii_ge_t hc17) (by decide) (by decide) kt) ?_
          refine OFin.to (T.setTop (mkF m 45 #[.val (.int p0)] [(.int p0)])) (fun _ kt => XS.iloadN X.here hx rfl (hb hby d2_44) rfl kt) ?_
          refine OFin.to (T.setTop (mkF m 47 #[.val (.int p0)] [(.int (11 : Int32)), (.int p0)])) (fun _ kt => XS.bipush X.here hx rfl (hb hby d2_45) kt) ?_
          refine OFin.to (T.setTop (mkF m 48 #[.val (.int p0)] [(.int (p0 >>> ((11 : Int32) &&& 31)))])) (fun _ kt => XS.ishr X.here hx rfl (hb hby d2_47) rfl kt) ?_
          refine OFin.to (T.setTop (mkF m 50 #[.val (.int p0)] [(.int (27 : Int32)), (.int (p0 >>> ((11 : Int32) &&& 31)))])) (fun _ kt => XS.bipush X.here hx rfl (hb hby d2_48) kt) ?_
          by_cases hc50 : (p0 >>> ((11 : Int32) &&& 31)) = (27 : Int32)
          · have hr := (if_pos hc50).symm.trans hr
            refine OFin.to (T.setTop (mkF m 53 #[.val (.int p0)] [])) (fun _ kt => XS.icmpNo X.here hx rfl (hb hby d2_50) rfl (XT.ii_ne_f hc50) kt) ?_
            refine OFin.to (T.setTop (mkF m 54 #[.val (.int p0)] [(.int (0 : Int32))])) (fun _ kt => XS.iconst X.here hx rfl (hb hby d2_53) kt) ?_
            exact OFin.retZ X hx (t := .boolean) hret (by simp) hlk (hb hby d2_54) hc hs (own_q (own_nar0.trans hr) eT hQ)
          · have hr := (if_neg hc50).symm.trans hr
            refine OFin.to (T.setTop (mkF m 55 #[.val (.int p0)] [])) (fun _ kt => XS.icmpYes X.here hx rfl (pc0 := 50) (pc' := 55) rfl (hb hby d2_50) rfl (XT.ii_ne_t hc50) (by decide) (by decide) kt) ?_
            refine OFin.to (T.setTop (mkF m 56 #[.val (.int p0)] [(.int p0)])) (fun _ kt => XS.iloadN X.here hx rfl (hb hby d2_55) rfl kt) ?_
            refine OFin.to (T.setTop (mkF m 58 #[.val (.int p0)] [(.int (65534 : Int32)), (.int p0)])) (fun _ kt => X.ldcI hx hown (mvT hZ (hw _ (List.mem_of_getElem? (i := 6) rfl))) (g := (mkF m 56 #[.val (.int p0)] [(.int p0)])) rfl (hb hby d2_56) kt) ?_
            by_cases hc58 : p0 = (65534 : Int32)
            · have hr := (if_pos hc58).symm.trans hr
              refine OFin.to (T.setTop (mkF m 67 #[.val (.int p0)] [])) (fun _ kt => XS.icmpYes X.here hx rfl (pc0 := 58) (pc' := 67) rfl (hb hby d2_58) rfl (XT.ii_eq_t hc58) (by decide) (by decide) kt) ?_
              exact B67 T p0 X eT hr
            · have hr := (if_neg hc58).symm.trans hr
              refine OFin.to (T.setTop (mkF m 61 #[.val (.int p0)] [])) (fun _ kt => XS.icmpNo X.here hx rfl (hb hby d2_58) rfl (XT.ii_eq_f hc58) kt) ?_
              refine OFin.to (T.setTop (mkF m 62 #[.val (.int p0)] [(.int p0)])) (fun _ kt => XS.iloadN X.here hx rfl (hb hby d2_61) rfl kt) ?_
              refine OFin.to (T.setTop (mkF m 64 #[.val (.int p0)] [(.int (65535 : Int32)), (.int p0)])) (fun _ kt => X.ldcI hx hown (mvT hZ (hw _ (List.mem_of_getElem? (i := 25) rfl))) (g := (mkF m 62 #[.val (.int p0)] [(.int p0)])) rfl (hb hby d2_62) kt) ?_
              by_cases hc64 : p0 = (65535 : Int32)
              · have hr := (if_pos hc64).symm.trans hr
                refine OFin.to (T.setTop (mkF m 67 #[.val (.int p0)] [])) (fun _ kt => XS.icmpNo X.here hx rfl (hb hby d2_64) rfl (XT.ii_ne_f hc64) kt) ?_
                exact B67 T p0 X eT hr
              · have hr := (if_neg hc64).symm.trans hr
                refine OFin.to (T.setTop (mkF m 69 #[.val (.int p0)] [])) (fun _ kt => XS.icmpYes X.here hx rfl (pc0 := 64) (pc' := 69) rfl (hb hby d2_64) rfl (XT.ii_ne_t hc64) (by decide) (by decide) kt) ?_
                refine OFin.to (T.setTop (mkF m 70 #[.val (.int p0)] [(.int (1 : Int32))])) (fun _ kt => XS.iconst X.here hx rfl (hb hby d2_69) kt) ?_
                exact OFin.retZ X hx (t := .boolean) hret (by simp) hlk (hb hby d2_70) hc hs (own_q (own_nar1.trans hr) eT hQ)
  exact B0 T X eT hr0
theorem pn_2 : plainName "com/example/stylesheet_engine/stylesheetengine/model/XmlCharsIsXmlCharPinLaw" = true := by first | (simp [plainName, overriddenIn]; done) | decide +kernel
theorem ef_2 (m : MethodId) (p0 : Int32) : entryFrame m #[(.int p0)] 1 = mkF m 0 #[.val (.int p0)] [] := by first | (simp [entryFrame, mkF, argsToLocals, Value.category]; done) | rfl
set_option maxRecDepth 65536 in
set_option maxHeartbeats 40000000 in
theorem rm2 (l : Launch) (Z : State) (a0 : Array Value) (hw : ∀ d ∈ tables_1, d.before a0 Z = true) (ws : List Jvm.Cond) (p0 : Int32) (h0 : Heap) :
    MetFree l (⟨"com/example/stylesheet_engine/stylesheetengine/model/XmlCharsIsXmlCharPinLaw", "expected", "(I)Z"⟩ : MethodName) (head1 (Jvm.Cond.code (⟨"com/example/stylesheet_engine/stylesheetengine/model/XmlCharsIsXmlCharPinLaw", "expected", "(I)Z"⟩ : MethodName) method_2_code 1 (some .boolean) :: ws) ({ frames := 0, cells := 0, slots := 0, locals := 0 } : Room)) (fun a_ U => a_ = #[(.int p0)] ∧ Z.Warmed39 U.vm ∧ U.heap = h0) (fun _ _ _ _ _ => True) (fun _ U o_ U' => ∃ v L, o_ = .returned v ∧ OQ (fun v h L => v = some (.int (f2_0 p0)) ∧ h = h0 ∧ L = []) v U'.heap L ∧ FrameEnd U o_ U' L ({ frames := 0, cells := 0, slots := 0, locals := 0 } : Room).cells ({ frames := 0, cells := 0, slots := 0, locals := 0 } : Room).slots) := by
  refine MetFree.of_bodySF (plainFor_of_name pn_2) hisR ?_
  intro p e s m args below meth c s₁ Bd hml0 hP hK
  obtain ⟨rfl, hZ, hh⟩ := hP
  have hx := Bd.exec
  have hby := Bd.bytes
  have hml : c.maxLocals = 1 := hml0
  have hown : s.vm.findClass "com/example/stylesheet_engine/stylesheetengine/model/XmlCharsIsXmlCharPinLaw" = some m.cls := findClass_of_methodNamed Bd.named
  have hnm := (name_of_methodNamed Bd.named Bd.method).1
  have hret := Bd.returns
  have hlk : meth.locks = false := Bd.notSynchronized
  have X0 : Stand p l e ({ frames := 0, cells := 0, slots := 0, locals := 0 } : Room) s m #[(.int p0)] below meth c s₁ [] 0 0 := Stand.of_body Bd
  have e0 : s₁.heap = h0 := by rw [← hh, Bd.state]; rfl
  refine OFin.start (Q := fun v h L => v = some (.int (f2_0 p0)) ∧ h = h0 ∧ L = []) (s := s) (fun t kt => castTop (ef_2 m p0) kt) ?_
  exact ro2_0 p0 X0 hx hZ hw hby hml hown hret hlk e0 (Nat.zero_le _) (Nat.zero_le _) (Nat.zero_le _) (Nat.zero_le _)  ⟨rfl, rfl, rfl⟩
def f0_162 (i0 : Int32) (i1 : Int32) (i2 : Int32) (i4 : Int32) (i5 : Int32) (i6 : Int32) (t0 : Int32) : Int32 := (nar .boolean t0)
def f0_161 (i0 : Int32) (i1 : Int32) (i2 : Int32) (i4 : Int32) (i5 : Int32) (i6 : Int32) : Int32 := (f0_162 i0 i1 i2 i4 i5 i6 (0 : Int32))
def f0_145 (i0 : Int32) (i1 : Int32) (i2 : Int32) (i4 : Int32) (i5 : Int32) (t0 : Int32) : Int32 := (if i5 = (0 : Int32) then (f0_161 i0 i1 i2 i4 i5 t0) else (if t0 = (0 : Int32) then (f0_161 i0 i1 i2 i4 i5 t0) else (f0_162 i0 i1 i2 i4 i5 t0 (1 : Int32))))
def f0_125 (i0 : Int32) (i1 : Int32) (i2 : Int32) (i4 : Int32) (t0 : Int32) : Int32 := (if (f1_0 i4) = (f2_0 i4) then (f0_145 i0 i1 i2 i4 t0 (1 : Int32)) else (f0_145 i0 i1 i2 i4 t0 (0 : Int32)))
def f0_109 (p0 : Int32) (p1 : Int32) (p2 : Int32) (i4 : Int32) : Int32 := (if (f1_0 p0) = (f2_0 p0) then (f0_125 p0 p1 p2 i4 (1 : Int32)) else (f0_125 p0 p1 p2 i4 (0 : Int32)))
set_option maxRecDepth 65536 in
set_option maxHeartbeats 40000000 in
theorem ro0_109 {p : Program} {l : Launch} {e : Env} {s : State} {m : MethodId} {args : Array Value} {below : List Frame} {meth : Method} {c : Code} {T : State} {locs : List Loc} {cells slots : Nat} {Z : State} {a0 : Array Value} {h : Heap} {ce sl : Nat} {Q : Option Value → Heap → List Loc → Prop} (p0 : Int32) (p1 : Int32) (p2 : Int32) (i4 : Int32) (a3 : Addr)
    (X : Stand p l e room_1 s m args below meth c T locs cells slots) (hx : p.tables.exec = Jvm.exec) (hZ : Z.Warmed39 s.vm) (hw : ∀ d ∈ tables_1, d.before a0 Z = true) (hby : c.code = code) (hml : c.maxLocals = 7) (hown : s.vm.findClass "com/example/stylesheet_engine/stylesheetengine/model/XmlCharsIsXmlCharPinLaw" = some m.cls) (hret : meth.sig.returnType = some .boolean) (hlk : meth.locks = false) (eT : T.heap = h) (hc : cells ≤ ce) (hs : slots ≤ sl) (hcR : cells ≤ (room_1).cells) (hsR : slots ≤ (room_1).slots)
    (hQ : Q (some (.int (f0_109 p0 p1 p2 i4))) h locs) : OFin p e below s ce sl Q (T.setTop (mkF m 109 #[.val (.int p0), .val (.int p1), .val (.int p2), .val (.ref a3), .val (.int i4), .unset, .unset] [])) := by
  obtain ⟨r, hr0⟩ : ∃ r, f0_109 p0 p1 p2 i4 = r := ⟨_, rfl⟩
  rw [hr0] at hQ
  have B162 : ∀ (T : State) (i0 : Int32) (i1 : Int32) (i2 : Int32) (i4 : Int32) (i5 : Int32) (i6 : Int32) (t0 : Int32), Stand p l e room_1 s m args below meth c T locs cells slots → T.heap = h → f0_162 i0 i1 i2 i4 i5 i6 t0 = r → OFin p e below s ce sl Q (T.setTop (mkF m 162 #[.val (.int i0), .val (.int i1), .val (.int i2), .val (.ref a3), .val (.int i4), .val (.int i5), .val (.int i6)] [(.int t0)])) := by
    intro T i0 i1 i2 i4 i5 i6 t0 X eT hr
    exact OFin.retZ X hx (t := .boolean) hret (by simp) hlk (hb hby at_162) hc hs (own_q (hr) eT hQ)
  have B161 : ∀ (T : State) (i0 : Int32) (i1 : Int32) (i2 : Int32) (i4 : Int32) (i5 : Int32) (i6 : Int32), Stand p l e room_1 s m args below meth c T locs cells slots → T.heap = h → f0_161 i0 i1 i2 i4 i5 i6 = r → OFin p e below s ce sl Q (T.setTop (mkF m 161 #[.val (.int i0), .val (.int i1), .val (.int i2), .val (.ref a3), .val (.int i4), .val (.int i5), .val (.int i6)] [])) := by
    intro T i0 i1 i2 i4 i5 i6 X eT hr
    refine OFin.to (T.setTop (mkF m 162 #[.val (.int i0), .val (.int i1), .val (.int i2), .val (.ref a3), .val (.int i4), .val (.int i5), .val (.int i6)] [(.int (0 : Int32))])) (fun _ kt => XS.iconst X.here hx rfl (hb hby at_161) kt) ?_
    exact B162 T i0 i1 i2 i4 i5 i6 (0 : Int32) X eT hr
  have B145 : ∀ (T : State) (i0 : Int32) (i1 : Int32) (i2 : Int32) (i4 : Int32) (i5 : Int32) (t0 : Int32), Stand p l e room_1 s m args below meth c T locs cells slots → T.heap = h → f0_145 i0 i1 i2 i4 i5 t0 = r → OFin p e below s ce sl Q (T.setTop (mkF m 145 #[.val (.int i0), .val (.int i1), .val (.int i2), .val (.ref a3), .val (.int i4), .val (.int i5), .unset] [(.int t0)])) := by
    intro T i0 i1 i2 i4 i5 t0 X eT hr
    refine OFin.to (T.setTop (mkF m 147 #[.val (.int i0), .val (.int i1), .val (.int i2), .val (.ref a3), .val (.int i4), .val (.int i5), .val (.int t0)] [])) (fun _ kt => XS.istore X.here hx rfl (hb hby at_145) rfl (l' := #[.val (.int i0), .val (.int i1), .val (.int i2), .val (.ref a3), .val (.int i4), .val (.int i5), .val (.int t0)]) rfl kt) ?_
    refine OFin.to (T.setTop (mkF m 149 #[.val (.int i0), .val (.int i1), .val (.int i2), .val (.ref a3), .val (.int i4), .val (.int i5), .val (.int t0)] [(.int i5)])) (fun _ kt => XS.iload X.here hx rfl (hb hby at_147) rfl kt) ?_
    by_cases hc149 : i5 = (0 : Int32)
    · have hr := (if_pos hc149).symm.trans hr
      refine OFin.to (T.setTop (mkF m 161 #[.val (.int i0), .val (.int i1), .val (.int i2), .val (.ref a3), .val (.int i4), .val (.int i5), .val (.int t0)] [])) (fun _ kt => XS.ifYes X.here hx rfl (pc0 := 149) (pc' := 161) rfl (hb hby at_149) rfl (XT.i0_eq_t hc149) (by decide) (by decide) kt) ?_
      exact B161 T i0 i1 i2 i4 i5 t0 X eT hr
    · have hr := (if_neg hc149).symm.trans hr
      refine OFin.to (T.setTop (mkF m 152 #[.val (.int i0), .val (.int i1), .val (.int i2), .val (.ref a3), .val (.int i4), .val (.int i5), .val (.int t0)] [])) (fun _ kt => XS.ifNo X.here hx rfl (hb hby at_149) rfl (XT.i0_eq_f hc149) kt) ?_
      refine OFin.to (T.setTop (mkF m 154 #[.val (.int i0), .val (.int i1), .val (.int i2), .val (.ref a3), .val (.int i4), .val (.int i5), .val (.int t0)] [(.int t0)])) (fun _ kt => XS.iload X.here hx rfl (hb hby at_152) rfl kt) ?_
      by_cases hc154 : t0 = (0 : Int32)
      · have hr := (if_pos hc154).symm.trans hr
        refine OFin.to (T.setTop (mkF m 161 #[.val (.int i0), .val (.int i1), .val (.int i2), .val (.ref a3), .val (.int i4), .val (.int i5), .val (.int t0)] [])) (fun _ kt => XS.ifYes X.here hx rfl (pc0 := 154) (pc' := 161) rfl (hb hby at_154) rfl (XT.i0_eq_t hc154) (by decide) (by decide) kt) ?_
        exact B161 T i0 i1 i2 i4 i5 t0 X eT hr
      · have hr := (if_neg hc154).symm.trans hr
        refine OFin.to (T.setTop (mkF m 157 #[.val (.int i0), .val (.int i1), .val (.int i2), .val (.ref a3), .val (.int i4), .val (.int i5), .val (.int t0)] [])) (fun _ kt => XS.ifNo X.here hx rfl (hb hby at_154) rfl (XT.i0_eq_f hc154) kt) ?_
        refine OFin.to (T.setTop (mkF m 158 #[.val (.int i0), .val (.int i1), .val (.int i2), .val (.ref a3), .val (.int i4), .val (.int i5), .val (.int t0)] [(.int (1 : Int32))])) (fun _ kt => XS.iconst X.here hx rfl (hb hby at_157) kt) ?_
        refine OFin.to (T.setTop (mkF m 162 #[.val (.int i0), .val (.int i1), .val (.int i2), .val (.ref a3), .val (.int i4), .val (.int i5), .val (.int t0)] [(.int (1 : Int32))])) (fun _ kt => XS.goto X.here hx rfl (pc0 := 158) (pc' := 162) rfl (hb hby at_158) (by decide) (by decide) kt) ?_
        exact B162 T i0 i1 i2 i4 i5 t0 (1 : Int32) X eT hr
  have B125 : ∀ (T : State) (i0 : Int32) (i1 : Int32) (i2 : Int32) (i4 : Int32) (t0 : Int32), Stand p l e room_1 s m args below meth c T locs cells slots → T.heap = h → f0_125 i0 i1 i2 i4 t0 = r → OFin p e below s ce sl Q (T.setTop (mkF m 125 #[.val (.int i0), .val (.int i1), .val (.int i2), .val (.ref a3), .val (.int i4), .unset, .unset] [(.int t0)])) := by
    intro T i0 i1 i2 i4 t0 X eT hr
    refine OFin.to (T.setTop (mkF m 127 #[.val (.int i0), .val (.int i1), .val (.int i2), .val (.ref a3), .val (.int i4), .val (.int t0), .unset] [])) (fun _ kt => XS.istore X.here hx rfl (hb hby at_125) rfl (l' := #[.val (.int i0), .val (.int i1), .val (.int i2), .val (.ref a3), .val (.int i4), .val (.int t0), .unset]) rfl kt) ?_
    refine OFin.to (T.setTop (mkF m 129 #[.val (.int i0), .val (.int i1), .val (.int i2), .val (.ref a3), .val (.int i4), .val (.int t0), .unset] [(.int i4)])) (fun _ kt => XS.iload X.here hx rfl (hb hby at_127) rfl kt) ?_
    obtain ⟨T1, X1, e1, st1⟩ := own_callSP X hx hZ hown (hw _ (List.mem_of_getElem? (i := 12) rfl)) (hw _ (List.mem_of_getElem? (i := 13) rfl)) (hw _ (List.mem_of_getElem? (i := 14) rfl)) (hw _ (List.mem_of_getElem? (i := 15) rfl)) (by decide) eT (rm1 l Z a0 hw [] i4 h ) rfl rfl 0 (by decide) (by decide) hcR hsR (g := (mkF m 129 #[.val (.int i0), .val (.int i1), .val (.int i2), .val (.ref a3), .val (.int i4), .val (.int t0), .unset] [(.int i4)])) rfl (by rw [hml]; rfl) (rest := []) (lenOf pd_0 rfl) rfl (by show 2 * 0 + _ ≤ _; exact Nat.le_of_eq rfl) (hb hby at_129)
    refine OFin.to (T1.setTop (mkF m 132 #[.val (.int i0), .val (.int i1), .val (.int i2), .val (.ref a3), .val (.int i4), .val (.int t0), .unset] [(.int (f1_0 i4))])) st1 ?_
    refine OFin.to (T1.setTop (mkF m 134 #[.val (.int i0), .val (.int i1), .val (.int i2), .val (.ref a3), .val (.int i4), .val (.int t0), .unset] [(.int i4), (.int (f1_0 i4))])) (fun _ kt => XS.iload X1.here hx rfl (hb hby at_132) rfl kt) ?_
    obtain ⟨T2, X2, e2, st2⟩ := own_callSP X1 hx hZ hown (hw _ (List.mem_of_getElem? (i := 18) rfl)) (hw _ (List.mem_of_getElem? (i := 19) rfl)) (hw _ (List.mem_of_getElem? (i := 20) rfl)) (hw _ (List.mem_of_getElem? (i := 21) rfl)) (by decide) e1 (rm2 l Z a0 hw [] i4 h ) rfl rfl 1 (by decide) (by decide) hcR hsR (g := (mkF m 134 #[.val (.int i0), .val (.int i1), .val (.int i2), .val (.ref a3), .val (.int i4), .val (.int t0), .unset] [(.int i4), (.int (f1_0 i4))])) rfl (by rw [hml]; rfl) (rest := [(.int (f1_0 i4))]) (lenOf pd_0 rfl) rfl (by show 2 * 0 + _ ≤ _; exact Nat.le_of_eq rfl) (hb hby at_134)
    refine OFin.to (T2.setTop (mkF m 137 #[.val (.int i0), .val (.int i1), .val (.int i2), .val (.ref a3), .val (.int i4), .val (.int t0), .unset] [(.int (f2_0 i4)), (.int (f1_0 i4))])) st2 ?_
    by_cases hc137 : (f1_0 i4) = (f2_0 i4)
    · have hr := (if_pos hc137).symm.trans hr
      refine OFin.to (T2.setTop (mkF m 140 #[.val (.int i0), .val (.int i1), .val (.int i2), .val (.ref a3), .val (.int i4), .val (.int t0), .unset] [])) (fun _ kt => XS.icmpNo X2.here hx rfl (hb hby at_137) rfl (XT.ii_ne_f hc137) kt) ?_
      refine OFin.to (T2.setTop (mkF m 141 #[.val (.int i0), .val (.int i1), .val (.int i2), .val (.ref a3), .val (.int i4), .val (.int t0), .unset] [(.int (1 : Int32))])) (fun _ kt => XS.iconst X2.here hx rfl (hb hby at_140) kt) ?_
      refine OFin.to (T2.setTop (mkF m 145 #[.val (.int i0), .val (.int i1), .val (.int i2), .val (.ref a3), .val (.int i4), .val (.int t0), .unset] [(.int (1 : Int32))])) (fun _ kt => XS.goto X2.here hx rfl (pc0 := 141) (pc' := 145) rfl (hb hby at_141) (by decide) (by decide) kt) ?_
      exact B145 T2 i0 i1 i2 i4 t0 (1 : Int32) X2 e2 hr
    · have hr := (if_neg hc137).symm.trans hr
      refine OFin.to (T2.setTop (mkF m 144 #[.val (.int i0), .val (.int i1), .val (.int i2), .val (.ref a3), .val (.int i4), .val (.int t0), .unset] [])) (fun _ kt => XS.icmpYes X2.here hx rfl (pc0 := 137) (pc' := 144) rfl (hb hby at_137) rfl (XT.ii_ne_t hc137) (by decide) (by decide) kt) ?_
      refine OFin.to (T2.setTop (mkF m 145 #[.val (.int i0), .val (.int i1), .val (.int i2), .val (.ref a3), .val (.int i4), .val (.int t0), .unset] [(.int (0 : Int32))])) (fun _ kt => XS.iconst X2.here hx rfl (hb hby at_144) kt) ?_
      exact B145 T2 i0 i1 i2 i4 t0 (0 : Int32) X2 e2 hr
  have B109 : ∀ (T : State) , Stand p l e room_1 s m args below meth c T locs cells slots → T.heap = h → f0_109 p0 p1 p2 i4 = r → OFin p e below s ce sl Q (T.setTop (mkF m 109 #[.val (.int p0), .val (.int p1), .val (.int p2), .val (.ref a3), .val (.int i4), .unset, .unset] [])) := by
    intro T  X eT hr
    refine OFin.to (T.setTop (mkF m 110 #[.val (.int p0), .val (.int p1), .val (.int p2), .val (.ref a3), .val (.int i4), .unset, .unset] [(.int p0)])) (fun _ kt => XS.iloadN X.here hx rfl (hb hby at_109) rfl kt) ?_
    obtain ⟨T3, X3, e3, st3⟩ := own_callSP X hx hZ hown (hw _ (List.mem_of_getElem? (i := 12) rfl)) (hw _ (List.mem_of_getElem? (i := 13) rfl)) (hw _ (List.mem_of_getElem? (i := 14) rfl)) (hw _ (List.mem_of_getElem? (i := 15) rfl)) (by decide) eT (rm1 l Z a0 hw [] p0 h ) rfl rfl 0 (by decide) (by decide) hcR hsR (g := (mkF m 110 #[.val (.int p0), .val (.int p1), .val (.int p2), .val (.ref a3), .val (.int i4), .unset, .unset] [(.int p0)])) rfl (by rw [hml]; rfl) (rest := []) (lenOf pd_0 rfl) rfl (by show 2 * 0 + _ ≤ _; exact Nat.le_of_eq rfl) (hb hby at_110)
    refine OFin.to (T3.setTop (mkF m 113 #[.val (.int p0), .val (.int p1), .val (.int p2), .val (.ref a3), .val (.int i4), .unset, .unset] [(.int (f1_0 p0))])) st3 ?_
    refine OFin.to (T3.setTop (mkF m 114 #[.val (.int p0), .val (.int p1), .val (.int p2), .val (.ref a3), .val (.int i4), .unset, .unset] [(.int p0), (.int (f1_0 p0))])) (fun _ kt => XS.iloadN X3.here hx rfl (hb hby at_113) rfl kt) ?_
    obtain ⟨T4, X4, e4, st4⟩ := own_callSP X3 hx hZ hown (hw _ (List.mem_of_getElem? (i := 18) rfl)) (hw _ (List.mem_of_getElem? (i := 19) rfl)) (hw _ (List.mem_of_getElem? (i := 20) rfl)) (hw _ (List.mem_of_getElem? (i := 21) rfl)) (by decide) e3 (rm2 l Z a0 hw [] p0 h ) rfl rfl 1 (by decide) (by decide) hcR hsR (g := (mkF m 114 #[.val (.int p0), .val (.int p1), .val (.int p2), .val (.ref a3), .val (.int i4), .unset, .unset] [(.int p0), (.int (f1_0 p0))])) rfl (by rw [hml]; rfl) (rest := [(.int (f1_0 p0))]) (lenOf pd_0 rfl) rfl (by show 2 * 0 + _ ≤ _; exact Nat.le_of_eq rfl) (hb hby at_114)
    refine OFin.to (T4.setTop (mkF m 117 #[.val (.int p0), .val (.int p1), .val (.int p2), .val (.ref a3), .val (.int i4), .unset, .unset] [(.int (f2_0 p0)), (.int (f1_0 p0))])) st4 ?_
    by_cases hc117 : (f1_0 p0) = (f2_0 p0)
    · have hr := (if_pos hc117).symm.trans hr
      refine OFin.to (T4.setTop (mkF m 120 #[.val (.int p0), .val (.int p1), .val (.int p2), .val (.ref a3), .val (.int i4), .unset, .unset] [])) (fun _ kt => XS.icmpNo X4.here hx rfl (hb hby at_117) rfl (XT.ii_ne_f hc117) kt) ?_
      refine OFin.to (T4.setTop (mkF m 121 #[.val (.int p0), .val (.int p1), .val (.int p2), .val (.ref a3), .val (.int i4), .unset, .unset] [(.int (1 : Int32))])) (fun _ kt => XS.iconst X4.here hx rfl (hb hby at_120) kt) ?_
      refine OFin.to (T4.setTop (mkF m 125 #[.val (.int p0), .val (.int p1), .val (.int p2), .val (.ref a3), .val (.int i4), .unset, .unset] [(.int (1 : Int32))])) (fun _ kt => XS.goto X4.here hx rfl (pc0 := 121) (pc' := 125) rfl (hb hby at_121) (by decide) (by decide) kt) ?_
      exact B125 T4 p0 p1 p2 i4 (1 : Int32) X4 e4 hr
    · have hr := (if_neg hc117).symm.trans hr
      refine OFin.to (T4.setTop (mkF m 124 #[.val (.int p0), .val (.int p1), .val (.int p2), .val (.ref a3), .val (.int i4), .unset, .unset] [])) (fun _ kt => XS.icmpYes X4.here hx rfl (pc0 := 117) (pc' := 124) rfl (hb hby at_117) rfl (XT.ii_ne_t hc117) (by decide) (by decide) kt) ?_
      refine OFin.to (T4.setTop (mkF m 125 #[.val (.int p0), .val (.int p1), .val (.int p2), .val (.ref a3), .val (.int i4), .unset, .unset] [(.int (0 : Int32))])) (fun _ kt => XS.iconst X4.here hx rfl (hb hby at_124) kt) ?_
      exact B125 T4 p0 p1 p2 i4 (0 : Int32) X4 e4 hr
  exact B109 T X eT hr0
theorem own_step (x lo hi A B : Int32) (hB : B = 1) : (if x < lo then A else (if hi < x then A else B)) = 1 ↔ (lo.toInt ≤ x.toInt ∧ x.toInt ≤ hi.toInt) ∨ A = 1 := by
  subst hB
  by_cases h1 : x < lo
  · rw [if_pos h1]
    rw [Int32.lt_iff_toInt_lt] at h1
    exact ⟨Or.inr, fun h => h.elim (fun q => by omega) id⟩
  · rw [if_neg h1]
    by_cases h2 : hi < x
    · rw [if_pos h2]
      rw [Int32.lt_iff_toInt_lt] at h2
      exact ⟨Or.inr, fun h => h.elim (fun q => by omega) id⟩
    · rw [if_neg h2]
      rw [Int32.lt_iff_toInt_lt] at h1 h2
      exact ⟨fun _ => Or.inl (by omega), fun _ => rfl⟩
theorem own_stepE (x c A B : Int32) (hB : B = 1) : (if x = c then B else A) = 1 ↔ x.toInt = c.toInt ∨ A = 1 := by
  subst hB
  by_cases h1 : x = c
  · rw [if_pos h1, h1]
    exact ⟨fun _ => Or.inl rfl, fun _ => rfl⟩
  · rw [if_neg h1]
    exact ⟨Or.inr, fun h => h.elim (fun q => absurd (Int32.toInt_inj.mp q) h1) id⟩
theorem own_01 (c : Prop) [Decidable c] (A B : Int32) (hA : A = 0 ∨ A = 1) (hB : B = 0 ∨ B = 1) : (if c then A else B) = 0 ∨ (if c then A else B) = 1 := by
  by_cases h : c
  · rw [if_pos h]; exact hA
  · rw [if_neg h]; exact hB
theorem own_yes (x : Int32) : f1_54 x = 1 := own_nar1
theorem own_no (x : Int32) : f1_58 x = 0 := own_nar0
theorem own_c42 (x : Int32) : f1_42 x = 1 ↔ (65536 ≤ x.toInt ∧ x.toInt ≤ 1114111) := by
  refine (own_step x 65536 1114111 (f1_58 x) _ (own_yes x)).trans ⟨fun h => h.elim id (fun q => ?_), Or.inl⟩
  rw [own_no] at q
  exact absurd q (by decide)
theorem own_d42 (x : Int32) : f1_42 x = 0 ∨ f1_42 x = 1 := by
  exact own_01 _ _ _ (Or.inl (own_no x)) (own_01 _ _ _ (Or.inl (own_no x)) (Or.inr (own_yes x)))
theorem own_c30 (x : Int32) : f1_30 x = 1 ↔ (57344 ≤ x.toInt ∧ x.toInt ≤ 65533) ∨ (65536 ≤ x.toInt ∧ x.toInt ≤ 1114111) := by
  exact (own_step x 57344 65533 (f1_42 x) _ (own_yes x)).trans (or_congr Iff.rfl (own_c42 x))
theorem own_d30 (x : Int32) : f1_30 x = 0 ∨ f1_30 x = 1 := by
  exact own_01 _ _ _ (own_d42 x) (own_01 _ _ _ (own_d42 x) (Or.inr (own_yes x)))
theorem own_c0 (x : Int32) : f1_0 x = 1 ↔ x.toInt = 9 ∨ x.toInt = 10 ∨ x.toInt = 13 ∨ (32 ≤ x.toInt ∧ x.toInt ≤ 55295) ∨ (57344 ≤ x.toInt ∧ x.toInt ≤ 65533) ∨ (65536 ≤ x.toInt ∧ x.toInt ≤ 1114111) := by
  refine (own_stepE x 9 _ _ (own_yes x)).trans (or_congr Iff.rfl ?_)
  refine (own_stepE x 10 _ _ (own_yes x)).trans (or_congr Iff.rfl ?_)
  refine (own_stepE x 13 _ _ (own_yes x)).trans (or_congr Iff.rfl ?_)
  exact (own_step x 32 55295 (f1_30 x) _ (own_yes x)).trans (or_congr Iff.rfl (own_c30 x))
theorem own_d0 (x : Int32) : f1_0 x = 0 ∨ f1_0 x = 1 := by
  exact own_01 _ _ _ (Or.inr (own_yes x)) (own_01 _ _ _ (Or.inr (own_yes x)) (own_01 _ _ _ (Or.inr (own_yes x)) (own_01 _ _ _ (own_d30 x) (own_01 _ _ _ (own_d30 x) (Or.inr (own_yes x))))))
theorem own_rd (xs : List Int32) (j : Int32) (h : j.toNatClampNeg < xs.length) : ∃ w : Int32, (xs.map Value.int)[j.toNatClampNeg]? = some (.int w) := ⟨xs[j.toNatClampNeg], by simp [h]⟩
theorem own_and15 (x : Int32) : ¬ (x &&& (15 : Int32)) < 0 ∧ (x &&& (15 : Int32)).toNatClampNeg < 16 := by
  have h := c_mask x 15 4 (by decide) (by decide)
  rw [Int32.lt_iff_toInt_lt]
  have h0 : (0 : Int32).toInt = 0 := rfl
  have h1 : (x &&& (15 : Int32)).toNatClampNeg = (x &&& (15 : Int32)).toInt.toNat := rfl
  rw [h1]
  omega
theorem own_ltI (x c : Int32) : x < c ↔ x.toInt < c.toInt := Int32.lt_iff_toInt_lt
theorem own_same (x : Int32) : f1_0 x = f2_0 x := by
  have h1 := own_c0 x
  have d1 := own_d0 x
  have hs : (x >>> ((11 : Int32) &&& 31)).toInt = x.toInt / (2048 : Nat) := c_ishr x 11 11 (by decide)
  have k0 : (0 : Int32).toInt = 0 := rfl
  have k1 : (1114111 : Int32).toInt = 1114111 := rfl
  have k2 : (32 : Int32).toInt = 32 := rfl
  have k3 : (9 : Int32).toInt = 9 := rfl
  have k4 : (10 : Int32).toInt = 10 := rfl
  have k5 : (13 : Int32).toInt = 13 := rfl
  have k6 : (27 : Int32).toInt = 27 := rfl
  have k7 : (65534 : Int32).toInt = 65534 := rfl
  have k8 : (65535 : Int32).toInt = 65535 := rfl
  have z : ¬ f1_0 x = 1 → f1_0 x = 0 := fun q => d1.resolve_right q
  show f1_0 x = (if x < (0 : Int32) then (0 : Int32) else (if (1114111 : Int32) < x then (0 : Int32) else (if x < (32 : Int32) then (if x = (9 : Int32) then nar .boolean (1 : Int32) else (if x = (10 : Int32) then nar .boolean (1 : Int32) else (if x = (13 : Int32) then nar .boolean (1 : Int32) else nar .boolean (0 : Int32)))) else (if (x >>> ((11 : Int32) &&& 31)) = (27 : Int32) then (0 : Int32) else (if x = (65534 : Int32) then (0 : Int32) else (if x = (65535 : Int32) then (0 : Int32) else (1 : Int32)))))))
  rw [own_nar0, own_nar1]
  have e : ∀ c : Int32, x = c ↔ x.toInt = c.toInt := fun c => Int32.toInt_inj.symm
  have e27 : (x >>> ((11 : Int32) &&& 31)) = (27 : Int32) ↔ x.toInt / 2048 = 27 := by rw [← Int32.toInt_inj, hs]; exact Iff.rfl
  simp only [own_ltI, e27, e, k0, k1, k2, k3, k4, k5, k6, k7, k8]
  split
  · exact z (fun q => by have := h1.mp q; omega)
  · split
    · exact z (fun q => by have := h1.mp q; omega)
    · split
      · split
        · exact h1.mpr (by omega)
        · split
          · exact h1.mpr (by omega)
          · split
            · exact h1.mpr (by omega)
            · exact z (fun q => by have := h1.mp q; omega)
      · split
        · exact z (fun q => by have := h1.mp q; omega)
        · split
          · exact z (fun q => by have := h1.mp q; omega)
          · split
            · exact z (fun q => by have := h1.mp q; omega)
            · exact h1.mpr (by omega)
theorem own_law (x y z w : Int32) : f0_109 x y z w = 1 := by
  have h1 := own_same x
  have h2 := own_same w
  show (if f1_0 x = f2_0 x then f0_125 x y z w (1 : Int32) else f0_125 x y z w (0 : Int32)) = 1
  rw [if_pos h1]
  show (if f1_0 w = f2_0 w then f0_145 x y z w (1 : Int32) (1 : Int32) else f0_145 x y z w (1 : Int32) (0 : Int32)) = 1
  rw [if_pos h2]
  rfl
theorem pn_0 : plainName "com/example/stylesheet_engine/stylesheetengine/model/XmlCharsIsXmlCharPinLaw" = true := by first | (simp [plainName, overriddenIn]; done) | decide +kernel
theorem ef_0 (m : MethodId) (p0 : Int32) (p1 : Int32) (p2 : Int32) : entryFrame m #[(.int p0), (.int p1), (.int p2)] maxLocals = mkF m 0 #[.val (.int p0), .val (.int p1), .val (.int p2), .unset, .unset, .unset, .unset] [] := by first | (simp [entryFrame, mkF, argsToLocals, Value.category, maxLocals]; done) | rfl
set_option maxRecDepth 65536 in
set_option maxHeartbeats 40000000 in
theorem rm0 (l : Launch) (Z : State) (a0 : Array Value) (hw : ∀ d ∈ tables_1, d.before a0 Z = true) (ws : List Jvm.Cond) (p0 : Int32) (p1 : Int32) (p2 : Int32) (h0 : Heap) :
    MetFree l x (head1 (Jvm.Cond.code x code maxLocals ret :: ws) (room_1)) (fun a_ U => a_ = #[(.int p0), (.int p1), (.int p2)] ∧ Z.Warmed39 U.vm ∧ U.heap = h0) (fun _ _ _ _ _ => True) (fun _ U o_ U' => ∃ v L, o_ = .returned v ∧ OQ (fun v h L => v = some (.int (1 : Int32)) ∧ Fr h0.size L) v U'.heap L ∧ FrameEnd U o_ U' L (room_1).cells (room_1).slots) := by
  refine MetFree.of_bodySF (plainFor_of_name pn_0) hisR ?_
  intro p e s m args below meth c s₁ Bd hml0 hP hK
  obtain ⟨rfl, hZ, hh⟩ := hP
  have hx := Bd.exec
  have hby := Bd.bytes
  have hml : c.maxLocals = 7 := hml0
  have hown : s.vm.findClass "com/example/stylesheet_engine/stylesheetengine/model/XmlCharsIsXmlCharPinLaw" = some m.cls := findClass_of_methodNamed Bd.named
  have hnm := (name_of_methodNamed Bd.named Bd.method).1
  have hret := Bd.returns
  have hlk : meth.locks = false := Bd.notSynchronized
  have X0 : Stand p l e (room_1) s m #[(.int p0), (.int p1), (.int p2)] below meth c s₁ [] 0 0 := Stand.of_body Bd
  have e0 : s₁.heap = h0 := by rw [← hh, Bd.state]; rfl
  refine OFin.start (Q := fun v h L => v = some (.int (1 : Int32)) ∧ Fr h0.size L) (s := s) (fun t kt => castTop (ef_0 m p0 p1 p2) kt) ?_
  have N0 := Fr.nil h0.size
  have Z0 : h0.size ≤ h0.size := Nat.le_refl _
  refine OFin.to (s₁.setTop (mkF m 2 #[.val (.int p0), .val (.int p1), .val (.int p2), .unset, .unset, .unset, .unset] [(.int (16 : Int32))])) (fun _ kt => XS.bipush X0.here hx rfl (hb hby at_0) kt) ?_
  obtain ⟨T1, h1, X1, e1, E1, V1, st1⟩ := own_newP X0 hx hZ (hw _ (List.mem_of_getElem? (i := 0) rfl)) e0 (g := (mkF m 2 #[.val (.int p0), .val (.int p1), .val (.int p2), .unset, .unset, .unset, .unset] [(.int (16 : Int32))])) rfl (hb hby at_2) rfl (by decide) 16 rfl (cap := 16) (Nat.le_refl _) (by decide) (by decide) (by decide)
  obtain ⟨b1, g1⟩ : ∃ z, z = h0.size := ⟨_, rfl⟩
  rw [← g1] at V1 st1
  have g_b1 : h0.size ≤ b1 := by rw [g1]; exact Z0
  have Z1 := Nat.le_trans Z0 E1.1
  have V_b1 : OArr Z h1 b1 .int [(.int (0 : Int32)), (.int (0 : Int32)), (.int (0 : Int32)), (.int (0 : Int32)), (.int (0 : Int32)), (.int (0 : Int32)), (.int (0 : Int32)), (.int (0 : Int32)), (.int (0 : Int32)), (.int (0 : Int32)), (.int (0 : Int32)), (.int (0 : Int32)), (.int (0 : Int32)), (.int (0 : Int32)), (.int (0 : Int32)), (.int (0 : Int32))] := V1
  refine OFin.to (T1.setTop (mkF m 4 #[.val (.int p0), .val (.int p1), .val (.int p2), .unset, .unset, .unset, .unset] [(.ref b1)])) st1 ?_
  refine OFin.to (T1.setTop (mkF m 5 #[.val (.int p0), .val (.int p1), .val (.int p2), .unset, .unset, .unset, .unset] [(.ref b1), (.ref b1)])) (fun _ kt => XS.dup X1.here hx rfl (hb hby at_4) rfl rfl kt) ?_
  refine OFin.to (T1.setTop (mkF m 6 #[.val (.int p0), .val (.int p1), .val (.int p2), .unset, .unset, .unset, .unset] [(.int (0 : Int32)), (.ref b1), (.ref b1)])) (fun _ kt => XS.iconst X1.here hx rfl (hb hby at_5) kt) ?_
  refine OFin.to (T1.setTop (mkF m 7 #[.val (.int p0), .val (.int p1), .val (.int p2), .unset, .unset, .unset, .unset] [(.int (0 : Int32)), (.int (0 : Int32)), (.ref b1), (.ref b1)])) (fun _ kt => XS.iconst X1.here hx rfl (hb hby at_6) kt) ?_
  obtain ⟨T2, h2, X2, e2, W2, V2, st2⟩ := own_stI X1 hx hZ e1 V_b1 0 (by decide) rfl (Nat.le_of_ble_eq_true rfl) (g := (mkF m 7 #[.val (.int p0), .val (.int p1), .val (.int p2), .unset, .unset, .unset, .unset] [(.int (0 : Int32)), (.int (0 : Int32)), (.ref b1), (.ref b1)])) rfl rfl (hb hby at_7)
  have Z2 := Nat.le_trans Z1 (Keep.of_wr W2).1
  have V_b1_2 : OArr Z h2 b1 .int [(.int (0 : Int32)), (.int (0 : Int32)), (.int (0 : Int32)), (.int (0 : Int32)), (.int (0 : Int32)), (.int (0 : Int32)), (.int (0 : Int32)), (.int (0 : Int32)), (.int (0 : Int32)), (.int (0 : Int32)), (.int (0 : Int32)), (.int (0 : Int32)), (.int (0 : Int32)), (.int (0 : Int32)), (.int (0 : Int32)), (.int (0 : Int32))] := V2
  have N2 := Fr.snoc X2 N0 g_b1
  refine OFin.to (T2.setTop (mkF m 8 #[.val (.int p0), .val (.int p1), .val (.int p2), .unset, .unset, .unset, .unset] [(.ref b1)])) st2 ?_
  refine OFin.to (T2.setTop (mkF m 9 #[.val (.int p0), .val (.int p1), .val (.int p2), .unset, .unset, .unset, .unset] [(.ref b1), (.ref b1)])) (fun _ kt => XS.dup X2.here hx rfl (hb hby at_8) rfl rfl kt) ?_
  refine OFin.to (T2.setTop (mkF m 10 #[.val (.int p0), .val (.int p1), .val (.int p2), .unset, .unset, .unset, .unset] [(.int (1 : Int32)), (.ref b1), (.ref b1)])) (fun _ kt => XS.iconst X2.here hx rfl (hb hby at_9) kt) ?_
  refine OFin.to (T2.setTop (mkF m 12 #[.val (.int p0), .val (.int p1), .val (.int p2), .unset, .unset, .unset, .unset] [(.int (9 : Int32)), (.int (1 : Int32)), (.ref b1), (.ref b1)])) (fun _ kt => XS.bipush X2.here hx rfl (hb hby at_10) kt) ?_
  obtain ⟨T3, h3, X3, e3, W3, V3, st3⟩ := own_stI X2 hx hZ e2 V_b1_2 1 (by decide) rfl (Nat.le_of_ble_eq_true rfl) (g := (mkF m 12 #[.val (.int p0), .val (.int p1), .val (.int p2), .unset, .unset, .unset, .unset] [(.int (9 : Int32)), (.int (1 : Int32)), (.ref b1), (.ref b1)])) rfl rfl (hb hby at_12)
  have Z3 := Nat.le_trans Z2 (Keep.of_wr W3).1
  have V_b1_3 : OArr Z h3 b1 .int [(.int (0 : Int32)), (.int (9 : Int32)), (.int (0 : Int32)), (.int (0 : Int32)), (.int (0 : Int32)), (.int (0 : Int32)), (.int (0 : Int32)), (.int (0 : Int32)), (.int (0 : Int32)), (.int (0 : Int32)), (.int (0 : Int32)), (.int (0 : Int32)), (.int (0 : Int32)), (.int (0 : Int32)), (.int (0 : Int32)), (.int (0 : Int32))] := V3
  have N3 := Fr.snoc X3 N2 g_b1
  refine OFin.to (T3.setTop (mkF m 13 #[.val (.int p0), .val (.int p1), .val (.int p2), .unset, .unset, .unset, .unset] [(.ref b1)])) st3 ?_
  refine OFin.to (T3.setTop (mkF m 14 #[.val (.int p0), .val (.int p1), .val (.int p2), .unset, .unset, .unset, .unset] [(.ref b1), (.ref b1)])) (fun _ kt => XS.dup X3.here hx rfl (hb hby at_13) rfl rfl kt) ?_
  refine OFin.to (T3.setTop (mkF m 15 #[.val (.int p0), .val (.int p1), .val (.int p2), .unset, .unset, .unset, .unset] [(.int (2 : Int32)), (.ref b1), (.ref b1)])) (fun _ kt => XS.iconst X3.here hx rfl (hb hby at_14) kt) ?_
  refine OFin.to (T3.setTop (mkF m 17 #[.val (.int p0), .val (.int p1), .val (.int p2), .unset, .unset, .unset, .unset] [(.int (10 : Int32)), (.int (2 : Int32)), (.ref b1), (.ref b1)])) (fun _ kt => XS.bipush X3.here hx rfl (hb hby at_15) kt) ?_
  obtain ⟨T4, h4, X4, e4, W4, V4, st4⟩ := own_stI X3 hx hZ e3 V_b1_3 2 (by decide) rfl (Nat.le_of_ble_eq_true rfl) (g := (mkF m 17 #[.val (.int p0), .val (.int p1), .val (.int p2), .unset, .unset, .unset, .unset] [(.int (10 : Int32)), (.int (2 : Int32)), (.ref b1), (.ref b1)])) rfl rfl (hb hby at_17)
  have Z4 := Nat.le_trans Z3 (Keep.of_wr W4).1
  have V_b1_4 : OArr Z h4 b1 .int [(.int (0 : Int32)), (.int (9 : Int32)), (.int (10 : Int32)), (.int (0 : Int32)), (.int (0 : Int32)), (.int (0 : Int32)), (.int (0 : Int32)), (.int (0 : Int32)), (.int (0 : Int32)), (.int (0 : Int32)), (.int (0 : Int32)), (.int (0 : Int32)), (.int (0 : Int32)), (.int (0 : Int32)), (.int (0 : Int32)), (.int (0 : Int32))] := V4
  have N4 := Fr.snoc X4 N3 g_b1
  refine OFin.to (T4.setTop (mkF m 18 #[.val (.int p0), .val (.int p1), .val (.int p2), .unset, .unset, .unset, .unset] [(.ref b1)])) st4 ?_
  refine OFin.to (T4.setTop (mkF m 19 #[.val (.int p0), .val (.int p1), .val (.int p2), .unset, .unset, .unset, .unset] [(.ref b1), (.ref b1)])) (fun _ kt => XS.dup X4.here hx rfl (hb hby at_18) rfl rfl kt) ?_
  refine OFin.to (T4.setTop (mkF m 20 #[.val (.int p0), .val (.int p1), .val (.int p2), .unset, .unset, .unset, .unset] [(.int (3 : Int32)), (.ref b1), (.ref b1)])) (fun _ kt => XS.iconst X4.here hx rfl (hb hby at_19) kt) ?_
  refine OFin.to (T4.setTop (mkF m 22 #[.val (.int p0), .val (.int p1), .val (.int p2), .unset, .unset, .unset, .unset] [(.int (13 : Int32)), (.int (3 : Int32)), (.ref b1), (.ref b1)])) (fun _ kt => XS.bipush X4.here hx rfl (hb hby at_20) kt) ?_
  obtain ⟨T5, h5, X5, e5, W5, V5, st5⟩ := own_stI X4 hx hZ e4 V_b1_4 3 (by decide) rfl (Nat.le_of_ble_eq_true rfl) (g := (mkF m 22 #[.val (.int p0), .val (.int p1), .val (.int p2), .unset, .unset, .unset, .unset] [(.int (13 : Int32)), (.int (3 : Int32)), (.ref b1), (.ref b1)])) rfl rfl (hb hby at_22)
  have Z5 := Nat.le_trans Z4 (Keep.of_wr W5).1
  have V_b1_5 : OArr Z h5 b1 .int [(.int (0 : Int32)), (.int (9 : Int32)), (.int (10 : Int32)), (.int (13 : Int32)), (.int (0 : Int32)), (.int (0 : Int32)), (.int (0 : Int32)), (.int (0 : Int32)), (.int (0 : Int32)), (.int (0 : Int32)), (.int (0 : Int32)), (.int (0 : Int32)), (.int (0 : Int32)), (.int (0 : Int32)), (.int (0 : Int32)), (.int (0 : Int32))] := V5
  have N5 := Fr.snoc X5 N4 g_b1
  refine OFin.to (T5.setTop (mkF m 23 #[.val (.int p0), .val (.int p1), .val (.int p2), .unset, .unset, .unset, .unset] [(.ref b1)])) st5 ?_
  refine OFin.to (T5.setTop (mkF m 24 #[.val (.int p0), .val (.int p1), .val (.int p2), .unset, .unset, .unset, .unset] [(.ref b1), (.ref b1)])) (fun _ kt => XS.dup X5.here hx rfl (hb hby at_23) rfl rfl kt) ?_
  refine OFin.to (T5.setTop (mkF m 25 #[.val (.int p0), .val (.int p1), .val (.int p2), .unset, .unset, .unset, .unset] [(.int (4 : Int32)), (.ref b1), (.ref b1)])) (fun _ kt => XS.iconst X5.here hx rfl (hb hby at_24) kt) ?_
  refine OFin.to (T5.setTop (mkF m 27 #[.val (.int p0), .val (.int p1), .val (.int p2), .unset, .unset, .unset, .unset] [(.int (32 : Int32)), (.int (4 : Int32)), (.ref b1), (.ref b1)])) (fun _ kt => XS.bipush X5.here hx rfl (hb hby at_25) kt) ?_
  obtain ⟨T6, h6, X6, e6, W6, V6, st6⟩ := own_stI X5 hx hZ e5 V_b1_5 4 (by decide) rfl (Nat.le_of_ble_eq_true rfl) (g := (mkF m 27 #[.val (.int p0), .val (.int p1), .val (.int p2), .unset, .unset, .unset, .unset] [(.int (32 : Int32)), (.int (4 : Int32)), (.ref b1), (.ref b1)])) rfl rfl (hb hby at_27)
  have Z6 := Nat.le_trans Z5 (Keep.of_wr W6).1
  have V_b1_6 : OArr Z h6 b1 .int [(.int (0 : Int32)), (.int (9 : Int32)), (.int (10 : Int32)), (.int (13 : Int32)), (.int (32 : Int32)), (.int (0 : Int32)), (.int (0 : Int32)), (.int (0 : Int32)), (.int (0 : Int32)), (.int (0 : Int32)), (.int (0 : Int32)), (.int (0 : Int32)), (.int (0 : Int32)), (.int (0 : Int32)), (.int (0 : Int32)), (.int (0 : Int32))] := V6
  have N6 := Fr.snoc X6 N5 g_b1
  refine OFin.to (T6.setTop (mkF m 28 #[.val (.int p0), .val (.int p1), .val (.int p2), .unset, .unset, .unset, .unset] [(.ref b1)])) st6 ?_
  refine OFin.to (T6.setTop (mkF m 29 #[.val (.int p0), .val (.int p1), .val (.int p2), .unset, .unset, .unset, .unset] [(.ref b1), (.ref b1)])) (fun _ kt => XS.dup X6.here hx rfl (hb hby at_28) rfl rfl kt) ?_
  refine OFin.to (T6.setTop (mkF m 30 #[.val (.int p0), .val (.int p1), .val (.int p2), .unset, .unset, .unset, .unset] [(.int (5 : Int32)), (.ref b1), (.ref b1)])) (fun _ kt => XS.iconst X6.here hx rfl (hb hby at_29) kt) ?_
  refine OFin.to (T6.setTop (mkF m 32 #[.val (.int p0), .val (.int p1), .val (.int p2), .unset, .unset, .unset, .unset] [(.int (55295 : Int32)), (.int (5 : Int32)), (.ref b1), (.ref b1)])) (fun _ kt => X6.ldcI hx hown (mvT hZ (hw _ (List.mem_of_getElem? (i := 1) rfl))) (g := (mkF m 30 #[.val (.int p0), .val (.int p1), .val (.int p2), .unset, .unset, .unset, .unset] [(.int (5 : Int32)), (.ref b1), (.ref b1)])) rfl (hb hby at_30) kt) ?_
  obtain ⟨T7, h7, X7, e7, W7, V7, st7⟩ := own_stI X6 hx hZ e6 V_b1_6 5 (by decide) rfl (Nat.le_of_ble_eq_true rfl) (g := (mkF m 32 #[.val (.int p0), .val (.int p1), .val (.int p2), .unset, .unset, .unset, .unset] [(.int (55295 : Int32)), (.int (5 : Int32)), (.ref b1), (.ref b1)])) rfl rfl (hb hby at_32)
  have Z7 := Nat.le_trans Z6 (Keep.of_wr W7).1
  have V_b1_7 : OArr Z h7 b1 .int [(.int (0 : Int32)), (.int (9 : Int32)), (.int (10 : Int32)), (.int (13 : Int32)), (.int (32 : Int32)), (.int (55295 : Int32)), (.int (0 : Int32)), (.int (0 : Int32)), (.int (0 : Int32)), (.int (0 : Int32)), (.int (0 : Int32)), (.int (0 : Int32)), (.int (0 : Int32)), (.int (0 : Int32)), (.int (0 : Int32)), (.int (0 : Int32))] := V7
  have N7 := Fr.snoc X7 N6 g_b1
  refine OFin.to (T7.setTop (mkF m 33 #[.val (.int p0), .val (.int p1), .val (.int p2), .unset, .unset, .unset, .unset] [(.ref b1)])) st7 ?_
  refine OFin.to (T7.setTop (mkF m 34 #[.val (.int p0), .val (.int p1), .val (.int p2), .unset, .unset, .unset, .unset] [(.ref b1), (.ref b1)])) (fun _ kt => XS.dup X7.here hx rfl (hb hby at_33) rfl rfl kt) ?_
  refine OFin.to (T7.setTop (mkF m 36 #[.val (.int p0), .val (.int p1), .val (.int p2), .unset, .unset, .unset, .unset] [(.int (6 : Int32)), (.ref b1), (.ref b1)])) (fun _ kt => XS.bipush X7.here hx rfl (hb hby at_34) kt) ?_
  refine OFin.to (T7.setTop (mkF m 38 #[.val (.int p0), .val (.int p1), .val (.int p2), .unset, .unset, .unset, .unset] [(.int (55296 : Int32)), (.int (6 : Int32)), (.ref b1), (.ref b1)])) (fun _ kt => X7.ldcI hx hown (mvT hZ (hw _ (List.mem_of_getElem? (i := 2) rfl))) (g := (mkF m 36 #[.val (.int p0), .val (.int p1), .val (.int p2), .unset, .unset, .unset, .unset] [(.int (6 : Int32)), (.ref b1), (.ref b1)])) rfl (hb hby at_36) kt) ?_
  obtain ⟨T8, h8, X8, e8, W8, V8, st8⟩ := own_stI X7 hx hZ e7 V_b1_7 6 (by decide) rfl (Nat.le_of_ble_eq_true rfl) (g := (mkF m 38 #[.val (.int p0), .val (.int p1), .val (.int p2), .unset, .unset, .unset, .unset] [(.int (55296 : Int32)), (.int (6 : Int32)), (.ref b1), (.ref b1)])) rfl rfl (hb hby at_38)
  have Z8 := Nat.le_trans Z7 (Keep.of_wr W8).1
  have V_b1_8 : OArr Z h8 b1 .int [(.int (0 : Int32)), (.int (9 : Int32)), (.int (10 : Int32)), (.int (13 : Int32)), (.int (32 : Int32)), (.int (55295 : Int32)), (.int (55296 : Int32)), (.int (0 : Int32)), (.int (0 : Int32)), (.int (0 : Int32)), (.int (0 : Int32)), (.int (0 : Int32)), (.int (0 : Int32)), (.int (0 : Int32)), (.int (0 : Int32)), (.int (0 : Int32))] := V8
  have N8 := Fr.snoc X8 N7 g_b1
  refine OFin.to (T8.setTop (mkF m 39 #[.val (.int p0), .val (.int p1), .val (.int p2), .unset, .unset, .unset, .unset] [(.ref b1)])) st8 ?_
  refine OFin.to (T8.setTop (mkF m 40 #[.val (.int p0), .val (.int p1), .val (.int p2), .unset, .unset, .unset, .unset] [(.ref b1), (.ref b1)])) (fun _ kt => XS.dup X8.here hx rfl (hb hby at_39) rfl rfl kt) ?_
  refine OFin.to (T8.setTop (mkF m 42 #[.val (.int p0), .val (.int p1), .val (.int p2), .unset, .unset, .unset, .unset] [(.int (7 : Int32)), (.ref b1), (.ref b1)])) (fun _ kt => XS.bipush X8.here hx rfl (hb hby at_40) kt) ?_
  refine OFin.to (T8.setTop (mkF m 44 #[.val (.int p0), .val (.int p1), .val (.int p2), .unset, .unset, .unset, .unset] [(.int (57343 : Int32)), (.int (7 : Int32)), (.ref b1), (.ref b1)])) (fun _ kt => X8.ldcI hx hown (mvT hZ (hw _ (List.mem_of_getElem? (i := 3) rfl))) (g := (mkF m 42 #[.val (.int p0), .val (.int p1), .val (.int p2), .unset, .unset, .unset, .unset] [(.int (7 : Int32)), (.ref b1), (.ref b1)])) rfl (hb hby at_42) kt) ?_
  obtain ⟨T9, h9, X9, e9, W9, V9, st9⟩ := own_stI X8 hx hZ e8 V_b1_8 7 (by decide) rfl (Nat.le_of_ble_eq_true rfl) (g := (mkF m 44 #[.val (.int p0), .val (.int p1), .val (.int p2), .unset, .unset, .unset, .unset] [(.int (57343 : Int32)), (.int (7 : Int32)), (.ref b1), (.ref b1)])) rfl rfl (hb hby at_44)
  have Z9 := Nat.le_trans Z8 (Keep.of_wr W9).1
  have V_b1_9 : OArr Z h9 b1 .int [(.int (0 : Int32)), (.int (9 : Int32)), (.int (10 : Int32)), (.int (13 : Int32)), (.int (32 : Int32)), (.int (55295 : Int32)), (.int (55296 : Int32)), (.int (57343 : Int32)), (.int (0 : Int32)), (.int (0 : Int32)), (.int (0 : Int32)), (.int (0 : Int32)), (.int (0 : Int32)), (.int (0 : Int32)), (.int (0 : Int32)), (.int (0 : Int32))] := V9
  have N9 := Fr.snoc X9 N8 g_b1
  refine OFin.to (T9.setTop (mkF m 45 #[.val (.int p0), .val (.int p1), .val (.int p2), .unset, .unset, .unset, .unset] [(.ref b1)])) st9 ?_
  refine OFin.to (T9.setTop (mkF m 46 #[.val (.int p0), .val (.int p1), .val (.int p2), .unset, .unset, .unset, .unset] [(.ref b1), (.ref b1)])) (fun _ kt => XS.dup X9.here hx rfl (hb hby at_45) rfl rfl kt) ?_
  refine OFin.to (T9.setTop (mkF m 48 #[.val (.int p0), .val (.int p1), .val (.int p2), .unset, .unset, .unset, .unset] [(.int (8 : Int32)), (.ref b1), (.ref b1)])) (fun _ kt => XS.bipush X9.here hx rfl (hb hby at_46) kt) ?_
  refine OFin.to (T9.setTop (mkF m 50 #[.val (.int p0), .val (.int p1), .val (.int p2), .unset, .unset, .unset, .unset] [(.int (57344 : Int32)), (.int (8 : Int32)), (.ref b1), (.ref b1)])) (fun _ kt => X9.ldcI hx hown (mvT hZ (hw _ (List.mem_of_getElem? (i := 4) rfl))) (g := (mkF m 48 #[.val (.int p0), .val (.int p1), .val (.int p2), .unset, .unset, .unset, .unset] [(.int (8 : Int32)), (.ref b1), (.ref b1)])) rfl (hb hby at_48) kt) ?_
  obtain ⟨T10, h10, X10, e10, W10, V10, st10⟩ := own_stI X9 hx hZ e9 V_b1_9 8 (by decide) rfl (Nat.le_of_ble_eq_true rfl) (g := (mkF m 50 #[.val (.int p0), .val (.int p1), .val (.int p2), .unset, .unset, .unset, .unset] [(.int (57344 : Int32)), (.int (8 : Int32)), (.ref b1), (.ref b1)])) rfl rfl (hb hby at_50)
  have Z10 := Nat.le_trans Z9 (Keep.of_wr W10).1
  have V_b1_10 : OArr Z h10 b1 .int [(.int (0 : Int32)), (.int (9 : Int32)), (.int (10 : Int32)), (.int (13 : Int32)), (.int (32 : Int32)), (.int (55295 : Int32)), (.int (55296 : Int32)), (.int (57343 : Int32)), (.int (57344 : Int32)), (.int (0 : Int32)), (.int (0 : Int32)), (.int (0 : Int32)), (.int (0 : Int32)), (.int (0 : Int32)), (.int (0 : Int32)), (.int (0 : Int32))] := V10
  have N10 := Fr.snoc X10 N9 g_b1
  refine OFin.to (T10.setTop (mkF m 51 #[.val (.int p0), .val (.int p1), .val (.int p2), .unset, .unset, .unset, .unset] [(.ref b1)])) st10 ?_
  refine OFin.to (T10.setTop (mkF m 52 #[.val (.int p0), .val (.int p1), .val (.int p2), .unset, .unset, .unset, .unset] [(.ref b1), (.ref b1)])) (fun _ kt => XS.dup X10.here hx rfl (hb hby at_51) rfl rfl kt) ?_
  refine OFin.to (T10.setTop (mkF m 54 #[.val (.int p0), .val (.int p1), .val (.int p2), .unset, .unset, .unset, .unset] [(.int (9 : Int32)), (.ref b1), (.ref b1)])) (fun _ kt => XS.bipush X10.here hx rfl (hb hby at_52) kt) ?_
  refine OFin.to (T10.setTop (mkF m 56 #[.val (.int p0), .val (.int p1), .val (.int p2), .unset, .unset, .unset, .unset] [(.int (65533 : Int32)), (.int (9 : Int32)), (.ref b1), (.ref b1)])) (fun _ kt => X10.ldcI hx hown (mvT hZ (hw _ (List.mem_of_getElem? (i := 5) rfl))) (g := (mkF m 54 #[.val (.int p0), .val (.int p1), .val (.int p2), .unset, .unset, .unset, .unset] [(.int (9 : Int32)), (.ref b1), (.ref b1)])) rfl (hb hby at_54) kt) ?_
  obtain ⟨T11, h11, X11, e11, W11, V11, st11⟩ := own_stI X10 hx hZ e10 V_b1_10 9 (by decide) rfl (Nat.le_of_ble_eq_true rfl) (g := (mkF m 56 #[.val (.int p0), .val (.int p1), .val (.int p2), .unset, .unset, .unset, .unset] [(.int (65533 : Int32)), (.int (9 : Int32)), (.ref b1), (.ref b1)])) rfl rfl (hb hby at_56)
  have Z11 := Nat.le_trans Z10 (Keep.of_wr W11).1
  have V_b1_11 : OArr Z h11 b1 .int [(.int (0 : Int32)), (.int (9 : Int32)), (.int (10 : Int32)), (.int (13 : Int32)), (.int (32 : Int32)), (.int (55295 : Int32)), (.int (55296 : Int32)), (.int (57343 : Int32)), (.int (57344 : Int32)), (.int (65533 : Int32)), (.int (0 : Int32)), (.int (0 : Int32)), (.int (0 : Int32)), (.int (0 : Int32)), (.int (0 : Int32)), (.int (0 : Int32))] := V11
  have N11 := Fr.snoc X11 N10 g_b1
  refine OFin.to (T11.setTop (mkF m 57 #[.val (.int p0), .val (.int p1), .val (.int p2), .unset, .unset, .unset, .unset] [(.ref b1)])) st11 ?_
  refine OFin.to (T11.setTop (mkF m 58 #[.val (.int p0), .val (.int p1), .val (.int p2), .unset, .unset, .unset, .unset] [(.ref b1), (.ref b1)])) (fun _ kt => XS.dup X11.here hx rfl (hb hby at_57) rfl rfl kt) ?_
  refine OFin.to (T11.setTop (mkF m 60 #[.val (.int p0), .val (.int p1), .val (.int p2), .unset, .unset, .unset, .unset] [(.int (10 : Int32)), (.ref b1), (.ref b1)])) (fun _ kt => XS.bipush X11.here hx rfl (hb hby at_58) kt) ?_
  refine OFin.to (T11.setTop (mkF m 62 #[.val (.int p0), .val (.int p1), .val (.int p2), .unset, .unset, .unset, .unset] [(.int (65534 : Int32)), (.int (10 : Int32)), (.ref b1), (.ref b1)])) (fun _ kt => X11.ldcI hx hown (mvT hZ (hw _ (List.mem_of_getElem? (i := 6) rfl))) (g := (mkF m 60 #[.val (.int p0), .val (.int p1), .val (.int p2), .unset, .unset, .unset, .unset] [(.int (10 : Int32)), (.ref b1), (.ref b1)])) rfl (hb hby at_60) kt) ?_
  obtain ⟨T12, h12, X12, e12, W12, V12, st12⟩ := own_stI X11 hx hZ e11 V_b1_11 10 (by decide) rfl (Nat.le_of_ble_eq_true rfl) (g := (mkF m 62 #[.val (.int p0), .val (.int p1), .val (.int p2), .unset, .unset, .unset, .unset] [(.int (65534 : Int32)), (.int (10 : Int32)), (.ref b1), (.ref b1)])) rfl rfl (hb hby at_62)
  have Z12 := Nat.le_trans Z11 (Keep.of_wr W12).1
  have V_b1_12 : OArr Z h12 b1 .int [(.int (0 : Int32)), (.int (9 : Int32)), (.int (10 : Int32)), (.int (13 : Int32)), (.int (32 : Int32)), (.int (55295 : Int32)), (.int (55296 : Int32)), (.int (57343 : Int32)), (.int (57344 : Int32)), (.int (65533 : Int32)), (.int (65534 : Int32)), (.int (0 : Int32)), (.int (0 : Int32)), (.int (0 : Int32)), (.int (0 : Int32)), (.int (0 : Int32))] := V12
  have N12 := Fr.snoc X12 N11 g_b1
  refine OFin.to (T12.setTop (mkF m 63 #[.val (.int p0), .val (.int p1), .val (.int p2), .unset, .unset, .unset, .unset] [(.ref b1)])) st12 ?_
  refine OFin.to (T12.setTop (mkF m 64 #[.val (.int p0), .val (.int p1), .val (.int p2), .unset, .unset, .unset, .unset] [(.ref b1), (.ref b1)])) (fun _ kt => XS.dup X12.here hx rfl (hb hby at_63) rfl rfl kt) ?_
  refine OFin.to (T12.setTop (mkF m 66 #[.val (.int p0), .val (.int p1), .val (.int p2), .unset, .unset, .unset, .unset] [(.int (11 : Int32)), (.ref b1), (.ref b1)])) (fun _ kt => XS.bipush X12.here hx rfl (hb hby at_64) kt) ?_
  refine OFin.to (T12.setTop (mkF m 68 #[.val (.int p0), .val (.int p1), .val (.int p2), .unset, .unset, .unset, .unset] [(.int (65536 : Int32)), (.int (11 : Int32)), (.ref b1), (.ref b1)])) (fun _ kt => X12.ldcI hx hown (mvT hZ (hw _ (List.mem_of_getElem? (i := 7) rfl))) (g := (mkF m 66 #[.val (.int p0), .val (.int p1), .val (.int p2), .unset, .unset, .unset, .unset] [(.int (11 : Int32)), (.ref b1), (.ref b1)])) rfl (hb hby at_66) kt) ?_
  obtain ⟨T13, h13, X13, e13, W13, V13, st13⟩ := own_stI X12 hx hZ e12 V_b1_12 11 (by decide) rfl (Nat.le_of_ble_eq_true rfl) (g := (mkF m 68 #[.val (.int p0), .val (.int p1), .val (.int p2), .unset, .unset, .unset, .unset] [(.int (65536 : Int32)), (.int (11 : Int32)), (.ref b1), (.ref b1)])) rfl rfl (hb hby at_68)
  have Z13 := Nat.le_trans Z12 (Keep.of_wr W13).1
  have V_b1_13 : OArr Z h13 b1 .int [(.int (0 : Int32)), (.int (9 : Int32)), (.int (10 : Int32)), (.int (13 : Int32)), (.int (32 : Int32)), (.int (55295 : Int32)), (.int (55296 : Int32)), (.int (57343 : Int32)), (.int (57344 : Int32)), (.int (65533 : Int32)), (.int (65534 : Int32)), (.int (65536 : Int32)), (.int (0 : Int32)), (.int (0 : Int32)), (.int (0 : Int32)), (.int (0 : Int32))] := V13
  have N13 := Fr.snoc X13 N12 g_b1
  refine OFin.to (T13.setTop (mkF m 69 #[.val (.int p0), .val (.int p1), .val (.int p2), .unset, .unset, .unset, .unset] [(.ref b1)])) st13 ?_
  refine OFin.to (T13.setTop (mkF m 70 #[.val (.int p0), .val (.int p1), .val (.int p2), .unset, .unset, .unset, .unset] [(.ref b1), (.ref b1)])) (fun _ kt => XS.dup X13.here hx rfl (hb hby at_69) rfl rfl kt) ?_
  refine OFin.to (T13.setTop (mkF m 72 #[.val (.int p0), .val (.int p1), .val (.int p2), .unset, .unset, .unset, .unset] [(.int (12 : Int32)), (.ref b1), (.ref b1)])) (fun _ kt => XS.bipush X13.here hx rfl (hb hby at_70) kt) ?_
  refine OFin.to (T13.setTop (mkF m 74 #[.val (.int p0), .val (.int p1), .val (.int p2), .unset, .unset, .unset, .unset] [(.int (1114111 : Int32)), (.int (12 : Int32)), (.ref b1), (.ref b1)])) (fun _ kt => X13.ldcI hx hown (mvT hZ (hw _ (List.mem_of_getElem? (i := 8) rfl))) (g := (mkF m 72 #[.val (.int p0), .val (.int p1), .val (.int p2), .unset, .unset, .unset, .unset] [(.int (12 : Int32)), (.ref b1), (.ref b1)])) rfl (hb hby at_72) kt) ?_
  obtain ⟨T14, h14, X14, e14, W14, V14, st14⟩ := own_stI X13 hx hZ e13 V_b1_13 12 (by decide) rfl (Nat.le_of_ble_eq_true rfl) (g := (mkF m 74 #[.val (.int p0), .val (.int p1), .val (.int p2), .unset, .unset, .unset, .unset] [(.int (1114111 : Int32)), (.int (12 : Int32)), (.ref b1), (.ref b1)])) rfl rfl (hb hby at_74)
  have Z14 := Nat.le_trans Z13 (Keep.of_wr W14).1
  have V_b1_14 : OArr Z h14 b1 .int [(.int (0 : Int32)), (.int (9 : Int32)), (.int (10 : Int32)), (.int (13 : Int32)), (.int (32 : Int32)), (.int (55295 : Int32)), (.int (55296 : Int32)), (.int (57343 : Int32)), (.int (57344 : Int32)), (.int (65533 : Int32)), (.int (65534 : Int32)), (.int (65536 : Int32)), (.int (1114111 : Int32)), (.int (0 : Int32)), (.int (0 : Int32)), (.int (0 : Int32))] := V14
  have N14 := Fr.snoc X14 N13 g_b1
  refine OFin.to (T14.setTop (mkF m 75 #[.val (.int p0), .val (.int p1), .val (.int p2), .unset, .unset, .unset, .unset] [(.ref b1)])) st14 ?_
  refine OFin.to (T14.setTop (mkF m 76 #[.val (.int p0), .val (.int p1), .val (.int p2), .unset, .unset, .unset, .unset] [(.ref b1), (.ref b1)])) (fun _ kt => XS.dup X14.here hx rfl (hb hby at_75) rfl rfl kt) ?_
  refine OFin.to (T14.setTop (mkF m 78 #[.val (.int p0), .val (.int p1), .val (.int p2), .unset, .unset, .unset, .unset] [(.int (13 : Int32)), (.ref b1), (.ref b1)])) (fun _ kt => XS.bipush X14.here hx rfl (hb hby at_76) kt) ?_
  refine OFin.to (T14.setTop (mkF m 80 #[.val (.int p0), .val (.int p1), .val (.int p2), .unset, .unset, .unset, .unset] [(.int (1114112 : Int32)), (.int (13 : Int32)), (.ref b1), (.ref b1)])) (fun _ kt => X14.ldcI hx hown (mvT hZ (hw _ (List.mem_of_getElem? (i := 9) rfl))) (g := (mkF m 78 #[.val (.int p0), .val (.int p1), .val (.int p2), .unset, .unset, .unset, .unset] [(.int (13 : Int32)), (.ref b1), (.ref b1)])) rfl (hb hby at_78) kt) ?_
  obtain ⟨T15, h15, X15, e15, W15, V15, st15⟩ := own_stI X14 hx hZ e14 V_b1_14 13 (by decide) rfl (Nat.le_of_ble_eq_true rfl) (g := (mkF m 80 #[.val (.int p0), .val (.int p1), .val (.int p2), .unset, .unset, .unset, .unset] [(.int (1114112 : Int32)), (.int (13 : Int32)), (.ref b1), (.ref b1)])) rfl rfl (hb hby at_80)
  have Z15 := Nat.le_trans Z14 (Keep.of_wr W15).1
  have V_b1_15 : OArr Z h15 b1 .int [(.int (0 : Int32)), (.int (9 : Int32)), (.int (10 : Int32)), (.int (13 : Int32)), (.int (32 : Int32)), (.int (55295 : Int32)), (.int (55296 : Int32)), (.int (57343 : Int32)), (.int (57344 : Int32)), (.int (65533 : Int32)), (.int (65534 : Int32)), (.int (65536 : Int32)), (.int (1114111 : Int32)), (.int (1114112 : Int32)), (.int (0 : Int32)), (.int (0 : Int32))] := V15
  have N15 := Fr.snoc X15 N14 g_b1
  refine OFin.to (T15.setTop (mkF m 81 #[.val (.int p0), .val (.int p1), .val (.int p2), .unset, .unset, .unset, .unset] [(.ref b1)])) st15 ?_
  refine OFin.to (T15.setTop (mkF m 82 #[.val (.int p0), .val (.int p1), .val (.int p2), .unset, .unset, .unset, .unset] [(.ref b1), (.ref b1)])) (fun _ kt => XS.dup X15.here hx rfl (hb hby at_81) rfl rfl kt) ?_
  refine OFin.to (T15.setTop (mkF m 84 #[.val (.int p0), .val (.int p1), .val (.int p2), .unset, .unset, .unset, .unset] [(.int (14 : Int32)), (.ref b1), (.ref b1)])) (fun _ kt => XS.bipush X15.here hx rfl (hb hby at_82) kt) ?_
  refine OFin.to (T15.setTop (mkF m 86 #[.val (.int p0), .val (.int p1), .val (.int p2), .unset, .unset, .unset, .unset] [(.int (-2147483648 : Int32)), (.int (14 : Int32)), (.ref b1), (.ref b1)])) (fun _ kt => X15.ldcI hx hown (mvT hZ (hw _ (List.mem_of_getElem? (i := 10) rfl))) (g := (mkF m 84 #[.val (.int p0), .val (.int p1), .val (.int p2), .unset, .unset, .unset, .unset] [(.int (14 : Int32)), (.ref b1), (.ref b1)])) rfl (hb hby at_84) kt) ?_
  obtain ⟨T16, h16, X16, e16, W16, V16, st16⟩ := own_stI X15 hx hZ e15 V_b1_15 14 (by decide) rfl (Nat.le_of_ble_eq_true rfl) (g := (mkF m 86 #[.val (.int p0), .val (.int p1), .val (.int p2), .unset, .unset, .unset, .unset] [(.int (-2147483648 : Int32)), (.int (14 : Int32)), (.ref b1), (.ref b1)])) rfl rfl (hb hby at_86)
  have Z16 := Nat.le_trans Z15 (Keep.of_wr W16).1
  have V_b1_16 : OArr Z h16 b1 .int [(.int (0 : Int32)), (.int (9 : Int32)), (.int (10 : Int32)), (.int (13 : Int32)), (.int (32 : Int32)), (.int (55295 : Int32)), (.int (55296 : Int32)), (.int (57343 : Int32)), (.int (57344 : Int32)), (.int (65533 : Int32)), (.int (65534 : Int32)), (.int (65536 : Int32)), (.int (1114111 : Int32)), (.int (1114112 : Int32)), (.int (-2147483648 : Int32)), (.int (0 : Int32))] := V16
  have N16 := Fr.snoc X16 N15 g_b1
  refine OFin.to (T16.setTop (mkF m 87 #[.val (.int p0), .val (.int p1), .val (.int p2), .unset, .unset, .unset, .unset] [(.ref b1)])) st16 ?_
  refine OFin.to (T16.setTop (mkF m 88 #[.val (.int p0), .val (.int p1), .val (.int p2), .unset, .unset, .unset, .unset] [(.ref b1), (.ref b1)])) (fun _ kt => XS.dup X16.here hx rfl (hb hby at_87) rfl rfl kt) ?_
  refine OFin.to (T16.setTop (mkF m 90 #[.val (.int p0), .val (.int p1), .val (.int p2), .unset, .unset, .unset, .unset] [(.int (15 : Int32)), (.ref b1), (.ref b1)])) (fun _ kt => XS.bipush X16.here hx rfl (hb hby at_88) kt) ?_
  refine OFin.to (T16.setTop (mkF m 92 #[.val (.int p0), .val (.int p1), .val (.int p2), .unset, .unset, .unset, .unset] [(.int (2147483647 : Int32)), (.int (15 : Int32)), (.ref b1), (.ref b1)])) (fun _ kt => X16.ldcI hx hown (mvT hZ (hw _ (List.mem_of_getElem? (i := 11) rfl))) (g := (mkF m 90 #[.val (.int p0), .val (.int p1), .val (.int p2), .unset, .unset, .unset, .unset] [(.int (15 : Int32)), (.ref b1), (.ref b1)])) rfl (hb hby at_90) kt) ?_
  obtain ⟨T17, h17, X17, e17, W17, V17, st17⟩ := own_stI X16 hx hZ e16 V_b1_16 15 (by decide) rfl (Nat.le_of_ble_eq_true rfl) (g := (mkF m 92 #[.val (.int p0), .val (.int p1), .val (.int p2), .unset, .unset, .unset, .unset] [(.int (2147483647 : Int32)), (.int (15 : Int32)), (.ref b1), (.ref b1)])) rfl rfl (hb hby at_92)
  have Z17 := Nat.le_trans Z16 (Keep.of_wr W17).1
  have V_b1_17 : OArr Z h17 b1 .int [(.int (0 : Int32)), (.int (9 : Int32)), (.int (10 : Int32)), (.int (13 : Int32)), (.int (32 : Int32)), (.int (55295 : Int32)), (.int (55296 : Int32)), (.int (57343 : Int32)), (.int (57344 : Int32)), (.int (65533 : Int32)), (.int (65534 : Int32)), (.int (65536 : Int32)), (.int (1114111 : Int32)), (.int (1114112 : Int32)), (.int (-2147483648 : Int32)), (.int (2147483647 : Int32))] := V17
  have N17 := Fr.snoc X17 N16 g_b1
  refine OFin.to (T17.setTop (mkF m 93 #[.val (.int p0), .val (.int p1), .val (.int p2), .unset, .unset, .unset, .unset] [(.ref b1)])) st17 ?_
  refine OFin.to (T17.setTop (mkF m 94 #[.val (.int p0), .val (.int p1), .val (.int p2), .val (.ref b1), .unset, .unset, .unset] [])) (fun _ kt => XS.astoreN X17.here hx rfl (hb hby at_93) rfl rfl (l' := #[.val (.int p0), .val (.int p1), .val (.int p2), .val (.ref b1), .unset, .unset, .unset]) rfl kt) ?_
  refine OFin.to (T17.setTop (mkF m 95 #[.val (.int p0), .val (.int p1), .val (.int p2), .val (.ref b1), .unset, .unset, .unset] [(.ref b1)])) (fun _ kt => XS.aloadN X17.here hx rfl (hb hby at_94) rfl rfl kt) ?_
  refine OFin.to (T17.setTop (mkF m 96 #[.val (.int p0), .val (.int p1), .val (.int p2), .val (.ref b1), .unset, .unset, .unset] [(.int p1), (.ref b1)])) (fun _ kt => XS.iloadN X17.here hx rfl (hb hby at_95) rfl kt) ?_
  refine OFin.to (T17.setTop (mkF m 98 #[.val (.int p0), .val (.int p1), .val (.int p2), .val (.ref b1), .unset, .unset, .unset] [(.int (15 : Int32)), (.int p1), (.ref b1)])) (fun _ kt => XS.bipush X17.here hx rfl (hb hby at_96) kt) ?_
  refine OFin.to (T17.setTop (mkF m 99 #[.val (.int p0), .val (.int p1), .val (.int p2), .val (.ref b1), .unset, .unset, .unset] [(.int (p1 &&& (15 : Int32))), (.ref b1)])) (fun _ kt => XS.iand X17.here hx rfl (hb hby at_98) rfl kt) ?_
  obtain ⟨w, hv⟩ := own_rd [(0 : Int32), (9 : Int32), (10 : Int32), (13 : Int32), (32 : Int32), (55295 : Int32), (55296 : Int32), (57343 : Int32), (57344 : Int32), (65533 : Int32), (65534 : Int32), (65536 : Int32), (1114111 : Int32), (1114112 : Int32), (-2147483648 : Int32), (2147483647 : Int32)] (p1 &&& (15 : Int32)) (own_and15 p1).2
  refine OFin.to (T17.setTop (mkF m 100 #[.val (.int p0), .val (.int p1), .val (.int p2), .val (.ref b1), .unset, .unset, .unset] [(.int w)])) (fun _ kt => own_ldI X17 hx hZ e17 V_b1_17 (j := p1 &&& (15 : Int32)) (own_and15 p1).1 hv (g := (mkF m 99 #[.val (.int p0), .val (.int p1), .val (.int p2), .val (.ref b1), .unset, .unset, .unset] [(.int (p1 &&& (15 : Int32))), (.ref b1)])) rfl rfl (hb hby at_99) _ kt) ?_
  refine OFin.to (T17.setTop (mkF m 101 #[.val (.int p0), .val (.int p1), .val (.int p2), .val (.ref b1), .unset, .unset, .unset] [(.int p2), (.int w)])) (fun _ kt => XS.iloadN X17.here hx rfl (hb hby at_100) rfl kt) ?_
  refine OFin.to (T17.setTop (mkF m 103 #[.val (.int p0), .val (.int p1), .val (.int p2), .val (.ref b1), .unset, .unset, .unset] [(.int (7 : Int32)), (.int p2), (.int w)])) (fun _ kt => XS.bipush X17.here hx rfl (hb hby at_101) kt) ?_
  refine OFin.to (T17.setTop (mkF m 104 #[.val (.int p0), .val (.int p1), .val (.int p2), .val (.ref b1), .unset, .unset, .unset] [(.int (p2 &&& (7 : Int32))), (.int w)])) (fun _ kt => XS.iand X17.here hx rfl (hb hby at_103) rfl kt) ?_
  refine OFin.to (T17.setTop (mkF m 105 #[.val (.int p0), .val (.int p1), .val (.int p2), .val (.ref b1), .unset, .unset, .unset] [(.int (4 : Int32)), (.int (p2 &&& (7 : Int32))), (.int w)])) (fun _ kt => XS.iconst X17.here hx rfl (hb hby at_104) kt) ?_
  refine OFin.to (T17.setTop (mkF m 106 #[.val (.int p0), .val (.int p1), .val (.int p2), .val (.ref b1), .unset, .unset, .unset] [(.int ((p2 &&& (7 : Int32)) - (4 : Int32))), (.int w)])) (fun _ kt => XS.isub X17.here hx rfl (hb hby at_105) rfl kt) ?_
  refine OFin.to (T17.setTop (mkF m 107 #[.val (.int p0), .val (.int p1), .val (.int p2), .val (.ref b1), .unset, .unset, .unset] [(.int (w + ((p2 &&& (7 : Int32)) - (4 : Int32))))])) (fun _ kt => XS.iadd X17.here hx rfl (hb hby at_106) rfl kt) ?_
  refine OFin.to (T17.setTop (mkF m 109 #[.val (.int p0), .val (.int p1), .val (.int p2), .val (.ref b1), .val (.int (w + ((p2 &&& (7 : Int32)) - (4 : Int32)))), .unset, .unset] [])) (fun _ kt => XS.istore X17.here hx rfl (hb hby at_107) rfl (l' := #[.val (.int p0), .val (.int p1), .val (.int p2), .val (.ref b1), .val (.int (w + ((p2 &&& (7 : Int32)) - (4 : Int32)))), .unset, .unset]) rfl kt) ?_
  exact ro0_109 p0 p1 p2 (w + ((p2 &&& (7 : Int32)) - (4 : Int32))) b1 X17 hx hZ hw hby hml hown hret hlk e17 (by decide) (by decide) (by decide) (by decide) ⟨by rw [own_law], N17⟩
set_option maxRecDepth 65536 in
set_option maxHeartbeats 40000000 in
theorem comes_1 {Post : Tables → Env → Array Value → State → Outcome → State → Prop} (hpost : ∀ tb e args s v u, (limb_1_1.after args s (.returned v) u = true ∧ limb_1_2.after args s (.returned v) u = true ∧ True) → FrameEnd s (.returned v) u (Jvm.fieldLocs frame_1_writes args s ++ Jvm.arrayLocs frame_1_arrays args s ++ Jvm.staticLocs frame_1_statics s) 16 128 → Post tb e args s (.returned v) u) :
    ArmFor flags0 classFile x code maxLocals ret World_1 tables_1 room_1 Calls_1 rest_1 Pre_1 Post := by
  intro l hfl _ _ p e ha hc hk s m args below hf hA hF happ hP
  obtain ⟨hcalls, hrest, hpre⟩ := hP
  obtain ⟨-, -, -, hnamed, -, -, -, hat⟩ := (Spec.applies_iff hf).mp happ
  obtain ⟨hg, hn⟩ := and_e (Cond.before_iff.mp (show (Jvm.Cond.and given_1 narrow_1).before args s = true from hpre))
  obtain ⟨hcnt, g0⟩ := and_e hg
  obtain ⟨k0, g1⟩ := and_e g0
  obtain ⟨k1, g2⟩ := and_e g1
  obtain ⟨w0, w1, w2, rfl⟩ : ∃ w0 w1 w2 : Value, args = #[w0, w1, w2] := by
    have hs : args.size = 3 := by simpa [Cond.value, given_1] using hcnt
    obtain ⟨L⟩ := args
    match L, hs with
    | [w0, w1, w2], _ => exact ⟨w0, w1, w2, rfl⟩
  have hw := fun d (hd : d ∈ tables_1) => atoms_spec (ws := Jvm.Cond.code x code maxLocals ret :: tables_1) hat d (List.mem_cons_of_mem _ hd)
  have hfit : Fit s := fun {y c} hc i hi => by
    obtain ⟨ha, rfl⟩ := Array.getElem?_eq_some_iff.mp hc
    have q := List.all_eq_true.mp ((Array.all_eq_true_iff_forall_mem.mp hF) _ (Array.getElem_mem ha)) i (List.mem_range.mpr hi)
    simpa [Array.getElem?_eq_getElem hi] using q
  obtain ⟨v0, ev0⟩ := is_v k0
  obtain rfl : w0 = (.int v0) := Option.some.inj ev0
  obtain ⟨v1, ev1⟩ := is_v k1
  obtain rfl : w1 = (.int v1) := Option.some.inj ev1
  obtain ⟨v2, ev2⟩ := is_v g2
  obtain rfl : w2 = (.int v2) := Option.some.inj ev2
  obtain ⟨n, o, h1, h2, h3, _, L, rfl, ⟨rfl, N⟩, hq⟩ := rm0 l s _ hw tables_1 v0 v1 v2 s.heap p e ha hc hk s m _ below hf ((Spec.applies_iff_loose hf).mp happ).1 ⟨rfl, State.Warmed39.refl s, rfl⟩ trivial
  refine ⟨n, _, h1, h2, h3, hpost _ _ _ _ _ _ ⟨Cond.after_iff.mpr rfl, Cond.after_iff.mpr (eq_i res_at (Term.int_eval (1)) rfl), trivial⟩ ⟨hq.1, hq.2.1, (hq.2.2.sift fun y hy => Or.inr (N y hy)).mono (by decide) (by decide)⟩⟩
theorem main_1_1 : Claimed_1_1 := comes_1 fun _ _ _ _ _ _ h hF => ⟨h.1, hF⟩
theorem main_1_2 : Claimed_1_2 := comes_1 fun _ _ _ _ _ _ h hF => ⟨h.2.1, hF⟩
end Jvm.Pilot.@@N@@
namespace Jvm.Pilot.@@N@@
open Jvm Jvm.ClassFile Sem Op Lib Jvm.Free Jvm.Stand Jvm.Pilot.@@N@@.Jvm.D
/-! MADE BY PROGRAM (witnessworld.py) out of the Statement's table words and the real class files: 9 classes; the members and pool entries that the words name. The judged class is class 1, her method 2. -/
namespace start1
open Jvm.ClassFile
def u (s : String) : CpInfo := .utf8 (stringToUtf16 s)
/-- a pool by its gaps: so many unusable entries, then the entry; so many at the end -/
def gap : Nat → List CpInfo → List CpInfo
  | 0, r => r
  | n + 1, r => .unusable :: gap n r
def poolList (es : List (Nat × CpInfo)) (last : Nat) : List CpInfo := es.foldr (fun e r => gap e.1 (e.2 :: r)) (gap last [])
def pool (es : List (Nat × CpInfo)) (last : Nat) : Array CpInfo := ⟨poolList es last⟩
def fileOf (pool : Array CpInfo) (this : Nat) (attrs : Array Attribute := #[]) (ms : Array MethodInfo := #[]) (fl : Nat := 33) (sup : Nat := 0) (ifs : Array Nat := #[]) (fds : Array FieldInfo := #[]) : ClassFile where
  minorVersion := 0
  majorVersion := 65
  constantPool := pool
  accessFlags := fl
  thisClass := this
  superClass := sup
  interfaces := ifs
  fields := fds
  methods := ms
  attributes := attrs
def plain (name : String) (sup : Option ClassId) : Class where
  name := name
  kind := .ordinary
  loader := none
  accessFlags := 33
  super := sup
  interfaces := #[]
  cf := none
  fields := #[]
  methods := #[]
  instanceTypes := #[]
  staticTypes := #[]
  resolved := #[]
  callSites := []
  init := .initialized
  statics := none
  mirror := none

def pool0 : Array CpInfo := pool [(5, u "<init>"), (0, u "()V"), (1, .class_ 10), (1, u "java/lang/Object")] 113

def k0m0 : Method := { name := "<init>", desc := "()V", sig := { parameters := [], returnType := none }, accessFlags := 1, code := none }
/-- java/lang/Object -/
def k0 : Class := { plain "java/lang/Object" none with
  accessFlags := 33
  interfaces := #[]
  cf := some (fileOf pool0 8 #[] #[{ accessFlags := 1, nameIndex := 5, descriptorIndex := 6, attributes := #[] }] 33 0 #[] #[])
  fields := #[]
  methods := #[k0m0]
  instanceTypes := #[]
  staticTypes := #[]
  resolved := Array.replicate 124 none
  statics := none }

def pool1 : Array CpInfo := pool [(2, .class_ 4), (1, u "java/lang/Object"), (0, u "<init>"), (0, u "()V"), (0, .integer 1114111), (0, .integer 65534), (0, .integer 65535), (0, .integer 55295), (0, .integer 55296), (0, .integer 57343), (0, .integer 57344), (0, .integer 65533), (0, .integer 65536), (0, .integer 1114112), (2, .integer 2147483648), (0, .integer 2147483647), (0, .methodref 22 23), (0, .class_ 24), (0, .nameAndType 25 26), (0, u "com/example/stylesheet_engine/stylesheetengine/model/XmlChars"), (0, u "isXmlChar"), (0, u "(I)Z"), (0, .methodref 28 29), (0, .class_ 30), (0, .nameAndType 31 26), (0, u "com/example/stylesheet_engine/stylesheetengine/model/XmlCharsIsXmlCharPinLaw"), (0, u "expected"), (3, u "law"), (0, u "(III)Z")] 4

def k1m0 : Method := { name := "<init>", desc := "()V", sig := { parameters := [], returnType := none }, accessFlags := 2, code := none }
def k1c1 : Code := { maxStack := 2, maxLocals := 1, code := method_2_code, exceptionTable := #[], attributes := #[] }
def k1m1 : Method := { name := "expected", desc := "(I)Z", sig := { parameters := [.int], returnType := some .boolean }, accessFlags := 10, code := some k1c1 }
def k1c2 : Code := { maxStack := 4, maxLocals := 7, code := code, exceptionTable := #[], attributes := #[] }
def k1m2 : Method := { name := "law", desc := "(III)Z", sig := { parameters := [.int, .int, .int], returnType := some .boolean }, accessFlags := 9, code := some k1c2 }
/-- com/example/stylesheet_engine/stylesheetengine/model/XmlCharsIsXmlCharPinLaw -/
def k1 : Class := { plain "com/example/stylesheet_engine/stylesheetengine/model/XmlCharsIsXmlCharPinLaw" (some 0) with
  accessFlags := 49
  interfaces := #[]
  cf := some (fileOf pool1 28 #[] #[{ accessFlags := 2, nameIndex := 5, descriptorIndex := 6, attributes := #[] }, { accessFlags := 10, nameIndex := 31, descriptorIndex := 26, attributes := #[] }, { accessFlags := 9, nameIndex := 35, descriptorIndex := 36, attributes := #[] }] 49 2 #[] #[])
  fields := #[]
  methods := #[k1m0, k1m1, k1m2]
  instanceTypes := #[]
  staticTypes := #[]
  resolved := Array.replicate 41 none
  statics := none }

def pool2 : Array CpInfo := pool [(2, .class_ 4), (1, u "java/lang/Object"), (0, u "<init>"), (0, u "()V"), (5, u "(I)Z"), (14, .class_ 28), (0, u "com/example/stylesheet_engine/stylesheetengine/model/XmlChars"), (24, .integer 55295), (0, .integer 57344), (0, .integer 65533), (0, .integer 65536), (0, .integer 1114111), (29, u "isXmlChar")] 7

def k2m0 : Method := { name := "<init>", desc := "()V", sig := { parameters := [], returnType := none }, accessFlags := 2, code := none }
def k2c1 : Code := { maxStack := 2, maxLocals := 1, code := prog_80_method_6_code, exceptionTable := #[], attributes := #[] }
def k2m1 : Method := { name := "isXmlChar", desc := "(I)Z", sig := { parameters := [.int], returnType := some .boolean }, accessFlags := 9, code := some k2c1 }
/-- com/example/stylesheet_engine/stylesheetengine/model/XmlChars -/
def k2 : Class := { plain "com/example/stylesheet_engine/stylesheetengine/model/XmlChars" (some 0) with
  accessFlags := 49
  interfaces := #[]
  cf := some (fileOf pool2 27 #[] #[{ accessFlags := 2, nameIndex := 5, descriptorIndex := 6, attributes := #[] }, { accessFlags := 9, nameIndex := 87, descriptorIndex := 12, attributes := #[] }] 49 2 #[] #[])
  fields := #[]
  methods := #[k2m0, k2m1]
  instanceTypes := #[]
  staticTypes := #[]
  resolved := Array.replicate 95 none
  statics := none }

def pool3 : Array CpInfo := pool [(1, u "java/lang/Cloneable"), (0, .class_ 1), (0, u "java/lang/Object"), (0, .class_ 3)] 3

/-- java/lang/Cloneable -/
def k3 : Class := { plain "java/lang/Cloneable" (some 0) with
  accessFlags := 1537
  interfaces := #[]
  cf := some (fileOf pool3 2 #[] #[] 1537 4 #[] #[])
  fields := #[]
  methods := #[]
  instanceTypes := #[]
  staticTypes := #[]
  resolved := Array.replicate 8 none
  statics := none }

def pool4 : Array CpInfo := pool [(1, u "java/io/Serializable"), (0, .class_ 1), (0, u "java/lang/Object"), (0, .class_ 3)] 3

/-- java/io/Serializable -/
def k4 : Class := { plain "java/io/Serializable" (some 0) with
  accessFlags := 1537
  interfaces := #[]
  cf := some (fileOf pool4 2 #[] #[] 1537 4 #[] #[])
  fields := #[]
  methods := #[]
  instanceTypes := #[]
  staticTypes := #[]
  resolved := Array.replicate 8 none
  statics := none }

/-- the primitive byte -/
def k5 : Class := { plain "byte" none with kind := .primitive 'B', accessFlags := 0x411 }
/-- [B -/
def k6 : Class := { plain "[B" (some 0) with kind := .array 5 .byte, interfaces := #[3, 4], accessFlags := 1041 }

/-- the primitive int -/
def k7 : Class := { plain "int" none with kind := .primitive 'I', accessFlags := 0x411 }
/-- [I -/
def k8 : Class := { plain "[I" (some 0) with kind := .array 7 .int, interfaces := #[3, 4], accessFlags := 1041 }

def heap : Heap := #[]
def classes : Array Class := #[k0, k1, k2, k3, k4, k5, k6, k7, k8]
def interned : List (Array UInt16 × Addr) := []
def slotsUsed : Nat := 0
def theMethod : MethodId := ⟨1, 2⟩
def args0 : Array Value := #[.int 5, .int 3, .int 7]
def aboutOver (below : List Frame) : State where
  vm := { classes := classes, interned := interned.toArray }
  heap := heap
  slotsUsed := slotsUsed
  threads := #[{ frames := .invoking theMethod args0 :: below }]
def below0 : List Frame := [.native { method := ⟨0, 0⟩, args := #[] }]
def about1 : State := aboutOver below0
def p0 : Program := .bare "" "" ""
def e0 : Env := launch0.env 0 0 0
theorem w_frames : about1.frames = Frame.invoking theMethod args0 :: below0 := rfl
set_option maxRecDepth 65536 in
theorem w_args : argsFit about1.vm theMethod args0 = true := by decide +kernel
set_option maxRecDepth 65536 in
theorem w_heap : heapFits about1 = true := by decide +kernel
set_option maxRecDepth 65536 in
theorem w_runnable : about1.curStatus? = some .runnable := by decide +kernel
set_option maxRecDepth 65536 in
theorem w_alone : about1.alone = true := by decide +kernel
set_option maxRecDepth 65536 in
theorem w_named : about1.methodNamed? x = some theMethod := by decide +kernel
set_option maxRecDepth 65536 in
theorem w_hears : about1.hears theMethod below0 = true := by decide +kernel
set_option maxRecDepth 65536 in
theorem w_ripe : about1.ripe theMethod args0 below0 = true := by decide +kernel
theorem w_running : about1.status = .running := rfl
set_option maxRecDepth 65536 in
theorem w_room : about1.hasRoom e0.platform room_1 = true :=
  launch0.hasRoom_least _ room_1 (by decide +kernel) (by decide +kernel) (by decide +kernel) (by decide +kernel) (by decide +kernel) (by decide +kernel)
theorem allAtoms_all (ts : List Jvm.Cond) (a : Array Jvm.Value) (st : Jvm.State) : (allAtoms ts).before a st = ts.all (fun c => c.before a st) := by
  induction ts with
  | nil => rfl
  | cons c t ih =>
    show (Jvm.Cond.and c (allAtoms t)).before a st = _
    rw [Jvm.Cond.before_and, ih, List.all_cons]
def words1 : List Jvm.Cond := Jvm.Cond.code x code maxLocals ret :: tables_1
/-- a 'code' word, met by the world's own term for the bytes: nothing is compared byte by byte -/
theorem code_word {y : MethodName} {bytes : ByteArray} {mx : Nat} {rt : Option FieldType} {a : Array Value} {s : State} {m : MethodId} {meth : Method} {c : Code} (h1 : s.methodNamed? y = some m) (h2 : s.vm.method? m = some meth) (h3 : meth.code = some c) (h4 : c.code = bytes)
    (h5 : (c.maxLocals == mx && c.exceptionTable.isEmpty && decide (c.maxStack ≤ mostOperands) && decide (meth.sig.returnType = rt) && !meth.locks && decide (parseMethodDescriptor y.desc = some meth.sig)) = true) : (Jvm.Cond.code y bytes mx rt).before a s = true := by
  simp only [Bool.and_eq_true, beq_iff_eq, Bool.not_eq_true', decide_eq_true_eq] at h5
  obtain ⟨⟨⟨⟨⟨g1, g2⟩, g3⟩, g4⟩, g5⟩, g6⟩ := h5
  simp [Cond.before, Cond.holds, Cond.value, h1, h2, h3, h4, g1, g2, g3, g4, g5, g6]
def isCode : Jvm.Cond → Bool
  | .code _ _ _ _ => true
  | _ => false
theorem all_split {L : List Jvm.Cond} {P : Jvm.Cond → Bool} (h1 : L.all (fun c => isCode c || P c) = true) (h2 : ∀ c ∈ L.filter isCode, P c = true) : L.all P = true := by
  refine List.all_eq_true.mpr fun c hc => ?_
  have h := List.all_eq_true.mp h1 c hc
  rcases Bool.eq_false_or_eq_true (isCode c) with hi | hi
  · exact h2 c (List.mem_filter.mpr ⟨hc, hi⟩)
  · simpa [hi] using h
set_option maxRecDepth 65536 in
theorem w_c0 : (Jvm.Cond.code x code maxLocals ret).before args0 about1 = true := code_word (m := ⟨1, 2⟩) (meth := k1m2) (c := k1c2) (by decide +kernel) rfl rfl rfl (by decide +kernel)
set_option maxRecDepth 65536 in
theorem w_c1 : (Jvm.Cond.code ({ cls := "com/example/stylesheet_engine/stylesheetengine/model/XmlChars", name := "isXmlChar", desc := "(I)Z" } : Jvm.MethodName) prog_80_method_6_code (1 : Nat) (Option.some Jvm.ClassFile.FieldType.boolean)).before args0 about1 = true := code_word (m := ⟨2, 1⟩) (meth := k2m1) (c := k2c1) (by decide +kernel) rfl rfl rfl (by decide +kernel)
set_option maxRecDepth 65536 in
theorem w_c2 : (Jvm.Cond.code ({ cls := "com/example/stylesheet_engine/stylesheetengine/model/XmlCharsIsXmlCharPinLaw", name := "expected", desc := "(I)Z" } : Jvm.MethodName) method_2_code (1 : Nat) (Option.some Jvm.ClassFile.FieldType.boolean)).before args0 about1 = true := code_word (m := ⟨1, 1⟩) (meth := k1m1) (c := k1c1) (by decide +kernel) rfl rfl rfl (by decide +kernel)
def codes1 : List Jvm.Cond := [Jvm.Cond.code x code maxLocals ret, Jvm.Cond.code ({ cls := "com/example/stylesheet_engine/stylesheetengine/model/XmlChars", name := "isXmlChar", desc := "(I)Z" } : Jvm.MethodName) prog_80_method_6_code (1 : Nat) (Option.some Jvm.ClassFile.FieldType.boolean), Jvm.Cond.code ({ cls := "com/example/stylesheet_engine/stylesheetengine/model/XmlCharsIsXmlCharPinLaw", name := "expected", desc := "(I)Z" } : Jvm.MethodName) method_2_code (1 : Nat) (Option.some Jvm.ClassFile.FieldType.boolean)]
set_option maxRecDepth 65536 in
theorem codes_eq : words1.filter isCode = codes1 := rfl
theorem w_codes : ∀ c ∈ words1.filter isCode, c.before args0 about1 = true := by
  rw [codes_eq]
  intro c hc
  simp only [codes1, List.mem_cons, List.not_mem_nil, or_false] at hc
  rcases hc with rfl | rfl | rfl
  · exact w_c0
  · exact w_c1
  · exact w_c2
set_option maxRecDepth 65536 in
theorem w_t1 : (words1.take 24).all (fun c => isCode c || c.before args0 about1) = true := by decide +kernel
set_option maxRecDepth 65536 in
theorem w_t2 : (words1.drop 24).all (fun c => isCode c || c.before args0 about1) = true := by decide +kernel
theorem w_tables : (allAtoms (Jvm.Cond.code x code maxLocals ret :: tables_1)).before args0 about1 = true := by
  rw [allAtoms_all]
  show words1.all (fun c => c.before args0 about1) = true
  refine all_split ?_ w_codes
  rw [← List.take_append_drop 24 words1, List.all_append, w_t1, w_t2]
  rfl
set_option maxRecDepth 65536 in
theorem w_case : (Jvm.Cond.and given_1 narrow_1).before args0 about1 = true := by decide +kernel
theorem w_applies : (headSpec (Jvm.Cond.code x code maxLocals ret :: tables_1) room_1).applies x e0.platform about1 = true :=
  (Spec.applies_iff w_frames).mpr ⟨w_running, w_runnable, w_alone, w_named, w_hears, w_ripe, w_room, w_tables⟩
theorem atStart : AtStart classFile x code maxLocals ret World_1 tables_1 room_1 Calls_1 rest_1 Pre_1 launch0 p0 e0 about1 theMethod args0 below0 :=
  ⟨lists_1, trivial, launch0.admits_env _ _ _, launch0.least_env, fairChoices_fair.cas, fairChoices_fair.clock, w_frames, w_args, w_heap, w_applies, trivial, trivial, w_case⟩
end start1
theorem witness_1 : WitnessClaimed_1 := ⟨start1.p0, start1.e0, start1.about1, start1.theMethod, start1.args0, start1.below0, start1.atStart⟩
end Jvm.Pilot.@@N@@
