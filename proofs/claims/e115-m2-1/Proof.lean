import JvmDerived
import JvmDerived.Pilot.@@N@@Statement
import JvmDerived.Pilot.@@N@@Code
set_option linter.unusedVariables false
set_option linter.unusedSimpArgs false
namespace Jvm.Pilot.@@N@@
open Jvm Jvm.ClassFile Sem Op Lib Jvm.Free Jvm.Stand Jvm.LawKit Jvm.RoadKit Bundle Jvm.Pilot.@@N@@.Jvm.D
section OwnKit
variable {p : Program} {l : Launch} {e : Env} {R : Room} {s : State} {m : MethodId} {args : Array Value} {below : List Frame} {meth : Method} {c : Code} {T : State} {locs : List Loc} {cells slots : Nat} {Z : State} {a0 : Array Value} {h : Heap} {ce sl : Nat} {Q : Option Value → Heap → List Loc → Prop} {S : State}
/-- a contract's last word, under a name of its own -/
def OQ (Q : Option Value → Heap → List Loc → Prop) (v : Option Value) (h : Heap) (L : List Loc) : Prop := Q v h L
theorem own_q {z r : Int32} (hr : z = r) (eT : T.heap = h) (hQ : Q (some (.int r)) h locs) : Q (some (.int z)) T.heap locs := by subst hr; rw [eT]; exact hQ
theorem own_qJ {z r : Int64} (hr : z = r) (eT : T.heap = h) (hQ : Q (some (.long r)) h locs) : Q (some (.long z)) T.heap locs := by subst hr; rw [eT]; exact hQ
/-- from S the body runs to its return, and leaves what Q says -/
def OFin (p : Program) (e : Env) (below : List Frame) (s : State) (ce sl : Nat) (Q : Option Value → Heap → List Loc → Prop) (S : State) : Prop :=
  ∃ (t : State) (o : Outcome), Steps p.tables e below S t ∧ t.status = .running ∧ Ended t below o ∧ ∃ v L, o = .returned v ∧ Q v t.heap L ∧ FrameEnd s o t L ce sl
theorem OFin.start {S' : State} (st : ∀ target, Steps p.tables e below S' target → Steps p.tables e below S target) (k : OFin p e below s ce sl Q S') :
    ∃ (t : State) (o : Outcome), Steps p.tables e below S t ∧ t.status = .running ∧ Ended t below o ∧ ∃ v L, o = .returned v ∧ Q v t.heap L ∧ FrameEnd s o t L ce sl := by
  obtain ⟨t, o, h, r⟩ := k
  exact ⟨t, o, st _ h, r⟩
theorem OFin.to (S' : State) (st : ∀ target, Steps p.tables e below S' target → Steps p.tables e below S target) (k : OFin p e below s ce sl Q S') : OFin p e below s ce sl Q S := OFin.start st k
theorem OFin.via (S' : State) (st : Steps p.tables e below S S') (k : OFin p e below s ce sl Q S') : OFin p e below s ce sl Q S := OFin.start (fun _ h => st.trans h) k
theorem OFin.mono {Q' : Option Value → Heap → List Loc → Prop} (k : OFin p e below s ce sl Q' S) (h : ∀ v h L, Q' v h L → Q v h L) : OFin p e below s ce sl Q S := by
  obtain ⟨t, o, h1, h2, h3, v, L, h4, h5, h6⟩ := k
  exact ⟨t, o, h1, h2, h3, v, L, h4, h _ _ _ h5, h6⟩
theorem OFin.retZ (X : Stand p l e R s m args below meth c T locs cells slots) (hx : p.tables.exec = Jvm.exec) {t : FieldType} (hret : meth.sig.returnType = some t) (ht : t = .boolean ∨ t = .byte ∨ t = .char ∨ t = .short) (hlk : meth.locks = false) {pc : Nat} {Ls : Array Slot} {z : Int32} {rest : List Value}
    (hd : decode c.code pc = .ok (.ireturn, 1)) (hc : cells ≤ ce) (hs : slots ≤ sl) (hQ : Q (some (.int (nar t z))) T.heap locs) : OFin p e below s ce sl Q (T.setTop (mkF m pc Ls (.int z :: rest))) := by
  obtain ⟨fs, hr, hrun, hended, hW, hsame⟩ := X.leave (v := some (.int (nar t z))) (fun h => by rw [hret] at h; cases h) hlk
  exact ⟨_, _, retN X hx hret ht hd hr, hrun, hended, _, _, rfl, hQ, ⟨_, rfl⟩, hW, hsame.mono hc hs⟩
theorem OFin.retI (X : Stand p l e R s m args below meth c T locs cells slots) (hx : p.tables.exec = Jvm.exec) (hret : meth.sig.returnType = some .int) (hlk : meth.locks = false) {pc : Nat} {Ls : Array Slot} {z : Int32} {rest : List Value}
    (hd : decode c.code pc = .ok (.ireturn, 1)) (hc : cells ≤ ce) (hs : slots ≤ sl) (hQ : Q (some (.int z)) T.heap locs) : OFin p e below s ce sl Q (T.setTop (mkF m pc Ls (.int z :: rest))) := by
  obtain ⟨fs, hr, hrun, hended, hW, hsame⟩ := X.leave (v := some (.int z)) (fun h => by rw [hret] at h; cases h) hlk
  refine ⟨_, _, ?_, hrun, hended, _, _, rfl, hQ, ⟨_, rfl⟩, hW, hsame.mono hc hs⟩
  have hm' : T.vm.method? m = some meth := X.method'
  have hn : narrow .int (.int z) = .int z := rfl
  show Steps p.tables e below (T.setTop { method := m, pc := pc, locals := Ls, stack := _ :: rest, locked := none }) _
  jvm_step X.here [X.here.top, hx, hd, hm', hret, hn]
  first | (intro acts; rw [hr _ acts rfl rfl rfl]) | rw [hr _ _ rfl rfl rfl]
  exact Steps.refl _
theorem OFin.retJ (X : Stand p l e R s m args below meth c T locs cells slots) (hx : p.tables.exec = Jvm.exec) (hret : meth.sig.returnType = some .long) (hlk : meth.locks = false) {pc : Nat} {Ls : Array Slot} {z : Int64} {rest : List Value}
    (hd : decode c.code pc = .ok (.lreturn, 1)) (hc : cells ≤ ce) (hs : slots ≤ sl) (hQ : Q (some (.long z)) T.heap locs) : OFin p e below s ce sl Q (T.setTop (mkF m pc Ls (.long z :: rest))) := by
  obtain ⟨fs, hr, hrun, hended, hW, hsame⟩ := X.leave (v := some (.long z)) (fun h => by rw [hret] at h; cases h) hlk
  refine ⟨_, _, ?_, hrun, hended, _, _, rfl, hQ, ⟨_, rfl⟩, hW, hsame.mono hc hs⟩
  have hm' : T.vm.method? m = some meth := X.method'
  show Steps p.tables e below (T.setTop { method := m, pc := pc, locals := Ls, stack := _ :: rest, locked := none }) _
  jvm_step X.here [X.here.top, hx, hd, hm', hret, narrow]
  first | (intro acts; rw [hr _ acts rfl rfl rfl]) | rw [hr _ _ rfl rfl rfl]
  exact Steps.refl _
theorem OFin.retV (X : Stand p l e R s m args below meth c T locs cells slots) (hx : p.tables.exec = Jvm.exec) (hret : meth.sig.returnType = none) (hlk : meth.locks = false) {pc : Nat} {Ls : Array Slot}
    (hd : decode c.code pc = .ok (.return_, 1)) (hc : cells ≤ ce) (hs : slots ≤ sl) (hQ : Q none T.heap locs) : OFin p e below s ce sl Q (T.setTop (mkF m pc Ls [])) := by
  obtain ⟨fs, hr, hrun, hended, hW, hsame⟩ := X.leave (v := none) (fun _ => rfl) hlk
  exact ⟨_, _, X.returnOut hx hret hd hr, hrun, hended, _, _, rfl, hQ, ⟨_, rfl⟩, hW, hsame.mono hc hs⟩
/-- a static call by the callee's contract -/
theorem own_callS {y : MethodName} {bytes : ByteArray} {maxL : Nat} {ret : Option FieldType} {rm : Room} {as' : List Value} {QQ : Option Value → Heap → List Loc → Prop} {own : String} {index : Nat}
    (X : Stand p l e R s m args below meth c T locs cells slots) (hx : p.tables.exec = Jvm.exec) (hZ : Z.Warmed39 s.vm) (hown : s.vm.findClass own = some m.cls)
    (w1 : (Cond.methodLink own index y).before a0 Z = true) (w2 : (Cond.static y).before a0 Z = true) (w3 : (Cond.initialized y.cls).before a0 Z = true) (w4 : (Cond.code y bytes maxL ret).before a0 Z = true) (hy : y.cls ≠ "java/lang/invoke/MethodHandle" ∧ y.cls ≠ "java/lang/invoke/VarHandle") (eT : T.heap = h)
    (hM : MetFree l y (head1 [Cond.code y bytes maxL ret] rm) (fun a U => a = as'.toArray ∧ Z.Warmed39 U.vm ∧ U.heap = h) (fun _ _ _ _ _ => True) (fun _ U o U' => ∃ v L, o = .returned v ∧ OQ QQ v U'.heap L ∧ FrameEnd U o U' L rm.cells rm.slots))
    (W : Nat) (hf : rm.frames + 1 ≤ R.frames) (hl : W + (maxL + 11) + rm.locals ≤ R.locals) (hc : cells + rm.cells ≤ R.cells) (hs : slots + rm.slots ≤ R.slots)
    {g : JFrame} (hg : g.method = m) (hsize : g.locals.size = c.maxLocals) {rest : List Value} (hlen : ∀ sig, parseMethodDescriptor y.desc = some sig → as'.length = sig.parameters.length) (hstack : g.stack = as'.reverse ++ rest) (hW : 2 * g.monitorRoom + (rest.map fun v => v.category).sum ≤ W) (hd : decode c.code g.pc = .ok (.invokestatic index, 3)) :
    ∃ v T' L, QQ v T'.heap L ∧ Stand p l e R s m args below meth c T' (locs ++ L) (cells + rm.cells) (slots + rm.slots) ∧ ∀ target, Steps p.tables e below (T'.setTop { g with pc := g.pc + 3, stack := v.toList ++ rest }) target → Steps p.tables e below (T.setTop g) target := by
  obtain ⟨v, _, ⟨T', L1, k1, n1⟩, -, X', ⟨L, hQ, l1, y1, z1⟩, st⟩ := Jvm.LawKit.callS X hx (y := y) hown (mvT hZ w1) (mvT hZ w2) (mvT hZ w3) (mvT hZ w4) hy (backOf (W := W) (Q := OQ QQ) hM hZ w4 w3 hf hl) (g := g) hg hsize (argsL := as') (rest := rest) hlen hstack hW hd (fun _ _ => ⟨rfl, eT, hc, hs⟩)
  dsimp only [Pt.U, Pt.locs, Pt.cells, Pt.slots] at X' l1 y1 z1 st hQ
  subst l1 y1 z1
  exact ⟨v, T', L, hQ, X', st⟩
/-- a static call of a body that writes and makes nothing -/
theorem own_callSP {y : MethodName} {bytes : ByteArray} {maxL : Nat} {ret : Option FieldType} {rm : Room} {as' : List Value} {v : Value} {own : String} {index : Nat}
    (X : Stand p l e R s m args below meth c T locs cells slots) (hx : p.tables.exec = Jvm.exec) (hZ : Z.Warmed39 s.vm) (hown : s.vm.findClass own = some m.cls)
    (w1 : (Cond.methodLink own index y).before a0 Z = true) (w2 : (Cond.static y).before a0 Z = true) (w3 : (Cond.initialized y.cls).before a0 Z = true) (w4 : (Cond.code y bytes maxL ret).before a0 Z = true) (hy : y.cls ≠ "java/lang/invoke/MethodHandle" ∧ y.cls ≠ "java/lang/invoke/VarHandle") (eT : T.heap = h)
    (hM : MetFree l y (head1 [Cond.code y bytes maxL ret] rm) (fun a U => a = as'.toArray ∧ Z.Warmed39 U.vm ∧ U.heap = h) (fun _ _ _ _ _ => True) (fun _ U o U' => ∃ v' L, o = .returned v' ∧ OQ (fun v' h' L => v' = some v ∧ h' = h ∧ L = []) v' U'.heap L ∧ FrameEnd U o U' L rm.cells rm.slots))
    (hrc : rm.cells = 0) (hrs : rm.slots = 0) (W : Nat) (hf : rm.frames + 1 ≤ R.frames) (hl : W + (maxL + 11) + rm.locals ≤ R.locals) (hc : cells ≤ R.cells) (hs : slots ≤ R.slots)
    {g : JFrame} (hg : g.method = m) (hsize : g.locals.size = c.maxLocals) {rest : List Value} (hlen : ∀ sig, parseMethodDescriptor y.desc = some sig → as'.length = sig.parameters.length) (hstack : g.stack = as'.reverse ++ rest) (hW : 2 * g.monitorRoom + (rest.map fun v => v.category).sum ≤ W) (hd : decode c.code g.pc = .ok (.invokestatic index, 3)) :
    ∃ T', Stand p l e R s m args below meth c T' locs cells slots ∧ T'.heap = h ∧ ∀ target, Steps p.tables e below (T'.setTop { g with pc := g.pc + 3, stack := v :: rest }) target → Steps p.tables e below (T.setTop g) target := by
  obtain ⟨v', T', L, ⟨rfl, hh, rfl⟩, X', st⟩ := own_callS X hx hZ hown w1 w2 w3 w4 hy eT hM W hf hl (by rw [hrc]; exact hc) (by rw [hrs]; exact hs) hg hsize hlen hstack hW hd
  rw [hrc, hrs, List.append_nil] at X'
  exact ⟨T', X', hh, st⟩
theorem OFin.retA (X : Stand p l e R s m args below meth c T locs cells slots) (hx : p.tables.exec = Jvm.exec) {t : FieldType} (hret : meth.sig.returnType = some t) (ht : t.isReference = true) (hlk : meth.locks = false) {pc : Nat} {Ls : Array Slot} {a : Addr} {rest : List Value}
    (hd : decode c.code pc = .ok (.areturn, 1)) (hc : cells ≤ ce) (hs : slots ≤ sl) (hQ : Q (some (.ref a)) T.heap locs) : OFin p e below s ce sl Q (T.setTop (mkF m pc Ls (.ref a :: rest))) := by
  obtain ⟨fs, hr, hrun, hended, hW, hsame⟩ := X.leave (v := some (.ref a)) (fun h => by rw [hret] at h; cases h) hlk
  refine ⟨_, _, ?_, hrun, hended, _, _, rfl, hQ, ⟨_, rfl⟩, hW, hsame.mono hc hs⟩
  have hm' : T.vm.method? m = some meth := X.method'
  show Steps p.tables e below (T.setTop { method := m, pc := pc, locals := Ls, stack := _ :: rest, locked := none }) _
  jvm_step X.here [X.here.top, hx, hd, hm', hret, ht, Value.isRef]
  first | (intro acts; rw [hr _ acts rfl rfl rfl]) | rw [hr _ _ rfl rfl rfl]
  exact Steps.refl _
theorem own_nar0 : nar .boolean (0 : Int32) = 0 := by decide
theorem own_nar1 : nar .boolean (1 : Int32) = 1 := by decide
end OwnKit
section OwnArr
variable {p : Program} {l : Launch} {e : Env} {R : Room} {s : State} {m : MethodId} {args : Array Value} {below : List Frame} {meth : Method} {c : Code} {T : State} {locs : List Loc} {cells slots : Nat} {Z : State} {a0 : Array Value} {h h' : Heap} {a b : Addr} {ty : FieldType} {vs : List Value} {v : Value} {i : Nat}
/-- the array at a holds just these -/
def OArr (Z : State) (h : Heap) (a : Addr) (ty : FieldType) (vs : List Value) : Prop := ∃ cl : Cell, Arr Z h a cl ty ∧ cl.slots = vs.toArray
theorem OArr.lt (V : OArr Z h a ty vs) : a < h.size := by obtain ⟨cl, A, -⟩ := V; exact A.lt
theorem OArr.ext (V : OArr Z h a ty vs) (E : Ext h h') : OArr Z h' a ty vs := by obtain ⟨cl, A, r⟩ := V; exact ⟨cl, A.ext E, r⟩
theorem OArr.other (V : OArr Z h b ty vs) (W : Wr h h' a i v) (q : b ≠ a) : OArr Z h' b ty vs := by obtain ⟨cl, A, r⟩ := V; exact ⟨cl, A.other W q, r⟩
theorem OArr.keep {ws : List Addr} (V : OArr Z h a ty vs) (K : Keep h h' ws) (q : a ∉ ws) : OArr Z h' a ty vs := by obtain ⟨cl, A, r⟩ := V; exact ⟨cl, ⟨K.2.1 a cl A.1 q, A.2⟩, r⟩
theorem OArr.set (V : OArr Z h a ty vs) (W : Wr h h' a i v) : OArr Z h' a ty (vs.set i v) := by
  obtain ⟨cl, A, r⟩ := V
  exact ⟨_, A.same W, by simp [Cell.setSlot, r]⟩
theorem own_newP (X : Stand p l e R s m args below meth c T locs cells slots) (hx : p.tables.exec = Jvm.exec) (hZ : Z.Warmed39 s.vm) {aty : ArrayType} (w : (Cond.arrayClass (newarray.typeOf aty)).before a0 Z = true) (eT : T.heap = h) {g : JFrame} (hg : g.method = m) (hd : decode c.code g.pc = .ok (.newarray aty, 2)) {n : Int32} {rest : List Value} (hs : g.stack = .int n :: rest)
    (hn : ¬ n < 0) (N : Nat) (hN : n.toNatClampNeg = N) {cap : Nat} (hcap : N ≤ cap) (hb : cap * 8 ≤ 536870912) (hc : cells + 1 ≤ R.cells) (hl : slots + cap ≤ R.slots) :
    ∃ T' h', Stand p l e R s m args below meth c T' locs (cells + 1) (slots + cap) ∧ T'.heap = h' ∧ Ext h h' ∧ OArr Z h' h.size (newarray.typeOf aty) (List.replicate N (defaultValue (newarray.typeOf aty))) ∧
      ∀ target, Steps p.tables e below (T'.setTop { g with pc := g.pc + 2, stack := .ref h.size :: rest }) target → Steps p.tables e below (T.setTop g) target := by
  obtain ⟨T', h', cA, X', e', E, A, st⟩ := newP X hx hZ w eT hg hd hs hn (cap := cap) (by rw [hN]; exact hcap) hb hc hl
  exact ⟨T', h', X', e', E, ⟨_, A, by simp [newA, hN]⟩, st⟩
theorem own_in (V : OArr Z h a ty vs) : ∃ cl : Cell, Arr Z h a cl ty ∧ cl.slots = vs.toArray ∧ ∀ j : Int32, ¬ j < 0 → j.toNatClampNeg < vs.length → ¬ (j < 0 ∨ cl.slots.size ≤ j.toNatClampNeg) := by
  obtain ⟨cl, A, r⟩ := V
  refine ⟨cl, A, r, fun j h1 h2 h3 => h3.elim h1 fun q => ?_⟩
  rw [r] at q
  simp at q
  omega
theorem own_stI (X : Stand p l e R s m args below meth c T locs cells slots) (hx : p.tables.exec = Jvm.exec) (hZ : Z.Warmed39 s.vm) (eT : T.heap = h) (V : OArr Z h a .int vs) {j x : Int32} (i : Nat) (hj0 : ¬ j < 0) (hj : j.toNatClampNeg = i) (hi : i < vs.length) {g : JFrame} (hg : g.method = m) {rest : List Value} (hs : g.stack = .int x :: .int j :: .ref a :: rest) (hd : decode c.code g.pc = .ok (.iastore, 1)) :
    ∃ T' h', Stand p l e R s m args below meth c T' (locs ++ [⟨a, i⟩]) cells slots ∧ T'.heap = h' ∧ Wr h h' a i (.int x) ∧ OArr Z h' a .int (vs.set i (.int x)) ∧ ∀ target, Steps p.tables e below (T'.setTop { g with pc := g.pc + 1, stack := rest }) target → Steps p.tables e below (T.setTop g) target := by
  obtain ⟨cl, A, r, q⟩ := own_in V
  subst hj
  obtain ⟨T', h', X', e', W, st⟩ := stI X hx hZ eT A (j := j) (q j hj0 hi) hg hs hd
  exact ⟨T', h', X', e', W, V.set W, st⟩
theorem own_stJ (X : Stand p l e R s m args below meth c T locs cells slots) (hx : p.tables.exec = Jvm.exec) (hZ : Z.Warmed39 s.vm) (eT : T.heap = h) (V : OArr Z h a .long vs) {j : Int32} {x : Int64} (i : Nat) (hj0 : ¬ j < 0) (hj : j.toNatClampNeg = i) (hi : i < vs.length) {g : JFrame} (hg : g.method = m) {rest : List Value} (hs : g.stack = .long x :: .int j :: .ref a :: rest) (hd : decode c.code g.pc = .ok (.lastore, 1)) :
    ∃ T' h', Stand p l e R s m args below meth c T' (locs ++ [⟨a, i⟩]) cells slots ∧ T'.heap = h' ∧ Wr h h' a i (.long x) ∧ OArr Z h' a .long (vs.set i (.long x)) ∧ ∀ target, Steps p.tables e below (T'.setTop { g with pc := g.pc + 1, stack := rest }) target → Steps p.tables e below (T.setTop g) target := by
  obtain ⟨cl, A, r, q⟩ := own_in V
  subst hj
  obtain ⟨T', h', X', e', W, st⟩ := stJ X hx hZ eT A (j := j) (q j hj0 hi) hg hs hd
  exact ⟨T', h', X', e', W, V.set W, st⟩
theorem own_stB (X : Stand p l e R s m args below meth c T locs cells slots) (hx : p.tables.exec = Jvm.exec) (hZ : Z.Warmed39 s.vm) (eT : T.heap = h) (V : OArr Z h a .byte vs) {j x : Int32} (i : Nat) (hj0 : ¬ j < 0) (hj : j.toNatClampNeg = i) (hi : i < vs.length) {g : JFrame} (hg : g.method = m) {rest : List Value} (hs : g.stack = .int x :: .int j :: .ref a :: rest) (hd : decode c.code g.pc = .ok (.bastore, 1)) :
    ∃ T' h', Stand p l e R s m args below meth c T' (locs ++ [⟨a, i⟩]) cells slots ∧ T'.heap = h' ∧ Wr h h' a i (.int (nar .byte x)) ∧ OArr Z h' a .byte (vs.set i (.int (nar .byte x))) ∧ ∀ target, Steps p.tables e below (T'.setTop { g with pc := g.pc + 1, stack := rest }) target → Steps p.tables e below (T.setTop g) target := by
  obtain ⟨cl, A, r, q⟩ := own_in V
  subst hj
  obtain ⟨T', h', X', e', W, st⟩ := stB X hx hZ eT A (j := j) (q j hj0 hi) hg hs hd
  exact ⟨T', h', X', e', W, V.set W, st⟩
theorem own_ldI (X : Stand p l e R s m args below meth c T locs cells slots) (hx : p.tables.exec = Jvm.exec) (hZ : Z.Warmed39 s.vm) (eT : T.heap = h) (V : OArr Z h a .int vs) {j : Int32} {v : Value} (hj0 : ¬ j < 0) (hv : vs[j.toNatClampNeg]? = some v) {g : JFrame} (hg : g.method = m) {rest : List Value} (hs : g.stack = .int j :: .ref a :: rest) (hd : decode c.code g.pc = .ok (.iaload, 1)) (target : State)
    (hr : Steps p.tables e below (T.setTop { g with pc := g.pc + 1, stack := v :: rest }) target) : Steps p.tables e below (T.setTop g) target := by
  obtain ⟨cl, A, r, q⟩ := own_in V
  exact X.iaload hx (j := j) (v := v) (by rw [eT]; exact A.1) (State.isArrayOf_alike hZ.alike A.2.1) A.2.2 (q j hj0 (List.getElem?_eq_some_iff.mp hv).1) (by rw [r]; simpa using hv) hg hs hd _ hr
theorem own_ldJ (X : Stand p l e R s m args below meth c T locs cells slots) (hx : p.tables.exec = Jvm.exec) (hZ : Z.Warmed39 s.vm) (eT : T.heap = h) (V : OArr Z h a .long vs) {j : Int32} {v : Value} (hj0 : ¬ j < 0) (hv : vs[j.toNatClampNeg]? = some v) {g : JFrame} (hg : g.method = m) {rest : List Value} (hs : g.stack = .int j :: .ref a :: rest) (hd : decode c.code g.pc = .ok (.laload, 1)) (target : State)
    (hr : Steps p.tables e below (T.setTop { g with pc := g.pc + 1, stack := v :: rest }) target) : Steps p.tables e below (T.setTop g) target := by
  obtain ⟨cl, A, r, q⟩ := own_in V
  exact X.laload hx (j := j) (v := v) (by rw [eT]; exact A.1) (State.isArrayOf_alike hZ.alike A.2.1) A.2.2 (q j hj0 (List.getElem?_eq_some_iff.mp hv).1) (by rw [r]; simpa using hv) hg hs hd _ hr
theorem own_ldB (X : Stand p l e R s m args below meth c T locs cells slots) (hx : p.tables.exec = Jvm.exec) (hZ : Z.Warmed39 s.vm) (eT : T.heap = h) (V : OArr Z h a .byte vs) {j : Int32} {v : Value} (hj0 : ¬ j < 0) (hv : vs[j.toNatClampNeg]? = some v) {g : JFrame} (hg : g.method = m) {rest : List Value} (hs : g.stack = .int j :: .ref a :: rest) (hd : decode c.code g.pc = .ok (.baload, 1)) (target : State)
    (hr : Steps p.tables e below (T.setTop { g with pc := g.pc + 1, stack := v :: rest }) target) : Steps p.tables e below (T.setTop g) target := by
  obtain ⟨cl, A, r, q⟩ := own_in V
  exact X.baloadBytes hx (j := j) (v := v) (by rw [eT]; exact A.1) (State.isArrayOf_alike hZ.alike A.2.1) A.2.2 (q j hj0 (List.getElem?_eq_some_iff.mp hv).1) (by rw [r]; simpa using hv) hg hs hd _ hr
theorem own_ldR (X : Stand p l e R s m args below meth c T locs cells slots) (hx : p.tables.exec = Jvm.exec) (hZ : Z.Warmed39 s.vm) (eT : T.heap = h) (V : OArr Z h a ty vs) (hty : ty.isReference = true) {j : Int32} {v : Value} (hj0 : ¬ j < 0) (hv : vs[j.toNatClampNeg]? = some v) {g : JFrame} (hg : g.method = m) {rest : List Value} (hs : g.stack = .int j :: .ref a :: rest) (hd : decode c.code g.pc = .ok (.aaload, 1)) (target : State)
    (hr : Steps p.tables e below (T.setTop { g with pc := g.pc + 1, stack := v :: rest }) target) : Steps p.tables e below (T.setTop g) target := by
  obtain ⟨cl, A, r, q⟩ := own_in V
  exact X.aaload hx (j := j) (v := v) (by rw [eT]; exact A.1) (State.isArrayOf_alike hZ.alike A.2.1) hty A.2.2 (q j hj0 (List.getElem?_eq_some_iff.mp hv).1) (by rw [r]; simpa using hv) hg hs hd _ hr
theorem own_len (X : Stand p l e R s m args below meth c T locs cells slots) (hx : p.tables.exec = Jvm.exec) (hZ : Z.Warmed39 s.vm) (eT : T.heap = h) (V : OArr Z h a ty vs) {n : Int32} (hn : vs.length.toInt32 = n) {g : JFrame} (hg : g.method = m) {rest : List Value} (hs : g.stack = .ref a :: rest) (hd : decode c.code g.pc = .ok (.arraylength, 1)) (target : State)
    (hr : Steps p.tables e below (T.setTop { g with pc := g.pc + 1, stack := .int n :: rest }) target) : Steps p.tables e below (T.setTop g) target := by
  obtain ⟨cl, A, r, q⟩ := own_in V
  refine X.arraylength hx (by rw [eT]; exact A.1) (State.isArrayOf_alike hZ.alike A.2.1) hg hs hd _ ?_
  rw [r]
  rw [← hn] at hr
  simpa using hr
end OwnArr
section OwnCalls
variable {p : Program} {l : Launch} {e : Env} {R : Room} {s : State} {m : MethodId} {args : Array Value} {below : List Frame} {meth : Method} {c : Code} {T : State} {locs : List Loc} {cells slots : Nat} {Z : State} {a0 : Array Value} {h : Heap} {b : Addr} {y y' : MethodName} {bytes : ByteArray} {maxL : Nat} {ret : Option FieldType} {rm : Room} {as' : List Value} {QQ : Option Value → Heap → List Loc → Prop} {own C : String} {index : Nat}
/-- an instance method of the object's own class by its contract -/
theorem own_callV (X : Stand p l e R s m args below meth c T locs cells slots) (hx : p.tables.exec = Jvm.exec) (hZ : Z.Warmed39 s.vm) (hown : s.vm.findClass own = some m.cls)
    (w1 : (Cond.methodLink own index y).before a0 Z = true) (w2 : (Cond.declares y).before a0 Z = true) (w3 : (Cond.selects C y y).before a0 Z = true) (w4 : (Cond.instanceMethod y).before a0 Z = true) (w5 : (Cond.code y bytes maxL ret).before a0 Z = true) (w6 : (Cond.initialized y.cls).before a0 Z = true) (hy : y.cls ≠ "java/lang/invoke/MethodHandle" ∧ y.cls ≠ "java/lang/invoke/VarHandle") (eT : T.heap = h) (E : Exa Z h b C)
    (hM : MetFree l y (head1 [Cond.code y bytes maxL ret] rm) (fun a U => a = (.ref b :: as').toArray ∧ Z.Warmed39 U.vm ∧ U.heap = h) (fun _ _ _ _ _ => True) (fun _ U o U' => ∃ v L, o = .returned v ∧ OQ QQ v U'.heap L ∧ FrameEnd U o U' L rm.cells rm.slots))
    (W : Nat) (hf : rm.frames + 1 ≤ R.frames) (hl : W + (maxL + 11) + rm.locals ≤ R.locals) (hc : cells + rm.cells ≤ R.cells) (hs : slots + rm.slots ≤ R.slots)
    {g : JFrame} (hg : g.method = m) (hsize : g.locals.size = c.maxLocals) {rest : List Value} (hlen : ∀ sig, parseMethodDescriptor y.desc = some sig → as'.length = sig.parameters.length) (hstack : g.stack = as'.reverse ++ .ref b :: rest) (hW : 2 * g.monitorRoom + (rest.map fun v => v.category).sum ≤ W) (hd : decode c.code g.pc = .ok (.invokevirtual index, 3)) :
    ∃ v T' L, QQ v T'.heap L ∧ Stand p l e R s m args below meth c T' (locs ++ L) (cells + rm.cells) (slots + rm.slots) ∧ ∀ target, Steps p.tables e below (T'.setTop { g with pc := g.pc + 3, stack := v.toList ++ rest }) target → Steps p.tables e below (T.setTop g) target := by
  obtain ⟨cq, kq, qa, qb, qc⟩ := isOf hZ eT E
  obtain ⟨v, _, ⟨T', L1, k1, n1⟩, -, X', ⟨L, hQ, l1, y1, z1⟩, st⟩ := X.virtualBack hx (y := y) (z := y) hown (mvT hZ w1) (mvT hZ w2) (notFace_of_selects (args := #[]) (mvT hZ w3)) (mvT hZ w3) (mvT hZ w4) hy (backOf (W := W) (Q := OQ QQ) hM hZ w5 w6 hf hl) qa qc (g := g) hg hsize (Steps.refl _) (argsL := as') (rest := rest) hlen hstack hW hd (fun _ _ => ⟨rfl, eT, hc, hs⟩)
  dsimp only [Pt.U, Pt.locs, Pt.cells, Pt.slots] at X' l1 y1 z1 st hQ
  subst l1 y1 z1
  exact ⟨v, T', L, hQ, X', fun _ k => st.trans k⟩
/-- a constructor by its contract -/
theorem own_callN (X : Stand p l e R s m args below meth c T locs cells slots) (hx : p.tables.exec = Jvm.exec) (hZ : Z.Warmed39 s.vm) (hown : s.vm.findClass own = some m.cls) (hy1 : y.name = "<init>")
    (w1 : (Cond.methodLink own index y).before a0 Z = true) (w4 : (Cond.instanceMethod y).before a0 Z = true) (w5 : (Cond.code y bytes maxL none).before a0 Z = true) (w6 : (Cond.initialized y.cls).before a0 Z = true) (hy : y.cls ≠ "java/lang/invoke/MethodHandle" ∧ y.cls ≠ "java/lang/invoke/VarHandle") (eT : T.heap = h)
    (hM : MetFree l y (head1 [Cond.code y bytes maxL none] rm) (fun a U => a = (.ref b :: as').toArray ∧ Z.Warmed39 U.vm ∧ U.heap = h) (fun _ _ _ _ _ => True) (fun _ U o U' => ∃ v L, o = .returned v ∧ OQ QQ v U'.heap L ∧ FrameEnd U o U' L rm.cells rm.slots))
    (W : Nat) (hf : rm.frames + 1 ≤ R.frames) (hl : W + (maxL + 11) + rm.locals ≤ R.locals) (hc : cells + rm.cells ≤ R.cells) (hs : slots + rm.slots ≤ R.slots)
    {g : JFrame} (hg : g.method = m) (hsize : g.locals.size = c.maxLocals) {rest : List Value} (hlen : ∀ sig, parseMethodDescriptor y.desc = some sig → as'.length = sig.parameters.length) (hstack : g.stack = as'.reverse ++ .ref b :: rest) (hW : 2 * g.monitorRoom + (rest.map fun v => v.category).sum ≤ W) (hd : decode c.code g.pc = .ok (.invokespecial index, 3)) :
    ∃ v T' L, QQ v T'.heap L ∧ Stand p l e R s m args below meth c T' (locs ++ L) (cells + rm.cells) (slots + rm.slots) ∧ ∀ target, Steps p.tables e below (T'.setTop { g with pc := g.pc + 3, stack := v.toList ++ rest }) target → Steps p.tables e below (T.setTop g) target := by
  obtain ⟨v, _, ⟨T', L1, k1, n1⟩, -, X', ⟨L, hQ, l1, y1, z1⟩, st⟩ := X.specialBack hx (y := y) hy1 hown (mvT hZ w1) (mvT hZ w4) (mvT hZ w5) hy (backOf (W := W) (Q := OQ QQ) hM hZ w5 w6 hf hl) (g := g) hg hsize (Steps.refl _) (a := b) (argsL := as') (rest := rest) hlen hstack hW hd (fun _ _ => ⟨rfl, eT, hc, hs⟩)
  dsimp only [Pt.U, Pt.locs, Pt.cells, Pt.slots] at X' l1 y1 z1 st hQ
  subst l1 y1 z1
  exact ⟨v, T', L, hQ, X', fun _ k => st.trans k⟩
/-- a private method is what its own class selects (by another method's word the class is no interface) -/
theorem own_selP (hZ : Z.Warmed39 s.vm) (w3 : (Cond.selects C y' y').before a0 Z = true) (hc : y'.cls = y.cls) (wp : (Cond.privateMethod y).before a0 Z = true) (wi : (Cond.instanceMethod y).before a0 Z = true) (hy : y.cls ≠ "java/lang/invoke/MethodHandle" ∧ y.cls ≠ "java/lang/invoke/VarHandle") : (Cond.selects y.cls y y).before args s = true := by
  have ws : (Cond.selects C y' y').before args s = true := mvT hZ w3
  obtain ⟨c2, r2, m2, -, -, q3, -, kP, hkP, hkPi⟩ := Cond.selects_spec ws
  exact selects_self_of_private (c := m2.cls) (k := kP) (by rw [← hc]; exact findClass_of_methodNamed q3) hkP hkPi (Cond.privateMethod_at (mvP hZ wp (args := #[]))) (mvT hZ wi) hy
/-- a private method by its contract -/
theorem own_callP (X : Stand p l e R s m args below meth c T locs cells slots) (hx : p.tables.exec = Jvm.exec) (hZ : Z.Warmed39 s.vm) (hown : s.vm.findClass own = some m.cls)
    (w1 : (Cond.methodLink own index y).before a0 Z = true) (hsel : (Cond.selects y.cls y y).before args s = true) (wp : (Cond.privateMethod y).before a0 Z = true) (w4 : (Cond.instanceMethod y).before a0 Z = true) (w5 : (Cond.code y bytes maxL ret).before a0 Z = true) (w6 : (Cond.initialized y.cls).before a0 Z = true) (hy : y.cls ≠ "java/lang/invoke/MethodHandle" ∧ y.cls ≠ "java/lang/invoke/VarHandle") (eT : T.heap = h) (E : Exa Z h b C)
    (hM : MetFree l y (head1 [Cond.code y bytes maxL ret] rm) (fun a U => a = (.ref b :: as').toArray ∧ Z.Warmed39 U.vm ∧ U.heap = h) (fun _ _ _ _ _ => True) (fun _ U o U' => ∃ v L, o = .returned v ∧ OQ QQ v U'.heap L ∧ FrameEnd U o U' L rm.cells rm.slots))
    (W : Nat) (hf : rm.frames + 1 ≤ R.frames) (hl : W + (maxL + 11) + rm.locals ≤ R.locals) (hc : cells + rm.cells ≤ R.cells) (hs : slots + rm.slots ≤ R.slots)
    {g : JFrame} (hg : g.method = m) (hsize : g.locals.size = c.maxLocals) {rest : List Value} (hlen : ∀ sig, parseMethodDescriptor y.desc = some sig → as'.length = sig.parameters.length) (hstack : g.stack = as'.reverse ++ .ref b :: rest) (hW : 2 * g.monitorRoom + (rest.map fun v => v.category).sum ≤ W) (hd : decode c.code g.pc = .ok (.invokevirtual index, 3)) :
    ∃ v T' L, QQ v T'.heap L ∧ Stand p l e R s m args below meth c T' (locs ++ L) (cells + rm.cells) (slots + rm.slots) ∧ ∀ target, Steps p.tables e below (T'.setTop { g with pc := g.pc + 3, stack := v.toList ++ rest }) target → Steps p.tables e below (T.setTop g) target := by
  obtain ⟨cq, q1, q2⟩ := E.cell
  obtain ⟨v, _, ⟨T', L1, k1, n1⟩, -, X', ⟨L, hQ, l1, y1, z1⟩, st⟩ := X.privateBack hx (y := y) hown (mvT hZ w1) (mvT hZ w4) hsel (Cond.privateMethod_at (mvP hZ wp (args := #[]))) (mvT hZ w5) hy (backOf (W := W) (Q := OQ QQ) hM hZ w5 w6 hf hl) (g := g) hg hsize (Steps.refl _) (a := b) (by rw [eT]; exact q1) q2 (argsL := as') (rest := rest) hlen hstack hW hd (fun _ _ => ⟨rfl, eT, hc, hs⟩)
  dsimp only [Pt.U, Pt.locs, Pt.cells, Pt.slots] at X' l1 y1 z1 st hQ
  subst l1 y1 z1
  exact ⟨v, T', L, hQ, X', fun _ k => st.trans k⟩
end OwnCalls
section OwnFn
variable {Z : State} {h h' : Heap} {a b : Addr} {ty : FieldType} {n i j : Nat} {v : Value} {f : Nat → Value}
theorem own_rset (n i : Nat) (f : Nat → Value) (v : Value) : ((List.range n).map f).set i v = (List.range n).map (fun j => if j = i then v else f j) := by
  apply List.ext_getElem
  · simp
  · intro j h1 h2
    simp only [List.getElem_set, List.getElem_map, List.getElem_range]
    by_cases q : i = j
    · subst q; simp
    · rw [if_neg q, if_neg (fun r => q r.symm)]
theorem own_rat (f : Nat → Value) (h : j < n) : ((List.range n).map f)[j]? = some (f j) := by simp [h]
theorem own_rep (n : Nat) (v : Value) : List.replicate n v = (List.range n).map (fun _ => v) := by
  apply List.ext_getElem
  · simp
  · intro j h1 h2; simp
/-- the array at a has n places; place j holds f j -/
def OFn (Z : State) (h : Heap) (a : Addr) (ty : FieldType) (n : Nat) (f : Nat → Value) : Prop := OArr Z h a ty ((List.range n).map f)
theorem OFn.set (V : OFn Z h a ty n f) (W : Wr h h' a i v) : OFn Z h' a ty n (fun j => if j = i then v else f j) := by
  have q := OArr.set V W
  rw [own_rset] at q
  exact q
theorem OFn.lt (V : OFn Z h a ty n f) : a < h.size := OArr.lt V
theorem OFn.ext (V : OFn Z h a ty n f) (E : Ext h h') : OFn Z h' a ty n f := OArr.ext V E
theorem OFn.other (V : OFn Z h b ty n f) (W : Wr h h' a i v) (q : b ≠ a) : OFn Z h' b ty n f := OArr.other V W q
theorem OFn.keep {ws : List Addr} (V : OFn Z h a ty n f) (K : Keep h h' ws) (q : a ∉ ws) : OFn Z h' a ty n f := OArr.keep V K q
theorem own_rlen (f : Nat → Value) : ((List.range n).map f).length = n := by simp
theorem own_ix (k : Nat) (hk : k < 1000000) : ¬ Int32.ofNat k < 0 ∧ (Int32.ofNat k).toNatClampNeg = k := by
  have h1 : (Int32.ofNat k).toInt = k := Int32.toInt_ofNat_small (by omega)
  have h2 : (Int32.ofNat k).toNatClampNeg = (Int32.ofNat k).toInt.toNat := rfl
  have h0 : (0 : Int32).toInt = 0 := rfl
  rw [Int32.lt_iff_toInt_lt, h2]
  omega
theorem own_ofAdd (a b : Nat) : Int32.ofNat a + Int32.ofNat b = Int32.ofNat (a + b) := (Int32.ofNat_add a b).symm
theorem own_ofLt (a b : Nat) (ha : a < 2 ^ 31) (hb : b < 2 ^ 31) : Int32.ofNat a < Int32.ofNat b ↔ a < b := by
  rw [Int32.lt_iff_toInt_lt, Int32.toInt_ofNat_small ha, Int32.toInt_ofNat_small hb]
  omega
theorem own_ofEq (a b : Nat) (ha : a < 2 ^ 31) (hb : b < 2 ^ 31) : Int32.ofNat a = Int32.ofNat b ↔ a = b := by
  constructor
  · intro h
    have h1 := congrArg Int32.toInt h
    rw [Int32.toInt_ofNat_small ha, Int32.toInt_ofNat_small hb] at h1
    omega
  · rintro rfl; rfl
theorem own_low (x m : Int32) (k : Nat) (hk : k ≤ 31) (hm : m.toBitVec.toNat = 2 ^ k - 1) : ∃ j : Nat, j < 2 ^ k ∧ (x &&& m) = Int32.ofNat j := by
  have h := c_mask x m k hk hm
  have hp : (0 : Int) < ((2 ^ k : Nat) : Int) := Int.ofNat_lt.mpr (Nat.two_pow_pos k)
  have h1 := Int.emod_nonneg x.toInt (Int.ne_of_gt hp)
  have h2 := Int.emod_lt_of_pos x.toInt hp
  have h3 : (2 ^ k : Nat) ≤ 2 ^ 31 := Nat.pow_le_pow_right (by decide) hk
  refine ⟨(x &&& m).toInt.toNat, by omega, ?_⟩
  apply Int32.toInt_inj.mp
  rw [Int32.toInt_ofNat_small (by omega)]
  omega
end OwnFn
section OwnArv
variable {Z : State} {h h' : Heap} {a o : Addr} {n : Nat} {f : Nat → Int32} {ty : FieldType} {C : String} {a0 : Array Value} {kk : Nat} {fv : Nat → Value}
theorem own_toArv (V : OFn Z h a .int n (fun j => .int (f j))) (hn : n < 1000000) : ∃ k, Arv Z h a k .int (Int32.ofNat n) ((List.range n).map (fun j => Value.int (f j))) (.int 0) := by
  obtain ⟨cl, A, r⟩ := V
  have q := own_ix n hn
  have sz : cl.slots.size = n := by rw [r]; simp
  refine ⟨cl.cls, cl, A, rfl, by rw [q.2, sz], q.1, fun j hj => ?_, fun j hj => ?_⟩
  · rw [sz] at hj
    rw [r]
    simp [List.getD_eq_getElem?_getD, hj]
  · rw [sz] at hj
    simp [List.getD_eq_getElem?_getD, hj, fits]
theorem own_ofArv {k : ClassId} {vs : List Value} {d : Value} (A : Arv Z h a k ty (Int32.ofNat n) vs d) (hn : n < 1000000) (hf : ∀ j, j < n → vs.getD j d = fv j) : OFn Z h a ty n fv := by
  obtain ⟨cl, A, -, S, -, H, -⟩ := A
  have q := own_ix n hn
  rw [q.2] at S
  refine ⟨cl, A, ?_⟩
  apply Array.ext
  · simp [S]
  · intro j h1 h2
    have h3 : j < n := by rw [← S]; exact h1
    have h4 := H j h1
    rw [hf j h3, Array.getElem?_eq_getElem h1] at h4
    simpa using Option.some.inj h4
theorem own_neVO (E : Exa Z h o C) (wi : (Cond.instantiable C kk).before a0 Z = true) (V : OFn Z h a ty n fv) : a ≠ o := by
  obtain ⟨cl, A, -⟩ := V
  exact (ne_arr E wi A).symm
end OwnArv
theorem pd_0 : parseMethodDescriptor "([J)[I" = some ⟨[(.array .long)], some (.array .int)⟩ := by decide +kernel
theorem pd_1 : parseMethodDescriptor "(IJJJ)J" = some ⟨[.int, .long, .long, .long], some .long⟩ := by decide +kernel
theorem pd_2 : parseMethodDescriptor "([J)V" = some ⟨[(.array .long)], none⟩ := by decide +kernel
theorem pd_3 : parseMethodDescriptor "(J)Z" = some ⟨[.long], some .boolean⟩ := by decide +kernel
theorem pd_4 : parseMethodDescriptor "([JI[JI)Z" = some ⟨[(.array .long), .int, (.array .long), .int], some .boolean⟩ := by decide +kernel
section OwnKmp
variable {P w : Nat → Int64} {B : Nat → Nat} {e q b m n : Nat} {u : Int64}
/-- the first q units of P are the last q of the first e of w -/
def Mt (P w : Nat → Int64) (e q : Nat) : Prop := q ≤ e ∧ ∀ x, x < q → P x = w (e - q + x)
theorem Mt.zero : Mt P w e 0 := ⟨Nat.zero_le _, fun x h => absurd h (Nat.not_lt_zero _)⟩
theorem Mt.more : Mt P w (e + 1) (q + 1) ↔ Mt P w e q ∧ P q = w e := by
  constructor
  · rintro ⟨h1, h2⟩
    refine ⟨⟨by omega, fun x hx => ?_⟩, ?_⟩
    · have h3 := h2 x (by omega)
      rw [show e + 1 - (q + 1) + x = e - q + x by omega] at h3
      exact h3
    · have h3 := h2 q (by omega)
      rw [show e + 1 - (q + 1) + q = e by omega] at h3
      exact h3
  · rintro ⟨⟨h1, h2⟩, h3⟩
    refine ⟨by omega, fun x hx => ?_⟩
    by_cases hq : x = q
    · subst hq
      rw [show e + 1 - (x + 1) + x = e by omega]
      exact h3
    · rw [show e + 1 - (q + 1) + x = e - q + x by omega]
      exact h2 x (by omega)
theorem Mt.border (h : Mt P w e q) (h' : Mt P w e b) (hb : b ≤ q) : Mt P P q b := by
  obtain ⟨h1, h2⟩ := h
  obtain ⟨h3, h4⟩ := h'
  refine ⟨hb, fun x hx => ?_⟩
  rw [h4 x hx, h2 (q - b + x) (by omega), show e - q + (q - b + x) = e - b + x by omega]
theorem Mt.trans (h : Mt P w e q) (h' : Mt P P q b) : Mt P w e b := by
  obtain ⟨h1, h2⟩ := h
  obtain ⟨h3, h4⟩ := h'
  refine ⟨by omega, fun x hx => ?_⟩
  rw [h4 x hx, h2 (q - b + x) (by omega), show e - q + (q - b + x) = e - b + x by omega]
/-- B holds the longest borders of the first n prefixes -/
def Bord (P : Nat → Int64) (B : Nat → Nat) (n : Nat) : Prop := ∀ j, j < n → B j ≤ j ∧ Mt P P (j + 1) (B j) ∧ ∀ b, B j < b → b ≤ j → ¬ Mt P P (j + 1) b
/-- within the loop: the first q match, and no longer one that could be gone on with u -/
def Inv (P w : Nat → Int64) (e m : Nat) (u : Int64) (q : Nat) : Prop := q < m ∧ Mt P w e q ∧ ∀ b, q < b → b < m → Mt P w e b → P b ≠ u
/-- between two reads: the longest -/
def Mx (P w : Nat → Int64) (e m q : Nat) : Prop := q < m ∧ Mt P w e q ∧ ∀ b, q < b → b < m → ¬ Mt P w e b
theorem Mx.inv (h : Mx P w e m q) : Inv P w e m u q := ⟨h.1, h.2.1, fun b h1 h2 h3 => absurd h3 (h.2.2 b h1 h2)⟩
theorem Inv.fall (hI : Inv P w e m u q) (hB : Bord P B m) (h0 : 0 < q) (hne : P q ≠ u) : Inv P w e m u (B (q - 1)) ∧ B (q - 1) < q := by
  obtain ⟨i1, i2, i3⟩ := hI
  obtain ⟨h1, h2, h3⟩ := hB (q - 1) (by omega)
  rw [show q - 1 + 1 = q by omega] at h2 h3
  refine ⟨⟨by omega, i2.trans h2, fun b hb1 hb2 hb => ?_⟩, by omega⟩
  by_cases c1 : b < q
  · exact absurd (i2.border hb (by omega)) (h3 b hb1 (by omega))
  · by_cases c2 : b = q
    · rw [c2]; exact hne
    · exact i3 b (by omega) hb2 hb
theorem Inv.hit (hI : Inv P w e m u q) (hu : w e = u) (hx : P q = u) : q + 1 ≤ m ∧ Mt P w (e + 1) (q + 1) ∧ ∀ b, q + 1 < b → b ≤ m → ¬ Mt P w (e + 1) b := by
  obtain ⟨i1, i2, i3⟩ := hI
  refine ⟨i1, Mt.more.mpr ⟨i2, hx.trans hu.symm⟩, fun b hb1 hb2 hb => ?_⟩
  obtain ⟨c, rfl⟩ : ∃ c, b = c + 1 := ⟨b - 1, by omega⟩
  obtain ⟨h1, h2⟩ := Mt.more.mp hb
  exact i3 c (by omega) (by omega) h1 (h2.trans hu)
theorem Inv.miss (hI : Inv P w e m u 0) (hu : w e = u) (hx : P 0 ≠ u) : 0 ≤ m ∧ Mt P w (e + 1) 0 ∧ ∀ b, 0 < b → b ≤ m → ¬ Mt P w (e + 1) b := by
  obtain ⟨i1, i2, i3⟩ := hI
  refine ⟨Nat.zero_le _, Mt.zero, fun b hb1 hb2 hb => ?_⟩
  obtain ⟨c, rfl⟩ : ∃ c, b = c + 1 := ⟨b - 1, by omega⟩
  obtain ⟨h1, h2⟩ := Mt.more.mp hb
  by_cases c0 : c = 0
  · subst c0; exact hx (h2.trans hu)
  · exact i3 c (by omega) (by omega) h1 (h2.trans hu)
/-- what stands behind the loop: q1 units match now, and no more (up to m) -/
def Fnd (P w : Nat → Int64) (e m q : Nat) : Prop := q ≤ m ∧ Mt P w e q ∧ ∀ b, q < b → b ≤ m → ¬ Mt P w e b
theorem Fnd.mx (h : Fnd P w e m q) (hq : q ≠ m) : Mx P w e m q ∧ ¬ Mt P w e m := ⟨⟨by have := h.1; omega, h.2.1, fun b h1 h2 => h.2.2 b h1 (by omega)⟩, h.2.2 m (by have := h.1; omega) (Nat.le_refl _)⟩
theorem Fnd.whole (h : Fnd P w e m m) (hB : Bord P B m) (hm : 0 < m) : Mx P w e m (B (m - 1)) ∧ Mt P w e m := by
  obtain ⟨h1, h2, h3⟩ := hB (m - 1) (by omega)
  rw [show m - 1 + 1 = m by omega] at h2 h3
  refine ⟨⟨by omega, h.2.1.trans h2, fun b hb1 hb2 hb => ?_⟩, h.2.1⟩
  exact h3 b hb1 (by omega) (h.2.1.border hb (by omega))
theorem Bord.one : Bord P (fun _ => 0) 1 := fun j hj => ⟨Nat.zero_le _, Mt.zero, fun b h1 h2 => by omega⟩
theorem Bord.next (hB : Bord P B n) (h : Fnd P P (n + 1) n q) : Bord P (fun j => if j = n then q else B j) (n + 1) := by
  intro j hj
  by_cases c : j = n
  · subst c
    simp only [if_true]
    exact ⟨h.1, h.2.1, h.2.2⟩
  · simp only [if_neg c]
    exact hB j (by omega)
theorem Mx.start (hm : 0 < m) : Mx P w 0 m 0 := ⟨hm, Mt.zero, fun b h1 h2 h3 => by have := h3.1; omega⟩
theorem Bord.inv (hB : Bord P B n) (hn : 0 < n) : Inv P P n n u (B (n - 1)) := by
  obtain ⟨h1, h2, h3⟩ := hB (n - 1) (by omega)
  rw [show n - 1 + 1 = n by omega] at h2 h3
  exact ⟨by omega, h2, fun b hb1 hb2 hb => absurd hb (h3 b hb1 (by omega))⟩
end OwnKmp
theorem own_fnC {Z : State} {h : Heap} {a : Addr} {ty : FieldType} {n : Nat} {f g : Nat → Value} (V : OFn Z h a ty n f) (e : ∀ j, j < n → f j = g j) : OFn Z h a ty n g := by
  have q : (List.range n).map f = (List.range n).map g := List.map_congr_left fun j hj => e j (List.mem_range.mp hj)
  unfold OFn
  rw [← q]
  exact V
theorem own_ofSubN (q k : Nat) (hk : k ≤ q) (hq : q < 1000) : Int32.ofNat q - Int32.ofNat k = Int32.ofNat (q - k) := by
  have h := own_ofAdd (q - k) k
  rw [show q - k + k = q by omega] at h
  rw [← h]
  apply Int32.toBitVec_inj.mp
  simp
theorem own_ofSub (q : Nat) (h : 0 < q ∧ q < 1000) : Int32.ofNat q - (1 : Int32) = Int32.ofNat (q - 1) := own_ofSubN q 1 h.1 h.2
def own_t6 (a b c d e f : Int64) : Nat → Int64 := fun j => [a, b, c, d, e, f].getD j 0
theorem own_same {r s : Int32} {A : Prop} (h1 : (r = 1 ∧ A) ∨ (r = 0 ∧ ¬ A)) (h2 : (s = 1 ∧ A) ∨ (s = 0 ∧ ¬ A)) : r = s := by
  rcases h1 with ⟨rfl, ha⟩ | ⟨rfl, ha⟩ <;> rcases h2 with ⟨rfl, hb⟩ | ⟨rfl, hb⟩ <;> first | rfl | exact absurd ha hb | exact absurd hb ha
theorem own_and3 (x : Int32) : (x &&& (3 : Int32)) = 0 ∨ (x &&& (3 : Int32)) = 1 ∨ (x &&& (3 : Int32)) = 2 ∨ (x &&& (3 : Int32)) = 3 := by
  obtain ⟨j, hj, e⟩ := own_low x 3 2 (by decide) (by decide)
  rw [e]
  match j, hj with
  | 0, _ => exact Or.inl rfl
  | 1, _ => exact Or.inr (Or.inl rfl)
  | 2, _ => exact Or.inr (Or.inr (Or.inl rfl))
  | 3, _ => exact Or.inr (Or.inr (Or.inr rfl))
theorem d1_0 : decode method_2_code 0 = .ok (.iload_n 0, 1) := by decide +kernel
theorem d1_1 : decode method_2_code 1 = .ok (.iconst 3, 1) := by decide +kernel
theorem d1_2 : decode method_2_code 2 = .ok (.iand, 1) := by decide +kernel
theorem d1_3 : decode method_2_code 3 = .ok (.istore 7, 2) := by decide +kernel
theorem d1_5 : decode method_2_code 5 = .ok (.iload 7, 2) := by decide +kernel
theorem d1_7 : decode method_2_code 7 = .ok (.iconst 1, 1) := by decide +kernel
theorem d1_8 : decode method_2_code 8 = .ok (.if_icmp .ne 5, 3) := by decide +kernel
theorem d1_11 : decode method_2_code 11 = .ok (.lload_n 3, 1) := by decide +kernel
theorem d1_12 : decode method_2_code 12 = .ok (.lreturn, 1) := by decide +kernel
theorem d1_13 : decode method_2_code 13 = .ok (.iload 7, 2) := by decide +kernel
theorem d1_15 : decode method_2_code 15 = .ok (.iconst 2, 1) := by decide +kernel
theorem d1_16 : decode method_2_code 16 = .ok (.if_icmp .ne 6, 3) := by decide +kernel
theorem d1_19 : decode method_2_code 19 = .ok (.lload 5, 2) := by decide +kernel
theorem d1_21 : decode method_2_code 21 = .ok (.lreturn, 1) := by decide +kernel
theorem d1_22 : decode method_2_code 22 = .ok (.lload_n 1, 1) := by decide +kernel
theorem d1_23 : decode method_2_code 23 = .ok (.lreturn, 1) := by decide +kernel
def f1_0 (p0 : Int32) (q1 : Int64) (q2 : Int64) (q3 : Int64) : Int64 := (if (p0 &&& (3 : Int32)) = (1 : Int32) then q2 else (if (p0 &&& (3 : Int32)) = (2 : Int32) then q3 else q1))
set_option maxRecDepth 65536 in
set_option maxHeartbeats 40000000 in
theorem ro1_0 {p : Program} {l : Launch} {e : Env} {s : State} {m : MethodId} {args : Array Value} {below : List Frame} {meth : Method} {c : Code} {T : State} {locs : List Loc} {cells slots : Nat} {Z : State} {a0 : Array Value} {h : Heap} {ce sl : Nat} {Q : Option Value → Heap → List Loc → Prop} (p0 : Int32) (q1 : Int64) (q2 : Int64) (q3 : Int64)
    (X : Stand p l e ({ frames := 0, cells := 0, slots := 0, locals := 0 } : Room) s m args below meth c T locs cells slots) (hx : p.tables.exec = Jvm.exec) (hZ : Z.Warmed39 s.vm) (hw : ∀ d ∈ tables_1, d.before a0 Z = true) (hby : c.code = method_2_code) (hml : c.maxLocals = 8) (hown : s.vm.findClass "com/example/sarana/sarana/functions/collation/MatchedPrefixReadPinLaw" = some m.cls) (hret : meth.sig.returnType = some .long) (hlk : meth.locks = false) (eT : T.heap = h) (hc : cells ≤ ce) (hs : slots ≤ sl) (hcR : cells ≤ (({ frames := 0, cells := 0, slots := 0, locals := 0 } : Room)).cells) (hsR : slots ≤ (({ frames := 0, cells := 0, slots := 0, locals := 0 } : Room)).slots)
    (hQ : Q (some (.long (f1_0 p0 q1 q2 q3))) h locs) : OFin p e below s ce sl Q (T.setTop (mkF m 0 #[.val (.int p0), .val (.long q1), .second, .val (.long q2), .second, .val (.long q3), .second, .unset] [])) := by
  obtain ⟨r, hr0⟩ : ∃ r, f1_0 p0 q1 q2 q3 = r := ⟨_, rfl⟩
  rw [hr0] at hQ
  have B0 : ∀ (T : State) , Stand p l e ({ frames := 0, cells := 0, slots := 0, locals := 0 } : Room) s m args below meth c T locs cells slots → T.heap = h → f1_0 p0 q1 q2 q3 = r → OFin p e below s ce sl Q (T.setTop (mkF m 0 #[.val (.int p0), .val (.long q1), .second, .val (.long q2), .second, .val (.long q3), .second, .unset] [])) := by
    intro T  X eT hr
    refine OFin.to (T.setTop (mkF m 1 #[.val (.int p0), .val (.long q1), .second, .val (.long q2), .second, .val (.long q3), .second, .unset] [(.int p0)])) (fun _ kt => XS.iloadN X.here hx rfl (hb hby d1_0) rfl kt) ?_
    refine OFin.to (T.setTop (mkF m 2 #[.val (.int p0), .val (.long q1), .second, .val (.long q2), .second, .val (.long q3), .second, .unset] [(.int (3 : Int32)), (.int p0)])) (fun _ kt => XS.iconst X.here hx rfl (hb hby d1_1) kt) ?_
    refine OFin.to (T.setTop (mkF m 3 #[.val (.int p0), .val (.long q1), .second, .val (.long q2), .second, .val (.long q3), .second, .unset] [(.int (p0 &&& (3 : Int32)))])) (fun _ kt => XS.iand X.here hx rfl (hb hby d1_2) rfl kt) ?_
    refine OFin.to (T.setTop (mkF m 5 #[.val (.int p0), .val (.long q1), .second, .val (.long q2), .second, .val (.long q3), .second, .val (.int (p0 &&& (3 : Int32)))] [])) (fun _ kt => XS.istore X.here hx rfl (hb hby d1_3) rfl (l' := #[.val (.int p0), .val (.long q1), .second, .val (.long q2), .second, .val (.long q3), .second, .val (.int (p0 &&& (3 : Int32)))]) rfl kt) ?_
    refine OFin.to (T.setTop (mkF m 7 #[.val (.int p0), .val (.long q1), .second, .val (.long q2), .second, .val (.long q3), .second, .val (.int (p0 &&& (3 : Int32)))] [(.int (p0 &&& (3 : Int32)))])) (fun _ kt => XS.iload X.here hx rfl (hb hby d1_5) rfl kt) ?_
    refine OFin.to (T.setTop (mkF m 8 #[.val (.int p0), .val (.long q1), .second, .val (.long q2), .second, .val (.long q3), .second, .val (.int (p0 &&& (3 : Int32)))] [(.int (1 : Int32)), (.int (p0 &&& (3 : Int32)))])) (fun _ kt => XS.iconst X.here hx rfl (hb hby d1_7) kt) ?_
    by_cases hc8 : (p0 &&& (3 : Int32)) = (1 : Int32)
    · have hr := (if_pos hc8).symm.trans hr
      refine OFin.to (T.setTop (mkF m 11 #[.val (.int p0), .val (.long q1), .second, .val (.long q2), .second, .val (.long q3), .second, .val (.int (p0 &&& (3 : Int32)))] [])) (fun _ kt => XS.icmpNo X.here hx rfl (hb hby d1_8) rfl (XT.ii_ne_f hc8) kt) ?_
      refine OFin.to (T.setTop (mkF m 12 #[.val (.int p0), .val (.long q1), .second, .val (.long q2), .second, .val (.long q3), .second, .val (.int (p0 &&& (3 : Int32)))] [(.long q2)])) (fun _ kt => XS.lloadN X.here hx rfl (hb hby d1_11) rfl kt) ?_
      exact OFin.retJ X hx hret hlk (hb hby d1_12) hc hs (own_qJ hr eT hQ)
    · have hr := (if_neg hc8).symm.trans hr
      refine OFin.to (T.setTop (mkF m 13 #[.val (.int p0), .val (.long q1), .second, .val (.long q2), .second, .val (.long q3), .second, .val (.int (p0 &&& (3 : Int32)))] [])) (fun _ kt => XS.icmpYes X.here hx rfl (pc0 := 8) (pc' := 13) rfl (hb hby d1_8) rfl (XT.ii_ne_t hc8) (by decide) (by decide) kt) ?_
      refine OFin.to (T.setTop (mkF m 15 #[.val (.int p0), .val (.long q1), .second, .val (.long q2), .second, .val (.long q3), .second, .val (.int (p0 &&& (3 : Int32)))] [(.int (p0 &&& (3 : Int32)))])) (fun _ kt => XS.iload X.here hx rfl (hb hby d1_13) rfl kt) ?_
      refine OFin.to (T.setTop (mkF m 16 #[.val (.int p0), .val (.long q1), .second, .val (.long q2), .second, .val (.long q3), .second, .val (.int (p0 &&& (3 : Int32)))] [(.int (2 : Int32)), (.int (p0 &&& (3 : Int32)))])) (fun _ kt => XS.iconst X.here hx rfl (hb hby d1_15) kt) ?_
      by_cases hc16 : (p0 &&& (3 : Int32)) = (2 : Int32)
      · have hr := (if_pos hc16).symm.trans hr
        refine OFin.to (T.setTop (mkF m 19 #[.val (.int p0), .val (.long q1), .second, .val (.long q2), .second, .val (.long q3), .second, .val (.int (p0 &&& (3 : Int32)))] [])) (fun _ kt => XS.icmpNo X.here hx rfl (hb hby d1_16) rfl (XT.ii_ne_f hc16) kt) ?_
        refine OFin.to (T.setTop (mkF m 21 #[.val (.int p0), .val (.long q1), .second, .val (.long q2), .second, .val (.long q3), .second, .val (.int (p0 &&& (3 : Int32)))] [(.long q3)])) (fun _ kt => XS.lload X.here hx rfl (hb hby d1_19) rfl kt) ?_
        exact OFin.retJ X hx hret hlk (hb hby d1_21) hc hs (own_qJ hr eT hQ)
      · have hr := (if_neg hc16).symm.trans hr
        refine OFin.to (T.setTop (mkF m 22 #[.val (.int p0), .val (.long q1), .second, .val (.long q2), .second, .val (.long q3), .second, .val (.int (p0 &&& (3 : Int32)))] [])) (fun _ kt => XS.icmpYes X.here hx rfl (pc0 := 16) (pc' := 22) rfl (hb hby d1_16) rfl (XT.ii_ne_t hc16) (by decide) (by decide) kt) ?_
        refine OFin.to (T.setTop (mkF m 23 #[.val (.int p0), .val (.long q1), .second, .val (.long q2), .second, .val (.long q3), .second, .val (.int (p0 &&& (3 : Int32)))] [(.long q1)])) (fun _ kt => XS.lloadN X.here hx rfl (hb hby d1_22) rfl kt) ?_
        exact OFin.retJ X hx hret hlk (hb hby d1_23) hc hs (own_qJ hr eT hQ)
  exact B0 T X eT hr0
theorem pn_1 : plainName "com/example/sarana/sarana/functions/collation/MatchedPrefixReadPinLaw" = true := by first | (simp [plainName, overriddenIn]; done) | decide +kernel
theorem ef_1 (m : MethodId) (p0 : Int32) (q1 : Int64) (q2 : Int64) (q3 : Int64) : entryFrame m #[(.int p0), (.long q1), (.long q2), (.long q3)] 8 = mkF m 0 #[.val (.int p0), .val (.long q1), .second, .val (.long q2), .second, .val (.long q3), .second, .unset] [] := by first | (simp [entryFrame, mkF, argsToLocals, Value.category]; done) | rfl
set_option maxRecDepth 65536 in
set_option maxHeartbeats 40000000 in
theorem rm1 (l : Launch) (Z : State) (a0 : Array Value) (hw : ∀ d ∈ tables_1, d.before a0 Z = true) (ws : List Jvm.Cond) (p0 : Int32) (q1 : Int64) (q2 : Int64) (q3 : Int64) (h0 : Heap) :
    MetFree l (⟨"com/example/sarana/sarana/functions/collation/MatchedPrefixReadPinLaw", "pick", "(IJJJ)J"⟩ : MethodName) (head1 (Jvm.Cond.code (⟨"com/example/sarana/sarana/functions/collation/MatchedPrefixReadPinLaw", "pick", "(IJJJ)J"⟩ : MethodName) method_2_code 8 (some .long) :: ws) ({ frames := 0, cells := 0, slots := 0, locals := 0 } : Room)) (fun a_ U => a_ = #[(.int p0), (.long q1), (.long q2), (.long q3)] ∧ Z.Warmed39 U.vm ∧ U.heap = h0) (fun _ _ _ _ _ => True) (fun _ U o_ U' => ∃ v L, o_ = .returned v ∧ OQ (fun v h L => v = some (.long (f1_0 p0 q1 q2 q3)) ∧ h = h0 ∧ L = []) v U'.heap L ∧ FrameEnd U o_ U' L ({ frames := 0, cells := 0, slots := 0, locals := 0 } : Room).cells ({ frames := 0, cells := 0, slots := 0, locals := 0 } : Room).slots) := by
  refine MetFree.of_bodySF (plainFor_of_name pn_1) hisR ?_
  intro p e s m args below meth c s₁ Bd hml0 hP hK
  obtain ⟨rfl, hZ, hh⟩ := hP
  have hx := Bd.exec
  have hby := Bd.bytes
  have hml : c.maxLocals = 8 := hml0
  have hown : s.vm.findClass "com/example/sarana/sarana/functions/collation/MatchedPrefixReadPinLaw" = some m.cls := findClass_of_methodNamed Bd.named
  have hnm := (name_of_methodNamed Bd.named Bd.method).1
  have hret := Bd.returns
  have hlk : meth.locks = false := Bd.notSynchronized
  have X0 : Stand p l e ({ frames := 0, cells := 0, slots := 0, locals := 0 } : Room) s m #[(.int p0), (.long q1), (.long q2), (.long q3)] below meth c s₁ [] 0 0 := Stand.of_body Bd
  have e0 : s₁.heap = h0 := by rw [← hh, Bd.state]; rfl
  refine OFin.start (Q := fun v h L => v = some (.long (f1_0 p0 q1 q2 q3)) ∧ h = h0 ∧ L = []) (s := s) (fun t kt => castTop (ef_1 m p0 q1 q2 q3) kt) ?_
  exact ro1_0 p0 q1 q2 q3 X0 hx hZ hw hby hml hown hret hlk e0 (Nat.zero_le _) (Nat.zero_le _) (Nat.zero_le _) (Nat.zero_le _)  ⟨rfl, rfl, rfl⟩
theorem d4_0 : decode prog_35_method_4_code 0 = .ok (.aload_n 0, 1) := by decide +kernel
theorem d4_1 : decode prog_35_method_4_code 1 = .ok (.arraylength, 1) := by decide +kernel
theorem d4_2 : decode prog_35_method_4_code 2 = .ok (.newarray .int, 2) := by decide +kernel
theorem d4_4 : decode prog_35_method_4_code 4 = .ok (.astore_n 1, 1) := by decide +kernel
theorem d4_5 : decode prog_35_method_4_code 5 = .ok (.iconst 0, 1) := by decide +kernel
theorem d4_6 : decode prog_35_method_4_code 6 = .ok (.istore_n 2, 1) := by decide +kernel
theorem d4_7 : decode prog_35_method_4_code 7 = .ok (.iconst 1, 1) := by decide +kernel
theorem d4_8 : decode prog_35_method_4_code 8 = .ok (.istore_n 3, 1) := by decide +kernel
theorem d4_9 : decode prog_35_method_4_code 9 = .ok (.iload_n 3, 1) := by decide +kernel
theorem d4_10 : decode prog_35_method_4_code 10 = .ok (.aload_n 0, 1) := by decide +kernel
theorem d4_11 : decode prog_35_method_4_code 11 = .ok (.arraylength, 1) := by decide +kernel
theorem d4_12 : decode prog_35_method_4_code 12 = .ok (.if_icmp .ge 49, 3) := by decide +kernel
theorem d4_15 : decode prog_35_method_4_code 15 = .ok (.iload_n 2, 1) := by decide +kernel
theorem d4_16 : decode prog_35_method_4_code 16 = .ok (.ifCond .le 22, 3) := by decide +kernel
theorem d4_19 : decode prog_35_method_4_code 19 = .ok (.aload_n 0, 1) := by decide +kernel
theorem d4_20 : decode prog_35_method_4_code 20 = .ok (.iload_n 3, 1) := by decide +kernel
theorem d4_21 : decode prog_35_method_4_code 21 = .ok (.laload, 1) := by decide +kernel
theorem d4_22 : decode prog_35_method_4_code 22 = .ok (.aload_n 0, 1) := by decide +kernel
theorem d4_23 : decode prog_35_method_4_code 23 = .ok (.iload_n 2, 1) := by decide +kernel
theorem d4_24 : decode prog_35_method_4_code 24 = .ok (.laload, 1) := by decide +kernel
theorem d4_25 : decode prog_35_method_4_code 25 = .ok (.lcmp, 1) := by decide +kernel
theorem d4_26 : decode prog_35_method_4_code 26 = .ok (.ifCond .eq 12, 3) := by decide +kernel
theorem d4_29 : decode prog_35_method_4_code 29 = .ok (.aload_n 1, 1) := by decide +kernel
theorem d4_30 : decode prog_35_method_4_code 30 = .ok (.iload_n 2, 1) := by decide +kernel
theorem d4_31 : decode prog_35_method_4_code 31 = .ok (.iconst 1, 1) := by decide +kernel
theorem d4_32 : decode prog_35_method_4_code 32 = .ok (.isub, 1) := by decide +kernel
theorem d4_33 : decode prog_35_method_4_code 33 = .ok (.iaload, 1) := by decide +kernel
theorem d4_34 : decode prog_35_method_4_code 34 = .ok (.istore_n 2, 1) := by decide +kernel
theorem d4_35 : decode prog_35_method_4_code 35 = .ok (.goto (-20), 3) := by decide +kernel
theorem d4_38 : decode prog_35_method_4_code 38 = .ok (.aload_n 0, 1) := by decide +kernel
theorem d4_39 : decode prog_35_method_4_code 39 = .ok (.iload_n 3, 1) := by decide +kernel
theorem d4_40 : decode prog_35_method_4_code 40 = .ok (.laload, 1) := by decide +kernel
theorem d4_41 : decode prog_35_method_4_code 41 = .ok (.aload_n 0, 1) := by decide +kernel
theorem d4_42 : decode prog_35_method_4_code 42 = .ok (.iload_n 2, 1) := by decide +kernel
theorem d4_43 : decode prog_35_method_4_code 43 = .ok (.laload, 1) := by decide +kernel
theorem d4_44 : decode prog_35_method_4_code 44 = .ok (.lcmp, 1) := by decide +kernel
theorem d4_45 : decode prog_35_method_4_code 45 = .ok (.ifCond .ne 6, 3) := by decide +kernel
theorem d4_48 : decode prog_35_method_4_code 48 = .ok (.iinc 2 1, 3) := by decide +kernel
theorem d4_51 : decode prog_35_method_4_code 51 = .ok (.aload_n 1, 1) := by decide +kernel
theorem d4_52 : decode prog_35_method_4_code 52 = .ok (.iload_n 3, 1) := by decide +kernel
theorem d4_53 : decode prog_35_method_4_code 53 = .ok (.iload_n 2, 1) := by decide +kernel
theorem d4_54 : decode prog_35_method_4_code 54 = .ok (.iastore, 1) := by decide +kernel
theorem d4_55 : decode prog_35_method_4_code 55 = .ok (.iinc 3 1, 3) := by decide +kernel
theorem d4_58 : decode prog_35_method_4_code 58 = .ok (.goto (-49), 3) := by decide +kernel
theorem d4_61 : decode prog_35_method_4_code 61 = .ok (.aload_n 1, 1) := by decide +kernel
theorem d4_62 : decode prog_35_method_4_code 62 = .ok (.areturn, 1) := by decide +kernel
theorem pn_4 : plainName "com/example/sarana/sarana/functions/collation/MatchedPrefix" = true := by first | (simp [plainName, overriddenIn]; done) | decide +kernel
theorem ef_4 (m : MethodId) (a0 : Addr) : entryFrame m #[(.ref a0)] 4 = mkF m 0 #[.val (.ref a0), .unset, .unset, .unset] [] := by first | (simp [entryFrame, mkF, argsToLocals, Value.category]; done) | rfl
set_option maxRecDepth 65536 in
set_option maxHeartbeats 40000000 in
theorem rm4 (l : Launch) (Z : State) (a0 : Array Value) (hw : ∀ d ∈ tables_1, d.before a0 Z = true) (ws : List Jvm.Cond) (a : Addr) (mm : Nat) (hm1 : 1 ≤ mm) (hm4 : mm ≤ 4) (P : Nat → Int64) (h0 : Heap) (n0 : Nat) (Z0 : n0 ≤ h0.size) (V0 : OFn Z h0 a .long mm (fun j => .long (P j))) :
    MetFree l (⟨"com/example/sarana/sarana/functions/collation/MatchedPrefix", "borders", "([J)[I"⟩ : MethodName) (head1 (Jvm.Cond.code (⟨"com/example/sarana/sarana/functions/collation/MatchedPrefix", "borders", "([J)[I"⟩ : MethodName) prog_35_method_4_code 4 (some (.array .int)) :: ws) ({ frames := 0, cells := 1, slots := 4, locals := 0 } : Room)) (fun a_ U => a_ = #[(.ref a)] ∧ Z.Warmed39 U.vm ∧ U.heap = h0) (fun _ _ _ _ _ => True) (fun _ U o_ U' => ∃ v L, o_ = .returned v ∧ OQ (fun v h L => ∃ b B, v = some (.ref b) ∧ h0.size ≤ b ∧ OFn Z h b .int mm (fun j => .int (Int32.ofNat (B j))) ∧ Bord P B mm ∧ Keep h0 h [] ∧ Fr n0 L) v U'.heap L ∧ FrameEnd U o_ U' L ({ frames := 0, cells := 1, slots := 4, locals := 0 } : Room).cells ({ frames := 0, cells := 1, slots := 4, locals := 0 } : Room).slots) := by
  refine MetFree.of_bodySF (plainFor_of_name pn_4) hisR ?_
  intro p e s m args below meth c s₁ Bd hml0 hP hK
  obtain ⟨rfl, hZ, hh⟩ := hP
  have hx := Bd.exec
  have hby := Bd.bytes
  have hml : c.maxLocals = 4 := hml0
  have hown : s.vm.findClass "com/example/sarana/sarana/functions/collation/MatchedPrefix" = some m.cls := findClass_of_methodNamed Bd.named
  have hnm := (name_of_methodNamed Bd.named Bd.method).1
  have hret := Bd.returns
  have hlk : meth.locks = false := Bd.notSynchronized
  have X0 : Stand p l e ({ frames := 0, cells := 1, slots := 4, locals := 0 } : Room) s m #[(.ref a)] below meth c s₁ [] 0 0 := Stand.of_body Bd
  have e0 : s₁.heap = h0 := by rw [← hh, Bd.state]; rfl
  refine OFin.start (Q := fun v h L => ∃ b B, v = some (.ref b) ∧ h0.size ≤ b ∧ OFn Z h b .int mm (fun j => .int (Int32.ofNat (B j))) ∧ Bord P B mm ∧ Keep h0 h [] ∧ Fr n0 L) (s := s) (fun t kt => castTop (ef_4 m (a)) kt) ?_
  refine OFin.to (s₁.setTop (mkF m 1 #[.val (.ref a), .unset, .unset, .unset] [(.ref a)])) (fun _ kt => XS.aloadN X0.here hx rfl (hb hby d4_0) rfl rfl kt) ?_
  refine OFin.to (s₁.setTop (mkF m 2 #[.val (.ref a), .unset, .unset, .unset] [(.int (Int32.ofNat mm))])) (fun _ kt => own_len X0 hx hZ e0 V0 (n := Int32.ofNat mm) (by rw [own_rlen]) (g := (mkF m 1 #[.val (.ref a), .unset, .unset, .unset] [(.ref a)])) rfl rfl (hb hby d4_1) _ kt) ?_
  obtain ⟨T1, h1, X1, e1, E1, V1, st1⟩ := own_newP X0 hx hZ (hw _ (List.mem_of_getElem? (i := 19) rfl)) e0 (g := (mkF m 2 #[.val (.ref a), .unset, .unset, .unset] [(.int (Int32.ofNat mm))])) rfl (hb hby d4_2) rfl (own_ix mm (by omega)).1 mm (own_ix mm (by omega)).2 (cap := 4) hm4 (by decide) (by decide) (by decide)
  obtain ⟨b, g1⟩ : ∃ z, z = h0.size := ⟨_, rfl⟩
  rw [← g1] at V1 st1
  rw [own_rep] at V1
  refine OFin.to (T1.setTop (mkF m 4 #[.val (.ref a), .unset, .unset, .unset] [(.ref b)])) st1 ?_
  have ne_a_b : a ≠ b := by rw [g1]; exact Nat.ne_of_lt V0.lt
  have g_b : n0 ≤ b := by rw [g1]; exact Z0
  have LPO : ∀ (r i : Nat) (T : State) (h : Heap) (L : List Loc) (B : Nat → Nat) (q : Nat), i + r = mm → 1 ≤ i → Stand p l e ({ frames := 0, cells := 1, slots := 4, locals := 0 } : Room) s m #[(.ref a)] below meth c T L 1 4 → T.heap = h → OFn Z h a .long mm (fun j => .long (P j)) → OFn Z h b .int mm (fun j => .int (Int32.ofNat (B j))) → Bord P B i → Inv P P i i (P i) q → Keep h0 h [] → Fr n0 L → OFin p e below s ({ frames := 0, cells := 1, slots := 4, locals := 0 } : Room).cells ({ frames := 0, cells := 1, slots := 4, locals := 0 } : Room).slots (fun v h L => ∃ b B, v = some (.ref b) ∧ h0.size ≤ b ∧ OFn Z h b .int mm (fun j => .int (Int32.ofNat (B j))) ∧ Bord P B mm ∧ Keep h0 h [] ∧ Fr n0 L) (T.setTop (mkF m 9 #[.val (.ref a), .val (.ref b), .val (.int (Int32.ofNat q)), .val (.int (Int32.ofNat i))] [])) := by
    intro r
    induction r with
    | zero =>
      intro i T h L B q hi h1i X eT Va Vb hB hI K N
      obtain rfl : i = mm := by omega
      refine OFin.to (T.setTop (mkF m 10 #[.val (.ref a), .val (.ref b), .val (.int (Int32.ofNat q)), .val (.int (Int32.ofNat i))] [(.int (Int32.ofNat i))])) (fun _ kt => XS.iloadN X.here hx rfl (hb hby d4_9) rfl kt) ?_
      refine OFin.to (T.setTop (mkF m 11 #[.val (.ref a), .val (.ref b), .val (.int (Int32.ofNat q)), .val (.int (Int32.ofNat i))] [(.ref a), (.int (Int32.ofNat i))])) (fun _ kt => XS.aloadN X.here hx rfl (hb hby d4_10) rfl rfl kt) ?_
      refine OFin.to (T.setTop (mkF m 12 #[.val (.ref a), .val (.ref b), .val (.int (Int32.ofNat q)), .val (.int (Int32.ofNat i))] [(.int (Int32.ofNat i)), (.int (Int32.ofNat i))])) (fun _ kt => own_len X hx hZ eT Va (n := Int32.ofNat i) (by rw [own_rlen]) (g := (mkF m 11 #[.val (.ref a), .val (.ref b), .val (.int (Int32.ofNat q)), .val (.int (Int32.ofNat i))] [(.ref a), (.int (Int32.ofNat i))])) rfl rfl (hb hby d4_11) _ kt) ?_
      refine OFin.to (T.setTop (mkF m 61 #[.val (.ref a), .val (.ref b), .val (.int (Int32.ofNat q)), .val (.int (Int32.ofNat i))] [])) (fun _ kt => XS.icmpYes X.here hx rfl (pc0 := 12) (pc' := 61) rfl (hb hby d4_12) rfl (XT.ii_ge_t Int32.lt_irrefl) (by decide) (by decide) kt) ?_
      refine OFin.to (T.setTop (mkF m 62 #[.val (.ref a), .val (.ref b), .val (.int (Int32.ofNat q)), .val (.int (Int32.ofNat i))] [(.ref b)])) (fun _ kt => XS.aloadN X.here hx rfl (hb hby d4_61) rfl rfl kt) ?_
      exact OFin.retA X hx hret rfl hlk (hb hby d4_62) (by decide) (by decide) ⟨b, B, rfl, Nat.le_of_eq g1.symm, (by rw [eT]; exact Vb), hB, (by rw [eT]; exact K), N⟩
    | succ r ih =>
      intro i T0 h L B q0 hi h1i X0' eT0 Va Vb hB hI0 K N
      have A51 : ∀ (q : Nat) (T : State), Fnd P P (i + 1) i q → Stand p l e ({ frames := 0, cells := 1, slots := 4, locals := 0 } : Room) s m #[(.ref a)] below meth c T L 1 4 → T.heap = h → OFin p e below s ({ frames := 0, cells := 1, slots := 4, locals := 0 } : Room).cells ({ frames := 0, cells := 1, slots := 4, locals := 0 } : Room).slots (fun v h L => ∃ b B, v = some (.ref b) ∧ h0.size ≤ b ∧ OFn Z h b .int mm (fun j => .int (Int32.ofNat (B j))) ∧ Bord P B mm ∧ Keep h0 h [] ∧ Fr n0 L) (T.setTop (mkF m 51 #[.val (.ref a), .val (.ref b), .val (.int (Int32.ofNat q)), .val (.int (Int32.ofNat i))] [])) := by
        intro q T hF X eT
        refine OFin.to (T.setTop (mkF m 52 #[.val (.ref a), .val (.ref b), .val (.int (Int32.ofNat q)), .val (.int (Int32.ofNat i))] [(.ref b)])) (fun _ kt => XS.aloadN X.here hx rfl (hb hby d4_51) rfl rfl kt) ?_
        refine OFin.to (T.setTop (mkF m 53 #[.val (.ref a), .val (.ref b), .val (.int (Int32.ofNat q)), .val (.int (Int32.ofNat i))] [(.int (Int32.ofNat i)), (.ref b)])) (fun _ kt => XS.iloadN X.here hx rfl (hb hby d4_52) rfl kt) ?_
        refine OFin.to (T.setTop (mkF m 54 #[.val (.ref a), .val (.ref b), .val (.int (Int32.ofNat q)), .val (.int (Int32.ofNat i))] [(.int (Int32.ofNat q)), (.int (Int32.ofNat i)), (.ref b)])) (fun _ kt => XS.iloadN X.here hx rfl (hb hby d4_53) rfl kt) ?_
        obtain ⟨T2, h2, X2, e2, W2, -, st2⟩ := own_stI X hx hZ eT Vb i (own_ix i (by omega)).1 (own_ix i (by omega)).2 (by rw [own_rlen]; omega) (g := (mkF m 54 #[.val (.ref a), .val (.ref b), .val (.int (Int32.ofNat q)), .val (.int (Int32.ofNat i))] [(.int (Int32.ofNat q)), (.int (Int32.ofNat i)), (.ref b)])) rfl rfl (hb hby d4_54)
        refine OFin.to (T2.setTop (mkF m 55 #[.val (.ref a), .val (.ref b), .val (.int (Int32.ofNat q)), .val (.int (Int32.ofNat i))] [])) st2 ?_
        refine OFin.to (T2.setTop (mkF m 58 #[.val (.ref a), .val (.ref b), .val (.int (Int32.ofNat q)), .val (.int ((Int32.ofNat i) + (1 : Int32)))] [])) (fun _ kt => XS.iinc X2.here hx rfl (hb hby d4_55) rfl (l' := #[.val (.ref a), .val (.ref b), .val (.int (Int32.ofNat q)), .val (.int ((Int32.ofNat i) + (1 : Int32)))]) rfl kt) ?_
        refine OFin.to (T2.setTop (mkF m 9 #[.val (.ref a), .val (.ref b), .val (.int (Int32.ofNat q)), .val (.int ((Int32.ofNat i) + (1 : Int32)))] [])) (fun _ kt => XS.goto X2.here hx rfl (pc0 := 58) (pc' := 9) rfl (hb hby d4_58) (by decide) (by decide) kt) ?_
        rw [show Int32.ofNat i + (1 : Int32) = Int32.ofNat (i + 1) from own_ofAdd i 1]
        have hB2 := Bord.next hB hF
        have hq2 : q = (fun j => if j = i then q else B j) (i + 1 - 1) := by simp
        refine ih (i + 1) T2 h2 _ (fun j => if j = i then q else B j) q (by omega) (by omega) X2 e2 (Va.other W2 ne_a_b) (own_fnC (OFn.set Vb W2) (fun j hj => by by_cases c : j = i <;> simp [c])) hB2 ?_ (K.wr W2 (Or.inr (Nat.le_of_eq g1.symm))) (Fr.snoc X2 N g_b)
        have hI2 := Bord.inv (u := P (i + 1)) hB2 (by omega)
        rw [show (if i + 1 - 1 = i then q else B (i + 1 - 1)) = q from if_pos (by omega)] at hI2
        exact hI2
      have A38 : ∀ (q : Nat) (T : State), Inv P P i i (P i) q → (q = 0 ∨ P i = P q) → Stand p l e ({ frames := 0, cells := 1, slots := 4, locals := 0 } : Room) s m #[(.ref a)] below meth c T L 1 4 → T.heap = h → OFin p e below s ({ frames := 0, cells := 1, slots := 4, locals := 0 } : Room).cells ({ frames := 0, cells := 1, slots := 4, locals := 0 } : Room).slots (fun v h L => ∃ b B, v = some (.ref b) ∧ h0.size ≤ b ∧ OFn Z h b .int mm (fun j => .int (Int32.ofNat (B j))) ∧ Bord P B mm ∧ Keep h0 h [] ∧ Fr n0 L) (T.setTop (mkF m 38 #[.val (.ref a), .val (.ref b), .val (.int (Int32.ofNat q)), .val (.int (Int32.ofNat i))] [])) := by
        intro q T hI hx' X eT
        have hq := hI.1
        refine OFin.to (T.setTop (mkF m 39 #[.val (.ref a), .val (.ref b), .val (.int (Int32.ofNat q)), .val (.int (Int32.ofNat i))] [(.ref a)])) (fun _ kt => XS.aloadN X.here hx rfl (hb hby d4_38) rfl rfl kt) ?_
        refine OFin.to (T.setTop (mkF m 40 #[.val (.ref a), .val (.ref b), .val (.int (Int32.ofNat q)), .val (.int (Int32.ofNat i))] [(.int (Int32.ofNat i)), (.ref a)])) (fun _ kt => XS.iloadN X.here hx rfl (hb hby d4_39) rfl kt) ?_
        refine OFin.to (T.setTop (mkF m 41 #[.val (.ref a), .val (.ref b), .val (.int (Int32.ofNat q)), .val (.int (Int32.ofNat i))] [(.long (P i))])) (fun _ kt => own_ldJ X hx hZ eT Va (j := (Int32.ofNat i)) (own_ix (i) (by omega)).1 (by rw [(own_ix (i) (by omega)).2, own_rat _ (by omega)]) (g := (mkF m 40 #[.val (.ref a), .val (.ref b), .val (.int (Int32.ofNat q)), .val (.int (Int32.ofNat i))] [(.int (Int32.ofNat i)), (.ref a)])) rfl rfl (hb hby d4_40) _ kt) ?_
        refine OFin.to (T.setTop (mkF m 42 #[.val (.ref a), .val (.ref b), .val (.int (Int32.ofNat q)), .val (.int (Int32.ofNat i))] [(.ref a), (.long (P i))])) (fun _ kt => XS.aloadN X.here hx rfl (hb hby d4_41) rfl rfl kt) ?_
        refine OFin.to (T.setTop (mkF m 43 #[.val (.ref a), .val (.ref b), .val (.int (Int32.ofNat q)), .val (.int (Int32.ofNat i))] [(.int (Int32.ofNat q)), (.ref a), (.long (P i))])) (fun _ kt => XS.iloadN X.here hx rfl (hb hby d4_42) rfl kt) ?_
        refine OFin.to (T.setTop (mkF m 44 #[.val (.ref a), .val (.ref b), .val (.int (Int32.ofNat q)), .val (.int (Int32.ofNat i))] [(.long (P q)), (.long (P i))])) (fun _ kt => own_ldJ X hx hZ eT Va (j := (Int32.ofNat q)) (own_ix (q) (by omega)).1 (by rw [(own_ix (q) (by omega)).2, own_rat _ (by omega)]) (g := (mkF m 43 #[.val (.ref a), .val (.ref b), .val (.int (Int32.ofNat q)), .val (.int (Int32.ofNat i))] [(.int (Int32.ofNat q)), (.ref a), (.long (P i))])) rfl rfl (hb hby d4_43) _ kt) ?_
        refine OFin.to (T.setTop (mkF m 45 #[.val (.ref a), .val (.ref b), .val (.int (Int32.ofNat q)), .val (.int (Int32.ofNat i))] [(.int (XT.cmpL (P i) (P q)))])) (fun _ kt => XT.lcmp X.here hx rfl (hb hby d4_44) rfl kt) ?_
        by_cases hc1 : (P i) = (P q)
        case pos =>
          refine OFin.to (T.setTop (mkF m 48 #[.val (.ref a), .val (.ref b), .val (.int (Int32.ofNat q)), .val (.int (Int32.ofNat i))] [])) (fun _ kt => XS.ifNo X.here hx rfl (hb hby d4_45) rfl (XT.ll_ne_f hc1) kt) ?_
          refine OFin.to (T.setTop (mkF m 51 #[.val (.ref a), .val (.ref b), .val (.int ((Int32.ofNat q) + (1 : Int32))), .val (.int (Int32.ofNat i))] [])) (fun _ kt => XS.iinc X.here hx rfl (hb hby d4_48) rfl (l' := #[.val (.ref a), .val (.ref b), .val (.int ((Int32.ofNat q) + (1 : Int32))), .val (.int (Int32.ofNat i))]) rfl kt) ?_
          rw [show Int32.ofNat q + (1 : Int32) = Int32.ofNat (q + 1) from own_ofAdd q 1]
          exact A51 (q + 1) T (hI.hit rfl hc1.symm) X eT
        refine OFin.to (T.setTop (mkF m 51 #[.val (.ref a), .val (.ref b), .val (.int (Int32.ofNat q)), .val (.int (Int32.ofNat i))] [])) (fun _ kt => XS.ifYes X.here hx rfl (pc0 := 45) (pc' := 51) rfl (hb hby d4_45) rfl (XT.ll_ne_t hc1) (by decide) (by decide) kt) ?_
        obtain rfl : q = 0 := hx'.resolve_right hc1
        exact A51 0 T (hI.miss rfl (fun h => hc1 h.symm)) X eT
      have LPI : ∀ (n q : Nat) (T : State), q ≤ n → Inv P P i i (P i) q → Stand p l e ({ frames := 0, cells := 1, slots := 4, locals := 0 } : Room) s m #[(.ref a)] below meth c T L 1 4 → T.heap = h → OFin p e below s ({ frames := 0, cells := 1, slots := 4, locals := 0 } : Room).cells ({ frames := 0, cells := 1, slots := 4, locals := 0 } : Room).slots (fun v h L => ∃ b B, v = some (.ref b) ∧ h0.size ≤ b ∧ OFn Z h b .int mm (fun j => .int (Int32.ofNat (B j))) ∧ Bord P B mm ∧ Keep h0 h [] ∧ Fr n0 L) (T.setTop (mkF m 15 #[.val (.ref a), .val (.ref b), .val (.int (Int32.ofNat q)), .val (.int (Int32.ofNat i))] [])) := by
        intro n
        induction n with
        | zero =>
          intro q T hqn hI X eT
          obtain rfl : q = 0 := by omega
          refine OFin.to (T.setTop (mkF m 16 #[.val (.ref a), .val (.ref b), .val (.int (Int32.ofNat 0)), .val (.int (Int32.ofNat i))] [(.int (Int32.ofNat 0))])) (fun _ kt => XS.iloadN X.here hx rfl (hb hby d4_15) rfl kt) ?_
          refine OFin.to (T.setTop (mkF m 38 #[.val (.ref a), .val (.ref b), .val (.int (Int32.ofNat 0)), .val (.int (Int32.ofNat i))] [])) (fun _ kt => XS.ifYes X.here hx rfl (pc0 := 16) (pc' := 38) rfl (hb hby d4_16) rfl (XT.i0_le_t Int32.lt_irrefl) (by decide) (by decide) kt) ?_
          exact A38 0 T hI (Or.inl rfl) X eT
        | succ n ihn =>
          intro q T hqn hI X eT
          have hq := hI.1
          refine OFin.to (T.setTop (mkF m 16 #[.val (.ref a), .val (.ref b), .val (.int (Int32.ofNat q)), .val (.int (Int32.ofNat i))] [(.int (Int32.ofNat q))])) (fun _ kt => XS.iloadN X.here hx rfl (hb hby d4_15) rfl kt) ?_
          by_cases hq0 : q = 0
          case pos =>
            subst hq0
            refine OFin.to (T.setTop (mkF m 38 #[.val (.ref a), .val (.ref b), .val (.int (Int32.ofNat 0)), .val (.int (Int32.ofNat i))] [])) (fun _ kt => XS.ifYes X.here hx rfl (pc0 := 16) (pc' := 38) rfl (hb hby d4_16) rfl (XT.i0_le_t Int32.lt_irrefl) (by decide) (by decide) kt) ?_
            exact A38 0 T hI (Or.inl rfl) X eT
          refine OFin.to (T.setTop (mkF m 19 #[.val (.ref a), .val (.ref b), .val (.int (Int32.ofNat q)), .val (.int (Int32.ofNat i))] [])) (fun _ kt => XS.ifNo X.here hx rfl (hb hby d4_16) rfl (XT.i0_le_f ((own_ofLt 0 q (by omega) (by omega)).mpr (by omega))) kt) ?_
          refine OFin.to (T.setTop (mkF m 20 #[.val (.ref a), .val (.ref b), .val (.int (Int32.ofNat q)), .val (.int (Int32.ofNat i))] [(.ref a)])) (fun _ kt => XS.aloadN X.here hx rfl (hb hby d4_19) rfl rfl kt) ?_
          refine OFin.to (T.setTop (mkF m 21 #[.val (.ref a), .val (.ref b), .val (.int (Int32.ofNat q)), .val (.int (Int32.ofNat i))] [(.int (Int32.ofNat i)), (.ref a)])) (fun _ kt => XS.iloadN X.here hx rfl (hb hby d4_20) rfl kt) ?_
          refine OFin.to (T.setTop (mkF m 22 #[.val (.ref a), .val (.ref b), .val (.int (Int32.ofNat q)), .val (.int (Int32.ofNat i))] [(.long (P i))])) (fun _ kt => own_ldJ X hx hZ eT Va (j := (Int32.ofNat i)) (own_ix (i) (by omega)).1 (by rw [(own_ix (i) (by omega)).2, own_rat _ (by omega)]) (g := (mkF m 21 #[.val (.ref a), .val (.ref b), .val (.int (Int32.ofNat q)), .val (.int (Int32.ofNat i))] [(.int (Int32.ofNat i)), (.ref a)])) rfl rfl (hb hby d4_21) _ kt) ?_
          refine OFin.to (T.setTop (mkF m 23 #[.val (.ref a), .val (.ref b), .val (.int (Int32.ofNat q)), .val (.int (Int32.ofNat i))] [(.ref a), (.long (P i))])) (fun _ kt => XS.aloadN X.here hx rfl (hb hby d4_22) rfl rfl kt) ?_
          refine OFin.to (T.setTop (mkF m 24 #[.val (.ref a), .val (.ref b), .val (.int (Int32.ofNat q)), .val (.int (Int32.ofNat i))] [(.int (Int32.ofNat q)), (.ref a), (.long (P i))])) (fun _ kt => XS.iloadN X.here hx rfl (hb hby d4_23) rfl kt) ?_
          refine OFin.to (T.setTop (mkF m 25 #[.val (.ref a), .val (.ref b), .val (.int (Int32.ofNat q)), .val (.int (Int32.ofNat i))] [(.long (P q)), (.long (P i))])) (fun _ kt => own_ldJ X hx hZ eT Va (j := (Int32.ofNat q)) (own_ix (q) (by omega)).1 (by rw [(own_ix (q) (by omega)).2, own_rat _ (by omega)]) (g := (mkF m 24 #[.val (.ref a), .val (.ref b), .val (.int (Int32.ofNat q)), .val (.int (Int32.ofNat i))] [(.int (Int32.ofNat q)), (.ref a), (.long (P i))])) rfl rfl (hb hby d4_24) _ kt) ?_
          refine OFin.to (T.setTop (mkF m 26 #[.val (.ref a), .val (.ref b), .val (.int (Int32.ofNat q)), .val (.int (Int32.ofNat i))] [(.int (XT.cmpL (P i) (P q)))])) (fun _ kt => XT.lcmp X.here hx rfl (hb hby d4_25) rfl kt) ?_
          by_cases hc1 : (P i) = (P q)
          case pos =>
            refine OFin.to (T.setTop (mkF m 38 #[.val (.ref a), .val (.ref b), .val (.int (Int32.ofNat q)), .val (.int (Int32.ofNat i))] [])) (fun _ kt => XS.ifYes X.here hx rfl (pc0 := 26) (pc' := 38) rfl (hb hby d4_26) rfl (XT.ll_eq_t hc1) (by decide) (by decide) kt) ?_
            exact A38 q T hI (Or.inr hc1) X eT
          refine OFin.to (T.setTop (mkF m 29 #[.val (.ref a), .val (.ref b), .val (.int (Int32.ofNat q)), .val (.int (Int32.ofNat i))] [])) (fun _ kt => XS.ifNo X.here hx rfl (hb hby d4_26) rfl (XT.ll_eq_f hc1) kt) ?_
          refine OFin.to (T.setTop (mkF m 30 #[.val (.ref a), .val (.ref b), .val (.int (Int32.ofNat q)), .val (.int (Int32.ofNat i))] [(.ref b)])) (fun _ kt => XS.aloadN X.here hx rfl (hb hby d4_29) rfl rfl kt) ?_
          refine OFin.to (T.setTop (mkF m 31 #[.val (.ref a), .val (.ref b), .val (.int (Int32.ofNat q)), .val (.int (Int32.ofNat i))] [(.int (Int32.ofNat q)), (.ref b)])) (fun _ kt => XS.iloadN X.here hx rfl (hb hby d4_30) rfl kt) ?_
          refine OFin.to (T.setTop (mkF m 32 #[.val (.ref a), .val (.ref b), .val (.int (Int32.ofNat q)), .val (.int (Int32.ofNat i))] [(.int (1 : Int32)), (.int (Int32.ofNat q)), (.ref b)])) (fun _ kt => XS.iconst X.here hx rfl (hb hby d4_31) kt) ?_
          refine OFin.to (T.setTop (mkF m 33 #[.val (.ref a), .val (.ref b), .val (.int (Int32.ofNat q)), .val (.int (Int32.ofNat i))] [(.int ((Int32.ofNat q) - (1 : Int32))), (.ref b)])) (fun _ kt => XS.isub X.here hx rfl (hb hby d4_32) rfl kt) ?_
          rw [own_ofSub q (by omega)]
          refine OFin.to (T.setTop (mkF m 34 #[.val (.ref a), .val (.ref b), .val (.int (Int32.ofNat q)), .val (.int (Int32.ofNat i))] [(.int (Int32.ofNat (B (q - 1))))])) (fun _ kt => own_ldI X hx hZ eT Vb (j := (Int32.ofNat (q - 1))) (own_ix (q - 1) (by omega)).1 (by rw [(own_ix (q - 1) (by omega)).2, own_rat _ (by omega)]) (g := (mkF m 33 #[.val (.ref a), .val (.ref b), .val (.int (Int32.ofNat q)), .val (.int (Int32.ofNat i))] [(.int (Int32.ofNat (q - 1))), (.ref b)])) rfl rfl (hb hby d4_33) _ kt) ?_
          refine OFin.to (T.setTop (mkF m 35 #[.val (.ref a), .val (.ref b), .val (.int (Int32.ofNat (B (q - 1)))), .val (.int (Int32.ofNat i))] [])) (fun _ kt => XS.istoreN X.here hx rfl (hb hby d4_34) rfl (l' := #[.val (.ref a), .val (.ref b), .val (.int (Int32.ofNat (B (q - 1)))), .val (.int (Int32.ofNat i))]) rfl kt) ?_
          refine OFin.to (T.setTop (mkF m 15 #[.val (.ref a), .val (.ref b), .val (.int (Int32.ofNat (B (q - 1)))), .val (.int (Int32.ofNat i))] [])) (fun _ kt => XS.goto X.here hx rfl (pc0 := 35) (pc' := 15) rfl (hb hby d4_35) (by decide) (by decide) kt) ?_
          have hf := hI.fall hB (by omega) (fun h => hc1 h.symm)
          exact ihn (B (q - 1)) T (by omega) hf.1 X eT
      refine OFin.to (T0.setTop (mkF m 10 #[.val (.ref a), .val (.ref b), .val (.int (Int32.ofNat q0)), .val (.int (Int32.ofNat i))] [(.int (Int32.ofNat i))])) (fun _ kt => XS.iloadN X0'.here hx rfl (hb hby d4_9) rfl kt) ?_
      refine OFin.to (T0.setTop (mkF m 11 #[.val (.ref a), .val (.ref b), .val (.int (Int32.ofNat q0)), .val (.int (Int32.ofNat i))] [(.ref a), (.int (Int32.ofNat i))])) (fun _ kt => XS.aloadN X0'.here hx rfl (hb hby d4_10) rfl rfl kt) ?_
      refine OFin.to (T0.setTop (mkF m 12 #[.val (.ref a), .val (.ref b), .val (.int (Int32.ofNat q0)), .val (.int (Int32.ofNat i))] [(.int (Int32.ofNat mm)), (.int (Int32.ofNat i))])) (fun _ kt => own_len X0' hx hZ eT0 Va (n := Int32.ofNat mm) (by rw [own_rlen]) (g := (mkF m 11 #[.val (.ref a), .val (.ref b), .val (.int (Int32.ofNat q0)), .val (.int (Int32.ofNat i))] [(.ref a), (.int (Int32.ofNat i))])) rfl rfl (hb hby d4_11) _ kt) ?_
      refine OFin.to (T0.setTop (mkF m 15 #[.val (.ref a), .val (.ref b), .val (.int (Int32.ofNat q0)), .val (.int (Int32.ofNat i))] [])) (fun _ kt => XS.icmpNo X0'.here hx rfl (hb hby d4_12) rfl (XT.ii_ge_f ((own_ofLt i mm (by omega) (by omega)).mpr (by omega))) kt) ?_
      exact LPI q0 q0 T0 (Nat.le_refl _) hI0 X0' eT0
  refine OFin.to (T1.setTop (mkF m 5 #[.val (.ref a), .val (.ref b), .unset, .unset] [])) (fun _ kt => XS.astoreN X1.here hx rfl (hb hby d4_4) rfl rfl (l' := #[.val (.ref a), .val (.ref b), .unset, .unset]) rfl kt) ?_
  refine OFin.to (T1.setTop (mkF m 6 #[.val (.ref a), .val (.ref b), .unset, .unset] [(.int (0 : Int32))])) (fun _ kt => XS.iconst X1.here hx rfl (hb hby d4_5) kt) ?_
  refine OFin.to (T1.setTop (mkF m 7 #[.val (.ref a), .val (.ref b), .val (.int (0 : Int32)), .unset] [])) (fun _ kt => XS.istoreN X1.here hx rfl (hb hby d4_6) rfl (l' := #[.val (.ref a), .val (.ref b), .val (.int (0 : Int32)), .unset]) rfl kt) ?_
  refine OFin.to (T1.setTop (mkF m 8 #[.val (.ref a), .val (.ref b), .val (.int (0 : Int32)), .unset] [(.int (1 : Int32))])) (fun _ kt => XS.iconst X1.here hx rfl (hb hby d4_7) kt) ?_
  refine OFin.to (T1.setTop (mkF m 9 #[.val (.ref a), .val (.ref b), .val (.int (0 : Int32)), .val (.int (1 : Int32))] [])) (fun _ kt => XS.istoreN X1.here hx rfl (hb hby d4_8) rfl (l' := #[.val (.ref a), .val (.ref b), .val (.int (0 : Int32)), .val (.int (1 : Int32))]) rfl kt) ?_
  exact LPO (mm - 1) 1 T1 h1 [] (fun _ => 0) 0 (by omega) (Nat.le_refl _) X1 e1 (V0.ext E1) V1 Bord.one (Bord.inv (u := P 1) Bord.one (by decide)) ((Keep.refl h0 []).ext E1) (Fr.nil n0)
theorem d2_0 : decode prog_35_method_1_code 0 = .ok (.aload_n 0, 1) := by decide +kernel
theorem d2_1 : decode prog_35_method_1_code 1 = .ok (.invokespecial 1, 3) := by decide +kernel
theorem d2_4 : decode prog_35_method_1_code 4 = .ok (.aload_n 1, 1) := by decide +kernel
theorem d2_5 : decode prog_35_method_1_code 5 = .ok (.arraylength, 1) := by decide +kernel
theorem d2_6 : decode prog_35_method_1_code 6 = .ok (.ifCond .ne 13, 3) := by decide +kernel
theorem d2_19 : decode prog_35_method_1_code 19 = .ok (.aload_n 0, 1) := by decide +kernel
theorem d2_20 : decode prog_35_method_1_code 20 = .ok (.aload_n 1, 1) := by decide +kernel
theorem d2_21 : decode prog_35_method_1_code 21 = .ok (.putfield 14, 3) := by decide +kernel
theorem d2_24 : decode prog_35_method_1_code 24 = .ok (.aload_n 0, 1) := by decide +kernel
theorem d2_25 : decode prog_35_method_1_code 25 = .ok (.aload_n 1, 1) := by decide +kernel
theorem d2_26 : decode prog_35_method_1_code 26 = .ok (.invokestatic 20, 3) := by decide +kernel
theorem d2_29 : decode prog_35_method_1_code 29 = .ok (.putfield 24, 3) := by decide +kernel
theorem d2_32 : decode prog_35_method_1_code 32 = .ok (.return_, 1) := by decide +kernel
theorem pn_2 : plainName "com/example/sarana/sarana/functions/collation/MatchedPrefix" = true := by first | (simp [plainName, overriddenIn]; done) | decide +kernel
theorem ef_2 (m : MethodId) (a0 : Addr) (a1 : Addr) : entryFrame m #[(.ref a0), (.ref a1)] 2 = mkF m 0 #[.val (.ref a0), .val (.ref a1)] [] := by first | (simp [entryFrame, mkF, argsToLocals, Value.category]; done) | rfl
set_option maxRecDepth 65536 in
set_option maxHeartbeats 40000000 in
theorem rm2 (l : Launch) (Z : State) (a0 : Array Value) (hw : ∀ d ∈ tables_1, d.before a0 Z = true) (ws : List Jvm.Cond) (o a : Addr) (mm : Nat) (hm1 : 1 ≤ mm) (hm4 : mm ≤ 4) (P : Nat → Int64) (h0 : Heap) (n0 : Nat) (Z0 : n0 ≤ h0.size) (g_o : n0 ≤ o) (E_o : Exa Z h0 o "com/example/sarana/sarana/functions/collation/MatchedPrefix") (F_part : Fld Z h0 o "com/example/sarana/sarana/functions/collation/MatchedPrefix" "part" "[J" .null) (F_borders : Fld Z h0 o "com/example/sarana/sarana/functions/collation/MatchedPrefix" "borders" "[I" .null) (F_length : Fld Z h0 o "com/example/sarana/sarana/functions/collation/MatchedPrefix" "length" "I" (.int (0 : Int32))) (V0 : OFn Z h0 a .long mm (fun j => .long (P j))) :
    MetFree l (⟨"com/example/sarana/sarana/functions/collation/MatchedPrefix", "<init>", "([J)V"⟩ : MethodName) (head1 (Jvm.Cond.code (⟨"com/example/sarana/sarana/functions/collation/MatchedPrefix", "<init>", "([J)V"⟩ : MethodName) prog_35_method_1_code 2 none :: ws) ({ frames := 1, cells := 1, slots := 4, locals := 24 } : Room)) (fun a_ U => a_ = #[(.ref o), (.ref a)] ∧ Z.Warmed39 U.vm ∧ U.heap = h0) (fun _ _ _ _ _ => True) (fun _ U o_ U' => ∃ v L, o_ = .returned v ∧ OQ (fun v h L => v = none ∧ ∃ b B, h0.size ≤ b ∧ Exa Z h o "com/example/sarana/sarana/functions/collation/MatchedPrefix" ∧ Fld Z h o "com/example/sarana/sarana/functions/collation/MatchedPrefix" "part" "[J" (.ref a) ∧ Fld Z h o "com/example/sarana/sarana/functions/collation/MatchedPrefix" "borders" "[I" (.ref b) ∧ Fld Z h o "com/example/sarana/sarana/functions/collation/MatchedPrefix" "length" "I" (.int (0 : Int32)) ∧ OFn Z h b .int mm (fun j => .int (Int32.ofNat (B j))) ∧ Bord P B mm ∧ Keep h0 h [o] ∧ Fr n0 L) v U'.heap L ∧ FrameEnd U o_ U' L ({ frames := 1, cells := 1, slots := 4, locals := 24 } : Room).cells ({ frames := 1, cells := 1, slots := 4, locals := 24 } : Room).slots) := by
  refine MetFree.of_bodySF (plainFor_of_name pn_2) hisR ?_
  intro p e s m args below meth c s₁ Bd hml0 hP hK
  obtain ⟨rfl, hZ, hh⟩ := hP
  have hx := Bd.exec
  have hby := Bd.bytes
  have hml : c.maxLocals = 2 := hml0
  have hown : s.vm.findClass "com/example/sarana/sarana/functions/collation/MatchedPrefix" = some m.cls := findClass_of_methodNamed Bd.named
  have hnm := (name_of_methodNamed Bd.named Bd.method).1
  have hret := Bd.returns
  have hlk : meth.locks = false := Bd.notSynchronized
  have X0 : Stand p l e ({ frames := 1, cells := 1, slots := 4, locals := 24 } : Room) s m #[(.ref o), (.ref a)] below meth c s₁ [] 0 0 := Stand.of_body Bd
  have e0 : s₁.heap = h0 := by rw [← hh, Bd.state]; rfl
  refine OFin.start (Q := fun v h L => v = none ∧ ∃ b B, h0.size ≤ b ∧ Exa Z h o "com/example/sarana/sarana/functions/collation/MatchedPrefix" ∧ Fld Z h o "com/example/sarana/sarana/functions/collation/MatchedPrefix" "part" "[J" (.ref a) ∧ Fld Z h o "com/example/sarana/sarana/functions/collation/MatchedPrefix" "borders" "[I" (.ref b) ∧ Fld Z h o "com/example/sarana/sarana/functions/collation/MatchedPrefix" "length" "I" (.int (0 : Int32)) ∧ OFn Z h b .int mm (fun j => .int (Int32.ofNat (B j))) ∧ Bord P B mm ∧ Keep h0 h [o] ∧ Fr n0 L) (s := s) (fun t kt => castTop (ef_2 m (o) (a)) kt) ?_
  have ne_a_o : a ≠ o := own_neVO E_o (hw _ (List.mem_of_getElem? (i := 6) rfl)) V0
  refine OFin.to (s₁.setTop (mkF m 1 #[.val (.ref o), .val (.ref a)] [(.ref o)])) (fun _ kt => XS.aloadN X0.here hx rfl (hb hby d2_0) rfl rfl kt) ?_
  obtain ⟨T1, X1, e1, st1⟩ := initO X0 hx hZ hown (hw _ (List.mem_of_getElem? (i := 11) rfl)) (hw _ (List.mem_of_getElem? (i := 12) rfl)) (hw _ (List.mem_of_getElem? (i := 13) rfl)) e0 (g := (mkF m 1 #[.val (.ref o), .val (.ref a)] [(.ref o)])) rfl (by rw [hml]; rfl) rfl (hb hby d2_1) (by decide) (W := 0) (by show 2 * 0 + _ ≤ _; exact Nat.le_of_eq rfl) (by decide)
  refine OFin.to (T1.setTop (mkF m 4 #[.val (.ref o), .val (.ref a)] [])) st1 ?_
  refine OFin.to (T1.setTop (mkF m 5 #[.val (.ref o), .val (.ref a)] [(.ref a)])) (fun _ kt => XS.aloadN X1.here hx rfl (hb hby d2_4) rfl rfl kt) ?_
  refine OFin.to (T1.setTop (mkF m 6 #[.val (.ref o), .val (.ref a)] [(.int (Int32.ofNat mm))])) (fun _ kt => own_len X1 hx hZ e1 V0 (n := Int32.ofNat mm) (by rw [own_rlen]) (g := (mkF m 5 #[.val (.ref o), .val (.ref a)] [(.ref a)])) rfl rfl (hb hby d2_5) _ kt) ?_
  refine OFin.to (T1.setTop (mkF m 19 #[.val (.ref o), .val (.ref a)] [])) (fun _ kt => XS.ifYes X1.here hx rfl (pc0 := 6) (pc' := 19) rfl (hb hby d2_6) rfl (XT.i0_ne_t (fun q => absurd ((own_ofEq mm 0 (by omega) (by omega)).mp q) (by omega))) (by decide) (by decide) kt) ?_
  refine OFin.to (T1.setTop (mkF m 20 #[.val (.ref o), .val (.ref a)] [(.ref o)])) (fun _ kt => XS.aloadN X1.here hx rfl (hb hby d2_19) rfl rfl kt) ?_
  refine OFin.to (T1.setTop (mkF m 21 #[.val (.ref o), .val (.ref a)] [(.ref a), (.ref o)])) (fun _ kt => XS.aloadN X1.here hx rfl (hb hby d2_20) rfl rfl kt) ?_
  obtain ⟨T2, h2, X2, e2, W2, st2⟩ := putF X1 hx hZ hown (host := "") (Or.inl (hw _ (List.mem_of_getElem? (i := 14) rfl))) Via.refl e1 F_part E_o (Or.inr ⟨(hw _ (List.mem_of_getElem? (i := 15) rfl)), rfl, hnm⟩) (hw _ (List.mem_of_getElem? (i := 6) rfl)) (ty := (.array .long)) (by decide) rfl rfl (g := (mkF m 21 #[.val (.ref o), .val (.ref a)] [(.ref a), (.ref o)])) rfl rfl (hb hby d2_21)
  have E_o_2 := E_o.wr W2
  have V0_2 := V0.other W2 ne_a_o
  have F_borders_2 := F_borders.other W2 (Or.inr (slot_ne (Or.inr (hw _ (List.mem_of_getElem? (i := 21) rfl))) (Or.inr (hw _ (List.mem_of_getElem? (i := 15) rfl))) (by decide) (t := (.array .int)) (t' := (.array .long)) (by decide) (by decide)))
  have F_length_2 := F_length.other W2 (Or.inr (slot_ne (Or.inl (hw _ (List.mem_of_getElem? (i := 28) rfl))) (Or.inr (hw _ (List.mem_of_getElem? (i := 15) rfl))) (by decide) (t := .int) (t' := (.array .long)) (by decide) (by decide)))
  have F_part_2 := F_part.same W2
  have K2 := (Keep.refl h0 [o]).wr W2 (Or.inl (by simp))
  have N2 := Fr.snoc X2 (Fr.nil n0) g_o
  have Z2 := Nat.le_trans Z0 (Keep.of_wr W2).1
  refine OFin.to (T2.setTop (mkF m 24 #[.val (.ref o), .val (.ref a)] [])) st2 ?_
  refine OFin.to (T2.setTop (mkF m 25 #[.val (.ref o), .val (.ref a)] [(.ref o)])) (fun _ kt => XS.aloadN X2.here hx rfl (hb hby d2_24) rfl rfl kt) ?_
  refine OFin.to (T2.setTop (mkF m 26 #[.val (.ref o), .val (.ref a)] [(.ref a), (.ref o)])) (fun _ kt => XS.aloadN X2.here hx rfl (hb hby d2_25) rfl rfl kt) ?_
  obtain ⟨v3, T3, L3, hQ3, X3, st3⟩ := own_callS X2 hx hZ hown (hw _ (List.mem_of_getElem? (i := 16) rfl)) (hw _ (List.mem_of_getElem? (i := 17) rfl)) (hw _ (List.mem_of_getElem? (i := 7) rfl)) (hw _ (List.mem_of_getElem? (i := 18) rfl)) (by decide) e2 (rm4 l Z a0 hw [] a mm hm1 hm4 P h2 n0 Z2 V0_2) 1 (by decide) (by decide) (by decide) (by decide) (g := (mkF m 26 #[.val (.ref o), .val (.ref a)] [(.ref a), (.ref o)])) rfl (by rw [hml]; rfl) (rest := [(.ref o)]) (lenOf pd_0 rfl) rfl (by show 2 * 0 + _ ≤ _; exact Nat.le_of_eq rfl) (hb hby d2_26)
  obtain ⟨b, B, rfl, hb', Vb, hB, Kb, Nb⟩ := hQ3
  refine OFin.to (T3.setTop (mkF m 29 #[.val (.ref o), .val (.ref a)] [(.ref b), (.ref o)])) st3 ?_
  have E_o' := E_o_2.keep Kb
  have F_part' := F_part_2.keep Kb nin0
  have F_borders' := F_borders_2.keep Kb nin0
  have F_length' := F_length_2.keep Kb nin0
  have KK := K2.trans Kb (fun x hx => absurd hx nin0)
  have NN := Fr.app N2 Nb
  have ne_b_o : b ≠ o := own_neVO E_o' (hw _ (List.mem_of_getElem? (i := 6) rfl)) Vb
  obtain ⟨T4, h4, X4, e4, W4, st4⟩ := putF X3 hx hZ hown (host := "") (Or.inl (hw _ (List.mem_of_getElem? (i := 20) rfl))) Via.refl rfl F_borders' E_o' (Or.inr ⟨(hw _ (List.mem_of_getElem? (i := 21) rfl)), rfl, hnm⟩) (hw _ (List.mem_of_getElem? (i := 6) rfl)) (ty := (.array .int)) (by decide) rfl rfl (g := (mkF m 29 #[.val (.ref o), .val (.ref a)] [(.ref b), (.ref o)])) rfl rfl (hb hby d2_29)
  have E_o_4 := E_o'.wr W4
  have F_part_4 := F_part'.other W4 (Or.inr (slot_ne (Or.inr (hw _ (List.mem_of_getElem? (i := 15) rfl))) (Or.inr (hw _ (List.mem_of_getElem? (i := 21) rfl))) (by decide) (t := (.array .long)) (t' := (.array .int)) (by decide) (by decide)))
  have F_length_4 := F_length'.other W4 (Or.inr (slot_ne (Or.inl (hw _ (List.mem_of_getElem? (i := 28) rfl))) (Or.inr (hw _ (List.mem_of_getElem? (i := 21) rfl))) (by decide) (t := .int) (t' := (.array .int)) (by decide) (by decide)))
  have Vb_4 := Vb.other W4 ne_b_o
  have F_borders_4 := F_borders'.same W4
  have K4 := KK.wr W4 (Or.inl (by simp))
  have N4 := Fr.snoc X4 NN g_o
  refine OFin.to (T4.setTop (mkF m 32 #[.val (.ref o), .val (.ref a)] [])) st4 ?_
  exact OFin.retV X4 hx hret hlk (hb hby d2_32) (by decide) (by decide) (by rw [e4]; exact ⟨rfl, b, B, Nat.le_trans (Nat.le_trans (Nat.le_refl _) (Keep.of_wr W2).1) hb', E_o_4, F_part_4, F_borders_4, F_length_4, Vb_4, hB, K4, N4⟩)
theorem d5_0 : decode prog_35_method_2_code 0 = .ok (.aload_n 0, 1) := by decide +kernel
theorem d5_1 : decode prog_35_method_2_code 1 = .ok (.getfield 27, 3) := by decide +kernel
theorem d5_4 : decode prog_35_method_2_code 4 = .ok (.ifCond .le 35, 3) := by decide +kernel
theorem d5_7 : decode prog_35_method_2_code 7 = .ok (.aload_n 0, 1) := by decide +kernel
theorem d5_8 : decode prog_35_method_2_code 8 = .ok (.getfield 14, 3) := by decide +kernel
theorem d5_11 : decode prog_35_method_2_code 11 = .ok (.aload_n 0, 1) := by decide +kernel
theorem d5_12 : decode prog_35_method_2_code 12 = .ok (.getfield 27, 3) := by decide +kernel
theorem d5_15 : decode prog_35_method_2_code 15 = .ok (.laload, 1) := by decide +kernel
theorem d5_16 : decode prog_35_method_2_code 16 = .ok (.lload_n 1, 1) := by decide +kernel
theorem d5_17 : decode prog_35_method_2_code 17 = .ok (.lcmp, 1) := by decide +kernel
theorem d5_18 : decode prog_35_method_2_code 18 = .ok (.ifCond .eq 21, 3) := by decide +kernel
theorem d5_21 : decode prog_35_method_2_code 21 = .ok (.aload_n 0, 1) := by decide +kernel
theorem d5_22 : decode prog_35_method_2_code 22 = .ok (.aload_n 0, 1) := by decide +kernel
theorem d5_23 : decode prog_35_method_2_code 23 = .ok (.getfield 24, 3) := by decide +kernel
theorem d5_26 : decode prog_35_method_2_code 26 = .ok (.aload_n 0, 1) := by decide +kernel
theorem d5_27 : decode prog_35_method_2_code 27 = .ok (.getfield 27, 3) := by decide +kernel
theorem d5_30 : decode prog_35_method_2_code 30 = .ok (.iconst 1, 1) := by decide +kernel
theorem d5_31 : decode prog_35_method_2_code 31 = .ok (.isub, 1) := by decide +kernel
theorem d5_32 : decode prog_35_method_2_code 32 = .ok (.iaload, 1) := by decide +kernel
theorem d5_33 : decode prog_35_method_2_code 33 = .ok (.putfield 27, 3) := by decide +kernel
theorem d5_36 : decode prog_35_method_2_code 36 = .ok (.goto (-36), 3) := by decide +kernel
theorem d5_39 : decode prog_35_method_2_code 39 = .ok (.aload_n 0, 1) := by decide +kernel
theorem d5_40 : decode prog_35_method_2_code 40 = .ok (.getfield 14, 3) := by decide +kernel
theorem d5_43 : decode prog_35_method_2_code 43 = .ok (.aload_n 0, 1) := by decide +kernel
theorem d5_44 : decode prog_35_method_2_code 44 = .ok (.getfield 27, 3) := by decide +kernel
theorem d5_47 : decode prog_35_method_2_code 47 = .ok (.laload, 1) := by decide +kernel
theorem d5_48 : decode prog_35_method_2_code 48 = .ok (.lload_n 1, 1) := by decide +kernel
theorem d5_49 : decode prog_35_method_2_code 49 = .ok (.lcmp, 1) := by decide +kernel
theorem d5_50 : decode prog_35_method_2_code 50 = .ok (.ifCond .ne 13, 3) := by decide +kernel
theorem d5_53 : decode prog_35_method_2_code 53 = .ok (.aload_n 0, 1) := by decide +kernel
theorem d5_54 : decode prog_35_method_2_code 54 = .ok (.dup, 1) := by decide +kernel
theorem d5_55 : decode prog_35_method_2_code 55 = .ok (.getfield 27, 3) := by decide +kernel
theorem d5_58 : decode prog_35_method_2_code 58 = .ok (.iconst 1, 1) := by decide +kernel
theorem d5_59 : decode prog_35_method_2_code 59 = .ok (.iadd, 1) := by decide +kernel
theorem d5_60 : decode prog_35_method_2_code 60 = .ok (.putfield 27, 3) := by decide +kernel
theorem d5_63 : decode prog_35_method_2_code 63 = .ok (.aload_n 0, 1) := by decide +kernel
theorem d5_64 : decode prog_35_method_2_code 64 = .ok (.getfield 27, 3) := by decide +kernel
theorem d5_67 : decode prog_35_method_2_code 67 = .ok (.aload_n 0, 1) := by decide +kernel
theorem d5_68 : decode prog_35_method_2_code 68 = .ok (.getfield 14, 3) := by decide +kernel
theorem d5_71 : decode prog_35_method_2_code 71 = .ok (.arraylength, 1) := by decide +kernel
theorem d5_72 : decode prog_35_method_2_code 72 = .ok (.if_icmp .ne 7, 3) := by decide +kernel
theorem d5_75 : decode prog_35_method_2_code 75 = .ok (.iconst 1, 1) := by decide +kernel
theorem d5_76 : decode prog_35_method_2_code 76 = .ok (.goto 4, 3) := by decide +kernel
theorem d5_79 : decode prog_35_method_2_code 79 = .ok (.iconst 0, 1) := by decide +kernel
theorem d5_80 : decode prog_35_method_2_code 80 = .ok (.istore_n 3, 1) := by decide +kernel
theorem d5_81 : decode prog_35_method_2_code 81 = .ok (.iload_n 3, 1) := by decide +kernel
theorem d5_82 : decode prog_35_method_2_code 82 = .ok (.ifCond .eq 18, 3) := by decide +kernel
theorem d5_85 : decode prog_35_method_2_code 85 = .ok (.aload_n 0, 1) := by decide +kernel
theorem d5_86 : decode prog_35_method_2_code 86 = .ok (.aload_n 0, 1) := by decide +kernel
theorem d5_87 : decode prog_35_method_2_code 87 = .ok (.getfield 24, 3) := by decide +kernel
theorem d5_90 : decode prog_35_method_2_code 90 = .ok (.aload_n 0, 1) := by decide +kernel
theorem d5_91 : decode prog_35_method_2_code 91 = .ok (.getfield 27, 3) := by decide +kernel
theorem d5_94 : decode prog_35_method_2_code 94 = .ok (.iconst 1, 1) := by decide +kernel
theorem d5_95 : decode prog_35_method_2_code 95 = .ok (.isub, 1) := by decide +kernel
theorem d5_96 : decode prog_35_method_2_code 96 = .ok (.iaload, 1) := by decide +kernel
theorem d5_97 : decode prog_35_method_2_code 97 = .ok (.putfield 27, 3) := by decide +kernel
theorem d5_100 : decode prog_35_method_2_code 100 = .ok (.iload_n 3, 1) := by decide +kernel
theorem d5_101 : decode prog_35_method_2_code 101 = .ok (.ireturn, 1) := by decide +kernel
theorem pn_5 : plainName "com/example/sarana/sarana/functions/collation/MatchedPrefix" = true := by first | (simp [plainName, overriddenIn]; done) | decide +kernel
theorem ef_5 (m : MethodId) (a0 : Addr) (q1 : Int64) : entryFrame m #[(.ref a0), (.long q1)] 4 = mkF m 0 #[.val (.ref a0), .val (.long q1), .second, .unset] [] := by first | (simp [entryFrame, mkF, argsToLocals, Value.category]; done) | rfl
set_option maxRecDepth 65536 in
set_option maxHeartbeats 40000000 in
theorem rm5 (l : Launch) (Z : State) (a0 : Array Value) (hw : ∀ d ∈ tables_1, d.before a0 Z = true) (ws : List Jvm.Cond) (o a b : Addr) (mm : Nat) (hm1 : 1 ≤ mm) (hm4 : mm ≤ 4) (P t : Nat → Int64) (B : Nat → Nat) (e' q0 : Nat) (u : Int64) (hu : t e' = u) (hB : Bord P B mm) (hM : Mx P t e' mm q0) (h0 : Heap) (n0 : Nat) (g_o : n0 ≤ o) (HO : Exa Z h0 o "com/example/sarana/sarana/functions/collation/MatchedPrefix" ∧ Fld Z h0 o "com/example/sarana/sarana/functions/collation/MatchedPrefix" "part" "[J" (.ref a) ∧ Fld Z h0 o "com/example/sarana/sarana/functions/collation/MatchedPrefix" "borders" "[I" (.ref b) ∧ Fld Z h0 o "com/example/sarana/sarana/functions/collation/MatchedPrefix" "length" "I" (.int (Int32.ofNat q0))) (Va0 : OFn Z h0 a .long mm (fun j => .long (P j))) (Vb0 : OFn Z h0 b .int mm (fun j => .int (Int32.ofNat (B j)))) :
    MetFree l (⟨"com/example/sarana/sarana/functions/collation/MatchedPrefix", "read", "(J)Z"⟩ : MethodName) (head1 (Jvm.Cond.code (⟨"com/example/sarana/sarana/functions/collation/MatchedPrefix", "read", "(J)Z"⟩ : MethodName) prog_35_method_2_code 4 (some .boolean) :: ws) ({ frames := 0, cells := 0, slots := 0, locals := 0 } : Room)) (fun a_ U => a_ = #[(.ref o), (.long u)] ∧ Z.Warmed39 U.vm ∧ U.heap = h0) (fun _ _ _ _ _ => True) (fun _ U o_ U' => ∃ v L, o_ = .returned v ∧ OQ (fun v h L => ∃ (r : Int32) (q' : Nat), v = some (.int r) ∧ ((r = 1 ∧ Mt P t (e' + 1) mm) ∨ (r = 0 ∧ ¬ Mt P t (e' + 1) mm)) ∧ Mx P t (e' + 1) mm q' ∧ (Exa Z h o "com/example/sarana/sarana/functions/collation/MatchedPrefix" ∧ Fld Z h o "com/example/sarana/sarana/functions/collation/MatchedPrefix" "part" "[J" (.ref a) ∧ Fld Z h o "com/example/sarana/sarana/functions/collation/MatchedPrefix" "borders" "[I" (.ref b) ∧ Fld Z h o "com/example/sarana/sarana/functions/collation/MatchedPrefix" "length" "I" (.int (Int32.ofNat q'))) ∧ Keep h0 h [o] ∧ Fr n0 L) v U'.heap L ∧ FrameEnd U o_ U' L ({ frames := 0, cells := 0, slots := 0, locals := 0 } : Room).cells ({ frames := 0, cells := 0, slots := 0, locals := 0 } : Room).slots) := by
  refine MetFree.of_bodySF (plainFor_of_name pn_5) hisR ?_
  intro p e s m args below meth c s₁ Bd hml0 hP hK
  obtain ⟨rfl, hZ, hh⟩ := hP
  have hx := Bd.exec
  have hby := Bd.bytes
  have hml : c.maxLocals = 4 := hml0
  have hown : s.vm.findClass "com/example/sarana/sarana/functions/collation/MatchedPrefix" = some m.cls := findClass_of_methodNamed Bd.named
  have hnm := (name_of_methodNamed Bd.named Bd.method).1
  have hret := Bd.returns
  have hlk : meth.locks = false := Bd.notSynchronized
  have X0 : Stand p l e ({ frames := 0, cells := 0, slots := 0, locals := 0 } : Room) s m #[(.ref o), (.long u)] below meth c s₁ [] 0 0 := Stand.of_body Bd
  have e0 : s₁.heap = h0 := by rw [← hh, Bd.state]; rfl
  refine OFin.start (Q := fun v h L => ∃ (r : Int32) (q' : Nat), v = some (.int r) ∧ ((r = 1 ∧ Mt P t (e' + 1) mm) ∨ (r = 0 ∧ ¬ Mt P t (e' + 1) mm)) ∧ Mx P t (e' + 1) mm q' ∧ (Exa Z h o "com/example/sarana/sarana/functions/collation/MatchedPrefix" ∧ Fld Z h o "com/example/sarana/sarana/functions/collation/MatchedPrefix" "part" "[J" (.ref a) ∧ Fld Z h o "com/example/sarana/sarana/functions/collation/MatchedPrefix" "borders" "[I" (.ref b) ∧ Fld Z h o "com/example/sarana/sarana/functions/collation/MatchedPrefix" "length" "I" (.int (Int32.ofNat q'))) ∧ Keep h0 h [o] ∧ Fr n0 L) (s := s) (fun t kt => castTop (ef_5 m (o) (u)) kt) ?_
  have ne_a_o : a ≠ o := own_neVO HO.1 (hw _ (List.mem_of_getElem? (i := 6) rfl)) Va0
  have ne_b_o : b ≠ o := own_neVO HO.1 (hw _ (List.mem_of_getElem? (i := 6) rfl)) Vb0
  have A63 : ∀ (q : Nat) (T : State) (h : Heap) (L : List Loc), Fnd P t (e' + 1) mm q → Stand p l e ({ frames := 0, cells := 0, slots := 0, locals := 0 } : Room) s m #[(.ref o), (.long u)] below meth c T L 0 0 → T.heap = h → (Exa Z h o "com/example/sarana/sarana/functions/collation/MatchedPrefix" ∧ Fld Z h o "com/example/sarana/sarana/functions/collation/MatchedPrefix" "part" "[J" (.ref a) ∧ Fld Z h o "com/example/sarana/sarana/functions/collation/MatchedPrefix" "borders" "[I" (.ref b) ∧ Fld Z h o "com/example/sarana/sarana/functions/collation/MatchedPrefix" "length" "I" (.int (Int32.ofNat q))) → OFn Z h a .long mm (fun j => .long (P j)) → OFn Z h b .int mm (fun j => .int (Int32.ofNat (B j))) → Keep h0 h [o] → Fr n0 L → OFin p e below s ({ frames := 0, cells := 0, slots := 0, locals := 0 } : Room).cells ({ frames := 0, cells := 0, slots := 0, locals := 0 } : Room).slots (fun v h L => ∃ (r : Int32) (q' : Nat), v = some (.int r) ∧ ((r = 1 ∧ Mt P t (e' + 1) mm) ∨ (r = 0 ∧ ¬ Mt P t (e' + 1) mm)) ∧ Mx P t (e' + 1) mm q' ∧ (Exa Z h o "com/example/sarana/sarana/functions/collation/MatchedPrefix" ∧ Fld Z h o "com/example/sarana/sarana/functions/collation/MatchedPrefix" "part" "[J" (.ref a) ∧ Fld Z h o "com/example/sarana/sarana/functions/collation/MatchedPrefix" "borders" "[I" (.ref b) ∧ Fld Z h o "com/example/sarana/sarana/functions/collation/MatchedPrefix" "length" "I" (.int (Int32.ofNat q'))) ∧ Keep h0 h [o] ∧ Fr n0 L) (T.setTop (mkF m 63 #[.val (.ref o), .val (.long u), .second, .unset] [])) := by
    intro q T h L hF X eT HO' Va Vb K N
    obtain ⟨E_o, F_part, F_borders, F_length⟩ := HO'
    have hq := hF.1
    refine OFin.to (T.setTop (mkF m 64 #[.val (.ref o), .val (.long u), .second, .unset] [(.ref o)])) (fun _ kt => XS.aloadN X.here hx rfl (hb hby d5_63) rfl rfl kt) ?_
    obtain ⟨T1, X1, e1, st1⟩ := getF X hx hZ hown (host := "") (Or.inl (hw _ (List.mem_of_getElem? (i := 27) rfl))) Via.refl eT F_length (g := (mkF m 64 #[.val (.ref o), .val (.long u), .second, .unset] [(.ref o)])) rfl rfl (hb hby d5_64)
    refine OFin.to (T1.setTop (mkF m 67 #[.val (.ref o), .val (.long u), .second, .unset] [(.int (Int32.ofNat q))])) st1 ?_
    refine OFin.to (T1.setTop (mkF m 68 #[.val (.ref o), .val (.long u), .second, .unset] [(.ref o), (.int (Int32.ofNat q))])) (fun _ kt => XS.aloadN X1.here hx rfl (hb hby d5_67) rfl rfl kt) ?_
    obtain ⟨T2, X2, e2, st2⟩ := getF X1 hx hZ hown (host := "") (Or.inl (hw _ (List.mem_of_getElem? (i := 14) rfl))) Via.refl e1 F_part (g := (mkF m 68 #[.val (.ref o), .val (.long u), .second, .unset] [(.ref o), (.int (Int32.ofNat q))])) rfl rfl (hb hby d5_68)
    refine OFin.to (T2.setTop (mkF m 71 #[.val (.ref o), .val (.long u), .second, .unset] [(.ref a), (.int (Int32.ofNat q))])) st2 ?_
    refine OFin.to (T2.setTop (mkF m 72 #[.val (.ref o), .val (.long u), .second, .unset] [(.int (Int32.ofNat mm)), (.int (Int32.ofNat q))])) (fun _ kt => own_len X2 hx hZ e2 Va (n := Int32.ofNat mm) (by rw [own_rlen]) (g := (mkF m 71 #[.val (.ref o), .val (.long u), .second, .unset] [(.ref a), (.int (Int32.ofNat q))])) rfl rfl (hb hby d5_71) _ kt) ?_
    by_cases hqm : q = mm
    case pos =>
      refine OFin.to (T2.setTop (mkF m 75 #[.val (.ref o), .val (.long u), .second, .unset] [])) (fun _ kt => XS.icmpNo X2.here hx rfl (hb hby d5_72) rfl (XT.ii_ne_f (by rw [hqm])) kt) ?_
      refine OFin.to (T2.setTop (mkF m 76 #[.val (.ref o), .val (.long u), .second, .unset] [(.int (1 : Int32))])) (fun _ kt => XS.iconst X2.here hx rfl (hb hby d5_75) kt) ?_
      refine OFin.to (T2.setTop (mkF m 80 #[.val (.ref o), .val (.long u), .second, .unset] [(.int (1 : Int32))])) (fun _ kt => XS.goto X2.here hx rfl (pc0 := 76) (pc' := 80) rfl (hb hby d5_76) (by decide) (by decide) kt) ?_
      refine OFin.to (T2.setTop (mkF m 81 #[.val (.ref o), .val (.long u), .second, .val (.int (1 : Int32))] [])) (fun _ kt => XS.istoreN X2.here hx rfl (hb hby d5_80) rfl (l' := #[.val (.ref o), .val (.long u), .second, .val (.int (1 : Int32))]) rfl kt) ?_
      refine OFin.to (T2.setTop (mkF m 82 #[.val (.ref o), .val (.long u), .second, .val (.int (1 : Int32))] [(.int (1 : Int32))])) (fun _ kt => XS.iloadN X2.here hx rfl (hb hby d5_81) rfl kt) ?_
      refine OFin.to (T2.setTop (mkF m 85 #[.val (.ref o), .val (.long u), .second, .val (.int (1 : Int32))] [])) (fun _ kt => XS.ifNo X2.here hx rfl (hb hby d5_82) rfl (XT.i0_eq_f (by decide)) kt) ?_
      refine OFin.to (T2.setTop (mkF m 86 #[.val (.ref o), .val (.long u), .second, .val (.int (1 : Int32))] [(.ref o)])) (fun _ kt => XS.aloadN X2.here hx rfl (hb hby d5_85) rfl rfl kt) ?_
      refine OFin.to (T2.setTop (mkF m 87 #[.val (.ref o), .val (.long u), .second, .val (.int (1 : Int32))] [(.ref o), (.ref o)])) (fun _ kt => XS.aloadN X2.here hx rfl (hb hby d5_86) rfl rfl kt) ?_
      obtain ⟨T3, X3, e3, st3⟩ := getF X2 hx hZ hown (host := "") (Or.inl (hw _ (List.mem_of_getElem? (i := 20) rfl))) Via.refl e2 F_borders (g := (mkF m 87 #[.val (.ref o), .val (.long u), .second, .val (.int (1 : Int32))] [(.ref o), (.ref o)])) rfl rfl (hb hby d5_87)
      refine OFin.to (T3.setTop (mkF m 90 #[.val (.ref o), .val (.long u), .second, .val (.int (1 : Int32))] [(.ref b), (.ref o)])) st3 ?_
      refine OFin.to (T3.setTop (mkF m 91 #[.val (.ref o), .val (.long u), .second, .val (.int (1 : Int32))] [(.ref o), (.ref b), (.ref o)])) (fun _ kt => XS.aloadN X3.here hx rfl (hb hby d5_90) rfl rfl kt) ?_
      obtain ⟨T4, X4, e4, st4⟩ := getF X3 hx hZ hown (host := "") (Or.inl (hw _ (List.mem_of_getElem? (i := 27) rfl))) Via.refl e3 F_length (g := (mkF m 91 #[.val (.ref o), .val (.long u), .second, .val (.int (1 : Int32))] [(.ref o), (.ref b), (.ref o)])) rfl rfl (hb hby d5_91)
      refine OFin.to (T4.setTop (mkF m 94 #[.val (.ref o), .val (.long u), .second, .val (.int (1 : Int32))] [(.int (Int32.ofNat q)), (.ref b), (.ref o)])) st4 ?_
      refine OFin.to (T4.setTop (mkF m 95 #[.val (.ref o), .val (.long u), .second, .val (.int (1 : Int32))] [(.int (1 : Int32)), (.int (Int32.ofNat q)), (.ref b), (.ref o)])) (fun _ kt => XS.iconst X4.here hx rfl (hb hby d5_94) kt) ?_
      refine OFin.to (T4.setTop (mkF m 96 #[.val (.ref o), .val (.long u), .second, .val (.int (1 : Int32))] [(.int ((Int32.ofNat q) - (1 : Int32))), (.ref b), (.ref o)])) (fun _ kt => XS.isub X4.here hx rfl (hb hby d5_95) rfl kt) ?_
      rw [own_ofSub q (by omega)]
      refine OFin.to (T4.setTop (mkF m 97 #[.val (.ref o), .val (.long u), .second, .val (.int (1 : Int32))] [(.int (Int32.ofNat (B (q - 1)))), (.ref o)])) (fun _ kt => own_ldI X4 hx hZ e4 Vb (j := (Int32.ofNat (q - 1))) (own_ix (q - 1) (by omega)).1 (by rw [(own_ix (q - 1) (by omega)).2, own_rat _ (by omega)]) (g := (mkF m 96 #[.val (.ref o), .val (.long u), .second, .val (.int (1 : Int32))] [(.int (Int32.ofNat (q - 1))), (.ref b), (.ref o)])) rfl rfl (hb hby d5_96) _ kt) ?_
      obtain ⟨T5, h5, X5, e5, W5, st5⟩ := putF X4 hx hZ hown (host := "") (Or.inl (hw _ (List.mem_of_getElem? (i := 27) rfl))) Via.refl e4 F_length E_o (Or.inl (hw _ (List.mem_of_getElem? (i := 28) rfl))) (hw _ (List.mem_of_getElem? (i := 6) rfl)) (ty := .int) (by decide) rfl rfl (g := (mkF m 97 #[.val (.ref o), .val (.long u), .second, .val (.int (1 : Int32))] [(.int (Int32.ofNat (B (q - 1)))), (.ref o)])) rfl rfl (hb hby d5_97)
      have E_o_5 := E_o.wr W5
      have Va_5 := Va.other W5 ne_a_o
      have Vb_5 := Vb.other W5 ne_b_o
      have F_part_5 := F_part.other W5 (Or.inr (slot_ne (Or.inr (hw _ (List.mem_of_getElem? (i := 15) rfl))) (Or.inl (hw _ (List.mem_of_getElem? (i := 28) rfl))) (by decide) (t := (.array .long)) (t' := .int) (by decide) (by decide)))
      have F_borders_5 := F_borders.other W5 (Or.inr (slot_ne (Or.inr (hw _ (List.mem_of_getElem? (i := 21) rfl))) (Or.inl (hw _ (List.mem_of_getElem? (i := 28) rfl))) (by decide) (t := (.array .int)) (t' := .int) (by decide) (by decide)))
      have F_length_5 := F_length.same W5
      have K5 := K.wr W5 (Or.inl (by simp))
      have N5 := Fr.snoc X5 N g_o
      refine OFin.to (T5.setTop (mkF m 100 #[.val (.ref o), .val (.long u), .second, .val (.int (1 : Int32))] [])) st5 ?_
      refine OFin.to (T5.setTop (mkF m 101 #[.val (.ref o), .val (.long u), .second, .val (.int (1 : Int32))] [(.int (1 : Int32))])) (fun _ kt => XS.iloadN X5.here hx rfl (hb hby d5_100) rfl kt) ?_
      rw [hqm] at hF
      have hw' := hF.whole hB hm1
      skip
      exact OFin.retZ X5 hx (t := .boolean) hret (by simp) hlk (hb hby d5_101) (Nat.zero_le _) (Nat.zero_le _) (by rw [e5]; exact ⟨1, B (q - 1), by rw [own_nar1], Or.inl ⟨rfl, hw'.2⟩, (by rw [hqm]; exact hw'.1), ⟨E_o_5, F_part_5, F_borders_5, F_length_5⟩, K5, N5⟩)
    refine OFin.to (T2.setTop (mkF m 79 #[.val (.ref o), .val (.long u), .second, .unset] [])) (fun _ kt => XS.icmpYes X2.here hx rfl (pc0 := 72) (pc' := 79) rfl (hb hby d5_72) rfl (XT.ii_ne_t (fun q' => hqm ((own_ofEq q mm (by omega) (by omega)).mp q'))) (by decide) (by decide) kt) ?_
    refine OFin.to (T2.setTop (mkF m 80 #[.val (.ref o), .val (.long u), .second, .unset] [(.int (0 : Int32))])) (fun _ kt => XS.iconst X2.here hx rfl (hb hby d5_79) kt) ?_
    refine OFin.to (T2.setTop (mkF m 81 #[.val (.ref o), .val (.long u), .second, .val (.int (0 : Int32))] [])) (fun _ kt => XS.istoreN X2.here hx rfl (hb hby d5_80) rfl (l' := #[.val (.ref o), .val (.long u), .second, .val (.int (0 : Int32))]) rfl kt) ?_
    refine OFin.to (T2.setTop (mkF m 82 #[.val (.ref o), .val (.long u), .second, .val (.int (0 : Int32))] [(.int (0 : Int32))])) (fun _ kt => XS.iloadN X2.here hx rfl (hb hby d5_81) rfl kt) ?_
    refine OFin.to (T2.setTop (mkF m 100 #[.val (.ref o), .val (.long u), .second, .val (.int (0 : Int32))] [])) (fun _ kt => XS.ifYes X2.here hx rfl (pc0 := 82) (pc' := 100) rfl (hb hby d5_82) rfl (XT.i0_eq_t rfl) (by decide) (by decide) kt) ?_
    refine OFin.to (T2.setTop (mkF m 101 #[.val (.ref o), .val (.long u), .second, .val (.int (0 : Int32))] [(.int (0 : Int32))])) (fun _ kt => XS.iloadN X2.here hx rfl (hb hby d5_100) rfl kt) ?_
    have hw' := hF.mx hqm
    exact OFin.retZ X2 hx (t := .boolean) hret (by simp) hlk (hb hby d5_101) (Nat.zero_le _) (Nat.zero_le _) (by rw [e2]; exact ⟨0, q, by rw [own_nar0], Or.inr ⟨rfl, hw'.2⟩, hw'.1, ⟨E_o, F_part, F_borders, F_length⟩, K, N⟩)
  have A39 : ∀ (q : Nat) (T : State) (h : Heap) (L : List Loc), Inv P t e' mm u q → (q = 0 ∨ P q = u) → Stand p l e ({ frames := 0, cells := 0, slots := 0, locals := 0 } : Room) s m #[(.ref o), (.long u)] below meth c T L 0 0 → T.heap = h → (Exa Z h o "com/example/sarana/sarana/functions/collation/MatchedPrefix" ∧ Fld Z h o "com/example/sarana/sarana/functions/collation/MatchedPrefix" "part" "[J" (.ref a) ∧ Fld Z h o "com/example/sarana/sarana/functions/collation/MatchedPrefix" "borders" "[I" (.ref b) ∧ Fld Z h o "com/example/sarana/sarana/functions/collation/MatchedPrefix" "length" "I" (.int (Int32.ofNat q))) → OFn Z h a .long mm (fun j => .long (P j)) → OFn Z h b .int mm (fun j => .int (Int32.ofNat (B j))) → Keep h0 h [o] → Fr n0 L → OFin p e below s ({ frames := 0, cells := 0, slots := 0, locals := 0 } : Room).cells ({ frames := 0, cells := 0, slots := 0, locals := 0 } : Room).slots (fun v h L => ∃ (r : Int32) (q' : Nat), v = some (.int r) ∧ ((r = 1 ∧ Mt P t (e' + 1) mm) ∨ (r = 0 ∧ ¬ Mt P t (e' + 1) mm)) ∧ Mx P t (e' + 1) mm q' ∧ (Exa Z h o "com/example/sarana/sarana/functions/collation/MatchedPrefix" ∧ Fld Z h o "com/example/sarana/sarana/functions/collation/MatchedPrefix" "part" "[J" (.ref a) ∧ Fld Z h o "com/example/sarana/sarana/functions/collation/MatchedPrefix" "borders" "[I" (.ref b) ∧ Fld Z h o "com/example/sarana/sarana/functions/collation/MatchedPrefix" "length" "I" (.int (Int32.ofNat q'))) ∧ Keep h0 h [o] ∧ Fr n0 L) (T.setTop (mkF m 39 #[.val (.ref o), .val (.long u), .second, .unset] [])) := by
    intro q T h L hI hx' X eT HO' Va Vb K N
    obtain ⟨E_o, F_part, F_borders, F_length⟩ := HO'
    have hq := hI.1
    refine OFin.to (T.setTop (mkF m 40 #[.val (.ref o), .val (.long u), .second, .unset] [(.ref o)])) (fun _ kt => XS.aloadN X.here hx rfl (hb hby d5_39) rfl rfl kt) ?_
    obtain ⟨T6, X6, e6, st6⟩ := getF X hx hZ hown (host := "") (Or.inl (hw _ (List.mem_of_getElem? (i := 14) rfl))) Via.refl eT F_part (g := (mkF m 40 #[.val (.ref o), .val (.long u), .second, .unset] [(.ref o)])) rfl rfl (hb hby d5_40)
    refine OFin.to (T6.setTop (mkF m 43 #[.val (.ref o), .val (.long u), .second, .unset] [(.ref a)])) st6 ?_
    refine OFin.to (T6.setTop (mkF m 44 #[.val (.ref o), .val (.long u), .second, .unset] [(.ref o), (.ref a)])) (fun _ kt => XS.aloadN X6.here hx rfl (hb hby d5_43) rfl rfl kt) ?_
    obtain ⟨T7, X7, e7, st7⟩ := getF X6 hx hZ hown (host := "") (Or.inl (hw _ (List.mem_of_getElem? (i := 27) rfl))) Via.refl e6 F_length (g := (mkF m 44 #[.val (.ref o), .val (.long u), .second, .unset] [(.ref o), (.ref a)])) rfl rfl (hb hby d5_44)
    refine OFin.to (T7.setTop (mkF m 47 #[.val (.ref o), .val (.long u), .second, .unset] [(.int (Int32.ofNat q)), (.ref a)])) st7 ?_
    refine OFin.to (T7.setTop (mkF m 48 #[.val (.ref o), .val (.long u), .second, .unset] [(.long (P q))])) (fun _ kt => own_ldJ X7 hx hZ e7 Va (j := (Int32.ofNat q)) (own_ix (q) (by omega)).1 (by rw [(own_ix (q) (by omega)).2, own_rat _ (by omega)]) (g := (mkF m 47 #[.val (.ref o), .val (.long u), .second, .unset] [(.int (Int32.ofNat q)), (.ref a)])) rfl rfl (hb hby d5_47) _ kt) ?_
    refine OFin.to (T7.setTop (mkF m 49 #[.val (.ref o), .val (.long u), .second, .unset] [(.long u), (.long (P q))])) (fun _ kt => XS.lloadN X7.here hx rfl (hb hby d5_48) rfl kt) ?_
    refine OFin.to (T7.setTop (mkF m 50 #[.val (.ref o), .val (.long u), .second, .unset] [(.int (XT.cmpL (P q) u))])) (fun _ kt => XT.lcmp X7.here hx rfl (hb hby d5_49) rfl kt) ?_
    by_cases hc1 : (P q) = u
    case pos =>
      refine OFin.to (T7.setTop (mkF m 53 #[.val (.ref o), .val (.long u), .second, .unset] [])) (fun _ kt => XS.ifNo X7.here hx rfl (hb hby d5_50) rfl (XT.ll_ne_f hc1) kt) ?_
      refine OFin.to (T7.setTop (mkF m 54 #[.val (.ref o), .val (.long u), .second, .unset] [(.ref o)])) (fun _ kt => XS.aloadN X7.here hx rfl (hb hby d5_53) rfl rfl kt) ?_
      refine OFin.to (T7.setTop (mkF m 55 #[.val (.ref o), .val (.long u), .second, .unset] [(.ref o), (.ref o)])) (fun _ kt => XS.dup X7.here hx rfl (hb hby d5_54) rfl rfl kt) ?_
      obtain ⟨T8, X8, e8, st8⟩ := getF X7 hx hZ hown (host := "") (Or.inl (hw _ (List.mem_of_getElem? (i := 27) rfl))) Via.refl e7 F_length (g := (mkF m 55 #[.val (.ref o), .val (.long u), .second, .unset] [(.ref o), (.ref o)])) rfl rfl (hb hby d5_55)
      refine OFin.to (T8.setTop (mkF m 58 #[.val (.ref o), .val (.long u), .second, .unset] [(.int (Int32.ofNat q)), (.ref o)])) st8 ?_
      refine OFin.to (T8.setTop (mkF m 59 #[.val (.ref o), .val (.long u), .second, .unset] [(.int (1 : Int32)), (.int (Int32.ofNat q)), (.ref o)])) (fun _ kt => XS.iconst X8.here hx rfl (hb hby d5_58) kt) ?_
      refine OFin.to (T8.setTop (mkF m 60 #[.val (.ref o), .val (.long u), .second, .unset] [(.int ((Int32.ofNat q) + (1 : Int32))), (.ref o)])) (fun _ kt => XS.iadd X8.here hx rfl (hb hby d5_59) rfl kt) ?_
      rw [show Int32.ofNat q + (1 : Int32) = Int32.ofNat (q + 1) from own_ofAdd q 1]
      obtain ⟨T9, h9, X9, e9, W9, st9⟩ := putF X8 hx hZ hown (host := "") (Or.inl (hw _ (List.mem_of_getElem? (i := 27) rfl))) Via.refl e8 F_length E_o (Or.inl (hw _ (List.mem_of_getElem? (i := 28) rfl))) (hw _ (List.mem_of_getElem? (i := 6) rfl)) (ty := .int) (by decide) rfl rfl (g := (mkF m 60 #[.val (.ref o), .val (.long u), .second, .unset] [(.int (Int32.ofNat (q + 1))), (.ref o)])) rfl rfl (hb hby d5_60)
      have E_o_9 := E_o.wr W9
      have Va_9 := Va.other W9 ne_a_o
      have Vb_9 := Vb.other W9 ne_b_o
      have F_part_9 := F_part.other W9 (Or.inr (slot_ne (Or.inr (hw _ (List.mem_of_getElem? (i := 15) rfl))) (Or.inl (hw _ (List.mem_of_getElem? (i := 28) rfl))) (by decide) (t := (.array .long)) (t' := .int) (by decide) (by decide)))
      have F_borders_9 := F_borders.other W9 (Or.inr (slot_ne (Or.inr (hw _ (List.mem_of_getElem? (i := 21) rfl))) (Or.inl (hw _ (List.mem_of_getElem? (i := 28) rfl))) (by decide) (t := (.array .int)) (t' := .int) (by decide) (by decide)))
      have F_length_9 := F_length.same W9
      have K9 := K.wr W9 (Or.inl (by simp))
      have N9 := Fr.snoc X9 N g_o
      refine OFin.to (T9.setTop (mkF m 63 #[.val (.ref o), .val (.long u), .second, .unset] [])) st9 ?_
      exact A63 (q + 1) T9 h9 _ (hI.hit hu hc1) X9 e9 ⟨E_o_9, F_part_9, F_borders_9, F_length_9⟩ Va_9 Vb_9 K9 N9
    refine OFin.to (T7.setTop (mkF m 63 #[.val (.ref o), .val (.long u), .second, .unset] [])) (fun _ kt => XS.ifYes X7.here hx rfl (pc0 := 50) (pc' := 63) rfl (hb hby d5_50) rfl (XT.ll_ne_t hc1) (by decide) (by decide) kt) ?_
    obtain rfl : q = 0 := hx'.resolve_right hc1
    exact A63 0 T7 h _ (hI.miss hu hc1) X7 e7 ⟨E_o, F_part, F_borders, F_length⟩ Va Vb K N
  have LP : ∀ (n q : Nat) (T : State) (h : Heap) (L : List Loc), q ≤ n → Inv P t e' mm u q → Stand p l e ({ frames := 0, cells := 0, slots := 0, locals := 0 } : Room) s m #[(.ref o), (.long u)] below meth c T L 0 0 → T.heap = h → (Exa Z h o "com/example/sarana/sarana/functions/collation/MatchedPrefix" ∧ Fld Z h o "com/example/sarana/sarana/functions/collation/MatchedPrefix" "part" "[J" (.ref a) ∧ Fld Z h o "com/example/sarana/sarana/functions/collation/MatchedPrefix" "borders" "[I" (.ref b) ∧ Fld Z h o "com/example/sarana/sarana/functions/collation/MatchedPrefix" "length" "I" (.int (Int32.ofNat q))) → OFn Z h a .long mm (fun j => .long (P j)) → OFn Z h b .int mm (fun j => .int (Int32.ofNat (B j))) → Keep h0 h [o] → Fr n0 L → OFin p e below s ({ frames := 0, cells := 0, slots := 0, locals := 0 } : Room).cells ({ frames := 0, cells := 0, slots := 0, locals := 0 } : Room).slots (fun v h L => ∃ (r : Int32) (q' : Nat), v = some (.int r) ∧ ((r = 1 ∧ Mt P t (e' + 1) mm) ∨ (r = 0 ∧ ¬ Mt P t (e' + 1) mm)) ∧ Mx P t (e' + 1) mm q' ∧ (Exa Z h o "com/example/sarana/sarana/functions/collation/MatchedPrefix" ∧ Fld Z h o "com/example/sarana/sarana/functions/collation/MatchedPrefix" "part" "[J" (.ref a) ∧ Fld Z h o "com/example/sarana/sarana/functions/collation/MatchedPrefix" "borders" "[I" (.ref b) ∧ Fld Z h o "com/example/sarana/sarana/functions/collation/MatchedPrefix" "length" "I" (.int (Int32.ofNat q'))) ∧ Keep h0 h [o] ∧ Fr n0 L) (T.setTop (mkF m 0 #[.val (.ref o), .val (.long u), .second, .unset] [])) := by
    intro n
    induction n with
    | zero =>
      intro q T h L hqn hI X eT HO' Va Vb K N
      have HO'' := HO'
      obtain ⟨E_o, F_part, F_borders, F_length⟩ := HO'
      have hq := hI.1
      refine OFin.to (T.setTop (mkF m 1 #[.val (.ref o), .val (.long u), .second, .unset] [(.ref o)])) (fun _ kt => XS.aloadN X.here hx rfl (hb hby d5_0) rfl rfl kt) ?_
      obtain ⟨T10, X10, e10, st10⟩ := getF X hx hZ hown (host := "") (Or.inl (hw _ (List.mem_of_getElem? (i := 27) rfl))) Via.refl eT F_length (g := (mkF m 1 #[.val (.ref o), .val (.long u), .second, .unset] [(.ref o)])) rfl rfl (hb hby d5_1)
      refine OFin.to (T10.setTop (mkF m 4 #[.val (.ref o), .val (.long u), .second, .unset] [(.int (Int32.ofNat q))])) st10 ?_
      obtain rfl : q = 0 := by omega
      refine OFin.to (T10.setTop (mkF m 39 #[.val (.ref o), .val (.long u), .second, .unset] [])) (fun _ kt => XS.ifYes X10.here hx rfl (pc0 := 4) (pc' := 39) rfl (hb hby d5_4) rfl (XT.i0_le_t Int32.lt_irrefl) (by decide) (by decide) kt) ?_
      exact A39 0 T10 h _ hI (Or.inl rfl) X10 e10 HO'' Va Vb K N
    | succ n ih =>
      intro q T h L hqn hI X eT HO' Va Vb K N
      have HO'' := HO'
      obtain ⟨E_o, F_part, F_borders, F_length⟩ := HO'
      have hq := hI.1
      refine OFin.to (T.setTop (mkF m 1 #[.val (.ref o), .val (.long u), .second, .unset] [(.ref o)])) (fun _ kt => XS.aloadN X.here hx rfl (hb hby d5_0) rfl rfl kt) ?_
      obtain ⟨T11, X11, e11, st11⟩ := getF X hx hZ hown (host := "") (Or.inl (hw _ (List.mem_of_getElem? (i := 27) rfl))) Via.refl eT F_length (g := (mkF m 1 #[.val (.ref o), .val (.long u), .second, .unset] [(.ref o)])) rfl rfl (hb hby d5_1)
      refine OFin.to (T11.setTop (mkF m 4 #[.val (.ref o), .val (.long u), .second, .unset] [(.int (Int32.ofNat q))])) st11 ?_
      by_cases hq0 : q = 0
      case pos =>
        subst hq0
        refine OFin.to (T11.setTop (mkF m 39 #[.val (.ref o), .val (.long u), .second, .unset] [])) (fun _ kt => XS.ifYes X11.here hx rfl (pc0 := 4) (pc' := 39) rfl (hb hby d5_4) rfl (XT.i0_le_t Int32.lt_irrefl) (by decide) (by decide) kt) ?_
        exact A39 0 T11 h _ hI (Or.inl rfl) X11 e11 HO'' Va Vb K N
      refine OFin.to (T11.setTop (mkF m 7 #[.val (.ref o), .val (.long u), .second, .unset] [])) (fun _ kt => XS.ifNo X11.here hx rfl (hb hby d5_4) rfl (XT.i0_le_f ((own_ofLt 0 q (by omega) (by omega)).mpr (by omega))) kt) ?_
      refine OFin.to (T11.setTop (mkF m 8 #[.val (.ref o), .val (.long u), .second, .unset] [(.ref o)])) (fun _ kt => XS.aloadN X11.here hx rfl (hb hby d5_7) rfl rfl kt) ?_
      obtain ⟨T12, X12, e12, st12⟩ := getF X11 hx hZ hown (host := "") (Or.inl (hw _ (List.mem_of_getElem? (i := 14) rfl))) Via.refl e11 F_part (g := (mkF m 8 #[.val (.ref o), .val (.long u), .second, .unset] [(.ref o)])) rfl rfl (hb hby d5_8)
      refine OFin.to (T12.setTop (mkF m 11 #[.val (.ref o), .val (.long u), .second, .unset] [(.ref a)])) st12 ?_
      refine OFin.to (T12.setTop (mkF m 12 #[.val (.ref o), .val (.long u), .second, .unset] [(.ref o), (.ref a)])) (fun _ kt => XS.aloadN X12.here hx rfl (hb hby d5_11) rfl rfl kt) ?_
      obtain ⟨T13, X13, e13, st13⟩ := getF X12 hx hZ hown (host := "") (Or.inl (hw _ (List.mem_of_getElem? (i := 27) rfl))) Via.refl e12 F_length (g := (mkF m 12 #[.val (.ref o), .val (.long u), .second, .unset] [(.ref o), (.ref a)])) rfl rfl (hb hby d5_12)
      refine OFin.to (T13.setTop (mkF m 15 #[.val (.ref o), .val (.long u), .second, .unset] [(.int (Int32.ofNat q)), (.ref a)])) st13 ?_
      refine OFin.to (T13.setTop (mkF m 16 #[.val (.ref o), .val (.long u), .second, .unset] [(.long (P q))])) (fun _ kt => own_ldJ X13 hx hZ e13 Va (j := (Int32.ofNat q)) (own_ix (q) (by omega)).1 (by rw [(own_ix (q) (by omega)).2, own_rat _ (by omega)]) (g := (mkF m 15 #[.val (.ref o), .val (.long u), .second, .unset] [(.int (Int32.ofNat q)), (.ref a)])) rfl rfl (hb hby d5_15) _ kt) ?_
      refine OFin.to (T13.setTop (mkF m 17 #[.val (.ref o), .val (.long u), .second, .unset] [(.long u), (.long (P q))])) (fun _ kt => XS.lloadN X13.here hx rfl (hb hby d5_16) rfl kt) ?_
      refine OFin.to (T13.setTop (mkF m 18 #[.val (.ref o), .val (.long u), .second, .unset] [(.int (XT.cmpL (P q) u))])) (fun _ kt => XT.lcmp X13.here hx rfl (hb hby d5_17) rfl kt) ?_
      by_cases hc1 : (P q) = u
      case pos =>
        refine OFin.to (T13.setTop (mkF m 39 #[.val (.ref o), .val (.long u), .second, .unset] [])) (fun _ kt => XS.ifYes X13.here hx rfl (pc0 := 18) (pc' := 39) rfl (hb hby d5_18) rfl (XT.ll_eq_t hc1) (by decide) (by decide) kt) ?_
        exact A39 q T13 h _ hI (Or.inr hc1) X13 e13 HO'' Va Vb K N
      refine OFin.to (T13.setTop (mkF m 21 #[.val (.ref o), .val (.long u), .second, .unset] [])) (fun _ kt => XS.ifNo X13.here hx rfl (hb hby d5_18) rfl (XT.ll_eq_f hc1) kt) ?_
      refine OFin.to (T13.setTop (mkF m 22 #[.val (.ref o), .val (.long u), .second, .unset] [(.ref o)])) (fun _ kt => XS.aloadN X13.here hx rfl (hb hby d5_21) rfl rfl kt) ?_
      refine OFin.to (T13.setTop (mkF m 23 #[.val (.ref o), .val (.long u), .second, .unset] [(.ref o), (.ref o)])) (fun _ kt => XS.aloadN X13.here hx rfl (hb hby d5_22) rfl rfl kt) ?_
      obtain ⟨T14, X14, e14, st14⟩ := getF X13 hx hZ hown (host := "") (Or.inl (hw _ (List.mem_of_getElem? (i := 20) rfl))) Via.refl e13 F_borders (g := (mkF m 23 #[.val (.ref o), .val (.long u), .second, .unset] [(.ref o), (.ref o)])) rfl rfl (hb hby d5_23)
      refine OFin.to (T14.setTop (mkF m 26 #[.val (.ref o), .val (.long u), .second, .unset] [(.ref b), (.ref o)])) st14 ?_
      refine OFin.to (T14.setTop (mkF m 27 #[.val (.ref o), .val (.long u), .second, .unset] [(.ref o), (.ref b), (.ref o)])) (fun _ kt => XS.aloadN X14.here hx rfl (hb hby d5_26) rfl rfl kt) ?_
      obtain ⟨T15, X15, e15, st15⟩ := getF X14 hx hZ hown (host := "") (Or.inl (hw _ (List.mem_of_getElem? (i := 27) rfl))) Via.refl e14 F_length (g := (mkF m 27 #[.val (.ref o), .val (.long u), .second, .unset] [(.ref o), (.ref b), (.ref o)])) rfl rfl (hb hby d5_27)
      refine OFin.to (T15.setTop (mkF m 30 #[.val (.ref o), .val (.long u), .second, .unset] [(.int (Int32.ofNat q)), (.ref b), (.ref o)])) st15 ?_
      refine OFin.to (T15.setTop (mkF m 31 #[.val (.ref o), .val (.long u), .second, .unset] [(.int (1 : Int32)), (.int (Int32.ofNat q)), (.ref b), (.ref o)])) (fun _ kt => XS.iconst X15.here hx rfl (hb hby d5_30) kt) ?_
      refine OFin.to (T15.setTop (mkF m 32 #[.val (.ref o), .val (.long u), .second, .unset] [(.int ((Int32.ofNat q) - (1 : Int32))), (.ref b), (.ref o)])) (fun _ kt => XS.isub X15.here hx rfl (hb hby d5_31) rfl kt) ?_
      rw [own_ofSub q (by omega)]
      refine OFin.to (T15.setTop (mkF m 33 #[.val (.ref o), .val (.long u), .second, .unset] [(.int (Int32.ofNat (B (q - 1)))), (.ref o)])) (fun _ kt => own_ldI X15 hx hZ e15 Vb (j := (Int32.ofNat (q - 1))) (own_ix (q - 1) (by omega)).1 (by rw [(own_ix (q - 1) (by omega)).2, own_rat _ (by omega)]) (g := (mkF m 32 #[.val (.ref o), .val (.long u), .second, .unset] [(.int (Int32.ofNat (q - 1))), (.ref b), (.ref o)])) rfl rfl (hb hby d5_32) _ kt) ?_
      obtain ⟨T16, h16, X16, e16, W16, st16⟩ := putF X15 hx hZ hown (host := "") (Or.inl (hw _ (List.mem_of_getElem? (i := 27) rfl))) Via.refl e15 F_length E_o (Or.inl (hw _ (List.mem_of_getElem? (i := 28) rfl))) (hw _ (List.mem_of_getElem? (i := 6) rfl)) (ty := .int) (by decide) rfl rfl (g := (mkF m 33 #[.val (.ref o), .val (.long u), .second, .unset] [(.int (Int32.ofNat (B (q - 1)))), (.ref o)])) rfl rfl (hb hby d5_33)
      have E_o_16 := E_o.wr W16
      have Va_16 := Va.other W16 ne_a_o
      have Vb_16 := Vb.other W16 ne_b_o
      have F_part_16 := F_part.other W16 (Or.inr (slot_ne (Or.inr (hw _ (List.mem_of_getElem? (i := 15) rfl))) (Or.inl (hw _ (List.mem_of_getElem? (i := 28) rfl))) (by decide) (t := (.array .long)) (t' := .int) (by decide) (by decide)))
      have F_borders_16 := F_borders.other W16 (Or.inr (slot_ne (Or.inr (hw _ (List.mem_of_getElem? (i := 21) rfl))) (Or.inl (hw _ (List.mem_of_getElem? (i := 28) rfl))) (by decide) (t := (.array .int)) (t' := .int) (by decide) (by decide)))
      have F_length_16 := F_length.same W16
      have K16 := K.wr W16 (Or.inl (by simp))
      have N16 := Fr.snoc X16 N g_o
      refine OFin.to (T16.setTop (mkF m 36 #[.val (.ref o), .val (.long u), .second, .unset] [])) st16 ?_
      refine OFin.to (T16.setTop (mkF m 0 #[.val (.ref o), .val (.long u), .second, .unset] [])) (fun _ kt => XS.goto X16.here hx rfl (pc0 := 36) (pc' := 0) rfl (hb hby d5_36) (by decide) (by decide) kt) ?_
      have hf := hI.fall hB (by omega) hc1
      exact ih (B (q - 1)) T16 h16 _ (by omega) hf.1 X16 e16 ⟨E_o_16, F_part_16, F_borders_16, F_length_16⟩ Va_16 Vb_16 K16 N16
  exact LP q0 q0 s₁ h0 [] (Nat.le_refl _) hM.inv X0 e0 HO Va0 Vb0 (Keep.refl _ _) (Fr.nil _)
theorem d6_0 : decode method_3_code 0 = .ok (.iload_n 1, 1) := by decide +kernel
theorem d6_1 : decode method_3_code 1 = .ok (.iconst 1, 1) := by decide +kernel
theorem d6_2 : decode method_3_code 2 = .ok (.iadd, 1) := by decide +kernel
theorem d6_3 : decode method_3_code 3 = .ok (.iload_n 3, 1) := by decide +kernel
theorem d6_4 : decode method_3_code 4 = .ok (.if_icmp .ge 5, 3) := by decide +kernel
theorem d6_7 : decode method_3_code 7 = .ok (.iconst 0, 1) := by decide +kernel
theorem d6_8 : decode method_3_code 8 = .ok (.ireturn, 1) := by decide +kernel
theorem d6_9 : decode method_3_code 9 = .ok (.aload_n 0, 1) := by decide +kernel
theorem d6_10 : decode method_3_code 10 = .ok (.iload_n 1, 1) := by decide +kernel
theorem d6_11 : decode method_3_code 11 = .ok (.laload, 1) := by decide +kernel
theorem d6_12 : decode method_3_code 12 = .ok (.aload_n 2, 1) := by decide +kernel
theorem d6_13 : decode method_3_code 13 = .ok (.iload_n 3, 1) := by decide +kernel
theorem d6_14 : decode method_3_code 14 = .ok (.iconst 1, 1) := by decide +kernel
theorem d6_15 : decode method_3_code 15 = .ok (.isub, 1) := by decide +kernel
theorem d6_16 : decode method_3_code 16 = .ok (.laload, 1) := by decide +kernel
theorem d6_17 : decode method_3_code 17 = .ok (.lcmp, 1) := by decide +kernel
theorem d6_18 : decode method_3_code 18 = .ok (.ifCond .ne 7, 3) := by decide +kernel
theorem d6_21 : decode method_3_code 21 = .ok (.iconst 1, 1) := by decide +kernel
theorem d6_22 : decode method_3_code 22 = .ok (.goto 4, 3) := by decide +kernel
theorem d6_25 : decode method_3_code 25 = .ok (.iconst 0, 1) := by decide +kernel
theorem d6_26 : decode method_3_code 26 = .ok (.istore 4, 2) := by decide +kernel
theorem d6_28 : decode method_3_code 28 = .ok (.iload_n 3, 1) := by decide +kernel
theorem d6_29 : decode method_3_code 29 = .ok (.iconst 2, 1) := by decide +kernel
theorem d6_30 : decode method_3_code 30 = .ok (.if_icmp .lt 29, 3) := by decide +kernel
theorem d6_33 : decode method_3_code 33 = .ok (.iload 4, 2) := by decide +kernel
theorem d6_35 : decode method_3_code 35 = .ok (.ifCond .eq 21, 3) := by decide +kernel
theorem d6_38 : decode method_3_code 38 = .ok (.aload_n 0, 1) := by decide +kernel
theorem d6_39 : decode method_3_code 39 = .ok (.iload_n 1, 1) := by decide +kernel
theorem d6_40 : decode method_3_code 40 = .ok (.iconst 1, 1) := by decide +kernel
theorem d6_41 : decode method_3_code 41 = .ok (.isub, 1) := by decide +kernel
theorem d6_42 : decode method_3_code 42 = .ok (.laload, 1) := by decide +kernel
theorem d6_43 : decode method_3_code 43 = .ok (.aload_n 2, 1) := by decide +kernel
theorem d6_44 : decode method_3_code 44 = .ok (.iload_n 3, 1) := by decide +kernel
theorem d6_45 : decode method_3_code 45 = .ok (.iconst 2, 1) := by decide +kernel
theorem d6_46 : decode method_3_code 46 = .ok (.isub, 1) := by decide +kernel
theorem d6_47 : decode method_3_code 47 = .ok (.laload, 1) := by decide +kernel
theorem d6_48 : decode method_3_code 48 = .ok (.lcmp, 1) := by decide +kernel
theorem d6_49 : decode method_3_code 49 = .ok (.ifCond .ne 7, 3) := by decide +kernel
theorem d6_52 : decode method_3_code 52 = .ok (.iconst 1, 1) := by decide +kernel
theorem d6_53 : decode method_3_code 53 = .ok (.goto 4, 3) := by decide +kernel
theorem d6_56 : decode method_3_code 56 = .ok (.iconst 0, 1) := by decide +kernel
theorem d6_57 : decode method_3_code 57 = .ok (.istore 4, 2) := by decide +kernel
theorem d6_59 : decode method_3_code 59 = .ok (.iload_n 3, 1) := by decide +kernel
theorem d6_60 : decode method_3_code 60 = .ok (.iconst 3, 1) := by decide +kernel
theorem d6_61 : decode method_3_code 61 = .ok (.if_icmp .lt 29, 3) := by decide +kernel
theorem d6_64 : decode method_3_code 64 = .ok (.iload 4, 2) := by decide +kernel
theorem d6_66 : decode method_3_code 66 = .ok (.ifCond .eq 21, 3) := by decide +kernel
theorem d6_69 : decode method_3_code 69 = .ok (.aload_n 0, 1) := by decide +kernel
theorem d6_70 : decode method_3_code 70 = .ok (.iload_n 1, 1) := by decide +kernel
theorem d6_71 : decode method_3_code 71 = .ok (.iconst 2, 1) := by decide +kernel
theorem d6_72 : decode method_3_code 72 = .ok (.isub, 1) := by decide +kernel
theorem d6_73 : decode method_3_code 73 = .ok (.laload, 1) := by decide +kernel
theorem d6_74 : decode method_3_code 74 = .ok (.aload_n 2, 1) := by decide +kernel
theorem d6_75 : decode method_3_code 75 = .ok (.iload_n 3, 1) := by decide +kernel
theorem d6_76 : decode method_3_code 76 = .ok (.iconst 3, 1) := by decide +kernel
theorem d6_77 : decode method_3_code 77 = .ok (.isub, 1) := by decide +kernel
theorem d6_78 : decode method_3_code 78 = .ok (.laload, 1) := by decide +kernel
theorem d6_79 : decode method_3_code 79 = .ok (.lcmp, 1) := by decide +kernel
theorem d6_80 : decode method_3_code 80 = .ok (.ifCond .ne 7, 3) := by decide +kernel
theorem d6_83 : decode method_3_code 83 = .ok (.iconst 1, 1) := by decide +kernel
theorem d6_84 : decode method_3_code 84 = .ok (.goto 4, 3) := by decide +kernel
theorem d6_87 : decode method_3_code 87 = .ok (.iconst 0, 1) := by decide +kernel
theorem d6_88 : decode method_3_code 88 = .ok (.istore 4, 2) := by decide +kernel
theorem d6_90 : decode method_3_code 90 = .ok (.iload_n 3, 1) := by decide +kernel
theorem d6_91 : decode method_3_code 91 = .ok (.iconst 4, 1) := by decide +kernel
theorem d6_92 : decode method_3_code 92 = .ok (.if_icmp .lt 29, 3) := by decide +kernel
theorem d6_95 : decode method_3_code 95 = .ok (.iload 4, 2) := by decide +kernel
theorem d6_97 : decode method_3_code 97 = .ok (.ifCond .eq 21, 3) := by decide +kernel
theorem d6_100 : decode method_3_code 100 = .ok (.aload_n 0, 1) := by decide +kernel
theorem d6_101 : decode method_3_code 101 = .ok (.iload_n 1, 1) := by decide +kernel
theorem d6_102 : decode method_3_code 102 = .ok (.iconst 3, 1) := by decide +kernel
theorem d6_103 : decode method_3_code 103 = .ok (.isub, 1) := by decide +kernel
theorem d6_104 : decode method_3_code 104 = .ok (.laload, 1) := by decide +kernel
theorem d6_105 : decode method_3_code 105 = .ok (.aload_n 2, 1) := by decide +kernel
theorem d6_106 : decode method_3_code 106 = .ok (.iload_n 3, 1) := by decide +kernel
theorem d6_107 : decode method_3_code 107 = .ok (.iconst 4, 1) := by decide +kernel
theorem d6_108 : decode method_3_code 108 = .ok (.isub, 1) := by decide +kernel
theorem d6_109 : decode method_3_code 109 = .ok (.laload, 1) := by decide +kernel
theorem d6_110 : decode method_3_code 110 = .ok (.lcmp, 1) := by decide +kernel
theorem d6_111 : decode method_3_code 111 = .ok (.ifCond .ne 7, 3) := by decide +kernel
theorem d6_114 : decode method_3_code 114 = .ok (.iconst 1, 1) := by decide +kernel
theorem d6_115 : decode method_3_code 115 = .ok (.goto 4, 3) := by decide +kernel
theorem d6_118 : decode method_3_code 118 = .ok (.iconst 0, 1) := by decide +kernel
theorem d6_119 : decode method_3_code 119 = .ok (.istore 4, 2) := by decide +kernel
theorem d6_121 : decode method_3_code 121 = .ok (.iload 4, 2) := by decide +kernel
theorem d6_123 : decode method_3_code 123 = .ok (.ireturn, 1) := by decide +kernel
theorem pn_6 : plainName "com/example/sarana/sarana/functions/collation/MatchedPrefixReadPinLaw" = true := by first | (simp [plainName, overriddenIn]; done) | decide +kernel
theorem ef_6 (m : MethodId) (a0 : Addr) (p1 : Int32) (a2 : Addr) (p3 : Int32) : entryFrame m #[(.ref a0), (.int p1), (.ref a2), (.int p3)] 5 = mkF m 0 #[.val (.ref a0), .val (.int p1), .val (.ref a2), .val (.int p3), .unset] [] := by first | (simp [entryFrame, mkF, argsToLocals, Value.category]; done) | rfl
set_option maxRecDepth 65536 in
set_option maxHeartbeats 40000000 in
theorem rm6 (l : Launch) (Z : State) (a0 : Array Value) (hw : ∀ d ∈ tables_1, d.before a0 Z = true) (ws : List Jvm.Cond) (c' a : Addr) (i mm : Nat) (hi : i < 6) (hm1 : 1 ≤ mm) (hm4 : mm ≤ 4) (P t : Nat → Int64) (h0 : Heap) (Vt : OFn Z h0 c' .long 6 (fun j => .long (t j))) (Va : OFn Z h0 a .long mm (fun j => .long (P j))) :
    MetFree l (⟨"com/example/sarana/sarana/functions/collation/MatchedPrefixReadPinLaw", "ends", "([JI[JI)Z"⟩ : MethodName) (head1 (Jvm.Cond.code (⟨"com/example/sarana/sarana/functions/collation/MatchedPrefixReadPinLaw", "ends", "([JI[JI)Z"⟩ : MethodName) method_3_code 5 (some .boolean) :: ws) ({ frames := 0, cells := 0, slots := 0, locals := 0 } : Room)) (fun a_ U => a_ = #[(.ref c'), (.int (Int32.ofNat i)), (.ref a), (.int (Int32.ofNat mm))] ∧ Z.Warmed39 U.vm ∧ U.heap = h0) (fun _ _ _ _ _ => True) (fun _ U o_ U' => ∃ v L, o_ = .returned v ∧ OQ (fun v h L => (∃ r : Int32, v = some (.int r) ∧ ((r = 1 ∧ Mt P t (i + 1) mm) ∨ (r = 0 ∧ ¬ Mt P t (i + 1) mm))) ∧ h = h0 ∧ L = []) v U'.heap L ∧ FrameEnd U o_ U' L ({ frames := 0, cells := 0, slots := 0, locals := 0 } : Room).cells ({ frames := 0, cells := 0, slots := 0, locals := 0 } : Room).slots) := by
  refine MetFree.of_bodySF (plainFor_of_name pn_6) hisR ?_
  intro p e s m args below meth c s₁ Bd hml0 hP hK
  obtain ⟨rfl, hZ, hh⟩ := hP
  have hx := Bd.exec
  have hby := Bd.bytes
  have hml : c.maxLocals = 5 := hml0
  have hown : s.vm.findClass "com/example/sarana/sarana/functions/collation/MatchedPrefixReadPinLaw" = some m.cls := findClass_of_methodNamed Bd.named
  have hnm := (name_of_methodNamed Bd.named Bd.method).1
  have hret := Bd.returns
  have hlk : meth.locks = false := Bd.notSynchronized
  have X0 : Stand p l e ({ frames := 0, cells := 0, slots := 0, locals := 0 } : Room) s m #[(.ref c'), (.int (Int32.ofNat i)), (.ref a), (.int (Int32.ofNat mm))] below meth c s₁ [] 0 0 := Stand.of_body Bd
  have e0 : s₁.heap = h0 := by rw [← hh, Bd.state]; rfl
  refine OFin.start (Q := fun v h L => (∃ r : Int32, v = some (.int r) ∧ ((r = 1 ∧ Mt P t (i + 1) mm) ∨ (r = 0 ∧ ¬ Mt P t (i + 1) mm))) ∧ h = h0 ∧ L = []) (s := s) (fun t kt => castTop (ef_6 m (c') ((Int32.ofNat i)) (a) ((Int32.ofNat mm))) kt) ?_
  obtain rfl | rfl | rfl | rfl : mm = 1 ∨ mm = 2 ∨ mm = 3 ∨ mm = 4 := by omega
  · skip
    refine OFin.to (s₁.setTop (mkF m 1 #[.val (.ref c'), .val (.int (Int32.ofNat i)), .val (.ref a), .val (.int (Int32.ofNat 1)), .unset] [(.int (Int32.ofNat i))])) (fun _ kt => XS.iloadN X0.here hx rfl (hb hby d6_0) rfl kt) ?_
    refine OFin.to (s₁.setTop (mkF m 2 #[.val (.ref c'), .val (.int (Int32.ofNat i)), .val (.ref a), .val (.int (Int32.ofNat 1)), .unset] [(.int (1 : Int32)), (.int (Int32.ofNat i))])) (fun _ kt => XS.iconst X0.here hx rfl (hb hby d6_1) kt) ?_
    refine OFin.to (s₁.setTop (mkF m 3 #[.val (.ref c'), .val (.int (Int32.ofNat i)), .val (.ref a), .val (.int (Int32.ofNat 1)), .unset] [(.int ((Int32.ofNat i) + (1 : Int32)))])) (fun _ kt => XS.iadd X0.here hx rfl (hb hby d6_2) rfl kt) ?_
    rw [show Int32.ofNat i + (1 : Int32) = Int32.ofNat (i + 1) from own_ofAdd i 1]
    refine OFin.to (s₁.setTop (mkF m 4 #[.val (.ref c'), .val (.int (Int32.ofNat i)), .val (.ref a), .val (.int (Int32.ofNat 1)), .unset] [(.int (Int32.ofNat 1)), (.int (Int32.ofNat (i + 1)))])) (fun _ kt => XS.iloadN X0.here hx rfl (hb hby d6_3) rfl kt) ?_
    by_cases him : i + 1 < 1
    case pos =>
      refine OFin.to (s₁.setTop (mkF m 7 #[.val (.ref c'), .val (.int (Int32.ofNat i)), .val (.ref a), .val (.int (Int32.ofNat 1)), .unset] [])) (fun _ kt => XS.icmpNo X0.here hx rfl (hb hby d6_4) rfl (XT.ii_ge_f ((own_ofLt (i + 1) 1 (by omega) (by decide)).mpr him)) kt) ?_
      refine OFin.to (s₁.setTop (mkF m 8 #[.val (.ref c'), .val (.int (Int32.ofNat i)), .val (.ref a), .val (.int (Int32.ofNat 1)), .unset] [(.int (0 : Int32))])) (fun _ kt => XS.iconst X0.here hx rfl (hb hby d6_7) kt) ?_
      exact OFin.retZ X0 hx (t := .boolean) hret (by simp) hlk (hb hby d6_8) (Nat.zero_le _) (Nat.zero_le _) ⟨⟨0, by rw [own_nar0], Or.inr ⟨rfl, fun q => absurd q.1 (by omega)⟩⟩, e0, rfl⟩
    refine OFin.to (s₁.setTop (mkF m 9 #[.val (.ref c'), .val (.int (Int32.ofNat i)), .val (.ref a), .val (.int (Int32.ofNat 1)), .unset] [])) (fun _ kt => XS.icmpYes X0.here hx rfl (pc0 := 4) (pc' := 9) rfl (hb hby d6_4) rfl (XT.ii_ge_t (fun q => him ((own_ofLt (i + 1) 1 (by omega) (by decide)).mp q))) (by decide) (by decide) kt) ?_
    refine OFin.to (s₁.setTop (mkF m 10 #[.val (.ref c'), .val (.int (Int32.ofNat i)), .val (.ref a), .val (.int (Int32.ofNat 1)), .unset] [(.ref c')])) (fun _ kt => XS.aloadN X0.here hx rfl (hb hby d6_9) rfl rfl kt) ?_
    refine OFin.to (s₁.setTop (mkF m 11 #[.val (.ref c'), .val (.int (Int32.ofNat i)), .val (.ref a), .val (.int (Int32.ofNat 1)), .unset] [(.int (Int32.ofNat i)), (.ref c')])) (fun _ kt => XS.iloadN X0.here hx rfl (hb hby d6_10) rfl kt) ?_
    refine OFin.to (s₁.setTop (mkF m 12 #[.val (.ref c'), .val (.int (Int32.ofNat i)), .val (.ref a), .val (.int (Int32.ofNat 1)), .unset] [(.long (t i))])) (fun _ kt => own_ldJ X0 hx hZ e0 Vt (j := (Int32.ofNat i)) (own_ix (i) (by omega)).1 (by rw [(own_ix (i) (by omega)).2, own_rat _ (by omega)]) (g := (mkF m 11 #[.val (.ref c'), .val (.int (Int32.ofNat i)), .val (.ref a), .val (.int (Int32.ofNat 1)), .unset] [(.int (Int32.ofNat i)), (.ref c')])) rfl rfl (hb hby d6_11) _ kt) ?_
    refine OFin.to (s₁.setTop (mkF m 13 #[.val (.ref c'), .val (.int (Int32.ofNat i)), .val (.ref a), .val (.int (Int32.ofNat 1)), .unset] [(.ref a), (.long (t i))])) (fun _ kt => XS.aloadN X0.here hx rfl (hb hby d6_12) rfl rfl kt) ?_
    refine OFin.to (s₁.setTop (mkF m 14 #[.val (.ref c'), .val (.int (Int32.ofNat i)), .val (.ref a), .val (.int (Int32.ofNat 1)), .unset] [(.int (Int32.ofNat 1)), (.ref a), (.long (t i))])) (fun _ kt => XS.iloadN X0.here hx rfl (hb hby d6_13) rfl kt) ?_
    refine OFin.to (s₁.setTop (mkF m 15 #[.val (.ref c'), .val (.int (Int32.ofNat i)), .val (.ref a), .val (.int (Int32.ofNat 1)), .unset] [(.int (1 : Int32)), (.int (Int32.ofNat 1)), (.ref a), (.long (t i))])) (fun _ kt => XS.iconst X0.here hx rfl (hb hby d6_14) kt) ?_
    refine OFin.to (s₁.setTop (mkF m 16 #[.val (.ref c'), .val (.int (Int32.ofNat i)), .val (.ref a), .val (.int (Int32.ofNat 1)), .unset] [(.int ((Int32.ofNat 1) - (1 : Int32))), (.ref a), (.long (t i))])) (fun _ kt => XS.isub X0.here hx rfl (hb hby d6_15) rfl kt) ?_
    rw [show Int32.ofNat 1 - (1 : Int32) = Int32.ofNat 0 from by decide]
    refine OFin.to (s₁.setTop (mkF m 17 #[.val (.ref c'), .val (.int (Int32.ofNat i)), .val (.ref a), .val (.int (Int32.ofNat 1)), .unset] [(.long (P 0)), (.long (t i))])) (fun _ kt => own_ldJ X0 hx hZ e0 Va (j := (Int32.ofNat 0)) (own_ix (0) (by omega)).1 (by rw [(own_ix (0) (by omega)).2, own_rat _ (by decide)]) (g := (mkF m 16 #[.val (.ref c'), .val (.int (Int32.ofNat i)), .val (.ref a), .val (.int (Int32.ofNat 1)), .unset] [(.int (Int32.ofNat 0)), (.ref a), (.long (t i))])) rfl rfl (hb hby d6_16) _ kt) ?_
    refine OFin.to (s₁.setTop (mkF m 18 #[.val (.ref c'), .val (.int (Int32.ofNat i)), .val (.ref a), .val (.int (Int32.ofNat 1)), .unset] [(.int (XT.cmpL (t i) (P 0)))])) (fun _ kt => XT.lcmp X0.here hx rfl (hb hby d6_17) rfl kt) ?_
    by_cases hc0 : (t i) = (P 0)
    case neg =>
      refine OFin.to (s₁.setTop (mkF m 25 #[.val (.ref c'), .val (.int (Int32.ofNat i)), .val (.ref a), .val (.int (Int32.ofNat 1)), .unset] [])) (fun _ kt => XS.ifYes X0.here hx rfl (pc0 := 18) (pc' := 25) rfl (hb hby d6_18) rfl (XT.ll_ne_t hc0) (by decide) (by decide) kt) ?_
      refine OFin.to (s₁.setTop (mkF m 26 #[.val (.ref c'), .val (.int (Int32.ofNat i)), .val (.ref a), .val (.int (Int32.ofNat 1)), .unset] [(.int (0 : Int32))])) (fun _ kt => XS.iconst X0.here hx rfl (hb hby d6_25) kt) ?_
      refine OFin.to (s₁.setTop (mkF m 28 #[.val (.ref c'), .val (.int (Int32.ofNat i)), .val (.ref a), .val (.int (Int32.ofNat 1)), .val (.int (0 : Int32))] [])) (fun _ kt => XS.istore X0.here hx rfl (hb hby d6_26) rfl (l' := #[.val (.ref c'), .val (.int (Int32.ofNat i)), .val (.ref a), .val (.int (Int32.ofNat 1)), .val (.int (0 : Int32))]) rfl kt) ?_
      refine OFin.to (s₁.setTop (mkF m 29 #[.val (.ref c'), .val (.int (Int32.ofNat i)), .val (.ref a), .val (.int (Int32.ofNat 1)), .val (.int (0 : Int32))] [(.int (Int32.ofNat 1))])) (fun _ kt => XS.iloadN X0.here hx rfl (hb hby d6_28) rfl kt) ?_
      refine OFin.to (s₁.setTop (mkF m 30 #[.val (.ref c'), .val (.int (Int32.ofNat i)), .val (.ref a), .val (.int (Int32.ofNat 1)), .val (.int (0 : Int32))] [(.int (2 : Int32)), (.int (Int32.ofNat 1))])) (fun _ kt => XS.iconst X0.here hx rfl (hb hby d6_29) kt) ?_
      refine OFin.to (s₁.setTop (mkF m 59 #[.val (.ref c'), .val (.int (Int32.ofNat i)), .val (.ref a), .val (.int (Int32.ofNat 1)), .val (.int (0 : Int32))] [])) (fun _ kt => XS.icmpYes X0.here hx rfl (pc0 := 30) (pc' := 59) rfl (hb hby d6_30) rfl (XT.ii_lt_t (by decide)) (by decide) (by decide) kt) ?_
      refine OFin.to (s₁.setTop (mkF m 60 #[.val (.ref c'), .val (.int (Int32.ofNat i)), .val (.ref a), .val (.int (Int32.ofNat 1)), .val (.int (0 : Int32))] [(.int (Int32.ofNat 1))])) (fun _ kt => XS.iloadN X0.here hx rfl (hb hby d6_59) rfl kt) ?_
      refine OFin.to (s₁.setTop (mkF m 61 #[.val (.ref c'), .val (.int (Int32.ofNat i)), .val (.ref a), .val (.int (Int32.ofNat 1)), .val (.int (0 : Int32))] [(.int (3 : Int32)), (.int (Int32.ofNat 1))])) (fun _ kt => XS.iconst X0.here hx rfl (hb hby d6_60) kt) ?_
      refine OFin.to (s₁.setTop (mkF m 90 #[.val (.ref c'), .val (.int (Int32.ofNat i)), .val (.ref a), .val (.int (Int32.ofNat 1)), .val (.int (0 : Int32))] [])) (fun _ kt => XS.icmpYes X0.here hx rfl (pc0 := 61) (pc' := 90) rfl (hb hby d6_61) rfl (XT.ii_lt_t (by decide)) (by decide) (by decide) kt) ?_
      refine OFin.to (s₁.setTop (mkF m 91 #[.val (.ref c'), .val (.int (Int32.ofNat i)), .val (.ref a), .val (.int (Int32.ofNat 1)), .val (.int (0 : Int32))] [(.int (Int32.ofNat 1))])) (fun _ kt => XS.iloadN X0.here hx rfl (hb hby d6_90) rfl kt) ?_
      refine OFin.to (s₁.setTop (mkF m 92 #[.val (.ref c'), .val (.int (Int32.ofNat i)), .val (.ref a), .val (.int (Int32.ofNat 1)), .val (.int (0 : Int32))] [(.int (4 : Int32)), (.int (Int32.ofNat 1))])) (fun _ kt => XS.iconst X0.here hx rfl (hb hby d6_91) kt) ?_
      refine OFin.to (s₁.setTop (mkF m 121 #[.val (.ref c'), .val (.int (Int32.ofNat i)), .val (.ref a), .val (.int (Int32.ofNat 1)), .val (.int (0 : Int32))] [])) (fun _ kt => XS.icmpYes X0.here hx rfl (pc0 := 92) (pc' := 121) rfl (hb hby d6_92) rfl (XT.ii_lt_t (by decide)) (by decide) (by decide) kt) ?_
      refine OFin.to (s₁.setTop (mkF m 123 #[.val (.ref c'), .val (.int (Int32.ofNat i)), .val (.ref a), .val (.int (Int32.ofNat 1)), .val (.int (0 : Int32))] [(.int (0 : Int32))])) (fun _ kt => XS.iload X0.here hx rfl (hb hby d6_121) rfl kt) ?_
      exact OFin.retZ X0 hx (t := .boolean) hret (by simp) hlk (hb hby d6_123) (Nat.zero_le _) (Nat.zero_le _) ⟨⟨0, by rw [own_nar0], Or.inr ⟨rfl, fun q => hc0 (by have h := q.2 0 (by decide); rw [show i + 1 - 1 + 0 = i - 0 by omega] at h; exact h.symm)⟩⟩, e0, rfl⟩
    refine OFin.to (s₁.setTop (mkF m 21 #[.val (.ref c'), .val (.int (Int32.ofNat i)), .val (.ref a), .val (.int (Int32.ofNat 1)), .unset] [])) (fun _ kt => XS.ifNo X0.here hx rfl (hb hby d6_18) rfl (XT.ll_ne_f hc0) kt) ?_
    refine OFin.to (s₁.setTop (mkF m 22 #[.val (.ref c'), .val (.int (Int32.ofNat i)), .val (.ref a), .val (.int (Int32.ofNat 1)), .unset] [(.int (1 : Int32))])) (fun _ kt => XS.iconst X0.here hx rfl (hb hby d6_21) kt) ?_
    refine OFin.to (s₁.setTop (mkF m 26 #[.val (.ref c'), .val (.int (Int32.ofNat i)), .val (.ref a), .val (.int (Int32.ofNat 1)), .unset] [(.int (1 : Int32))])) (fun _ kt => XS.goto X0.here hx rfl (pc0 := 22) (pc' := 26) rfl (hb hby d6_22) (by decide) (by decide) kt) ?_
    refine OFin.to (s₁.setTop (mkF m 28 #[.val (.ref c'), .val (.int (Int32.ofNat i)), .val (.ref a), .val (.int (Int32.ofNat 1)), .val (.int (1 : Int32))] [])) (fun _ kt => XS.istore X0.here hx rfl (hb hby d6_26) rfl (l' := #[.val (.ref c'), .val (.int (Int32.ofNat i)), .val (.ref a), .val (.int (Int32.ofNat 1)), .val (.int (1 : Int32))]) rfl kt) ?_
    refine OFin.to (s₁.setTop (mkF m 29 #[.val (.ref c'), .val (.int (Int32.ofNat i)), .val (.ref a), .val (.int (Int32.ofNat 1)), .val (.int (1 : Int32))] [(.int (Int32.ofNat 1))])) (fun _ kt => XS.iloadN X0.here hx rfl (hb hby d6_28) rfl kt) ?_
    refine OFin.to (s₁.setTop (mkF m 30 #[.val (.ref c'), .val (.int (Int32.ofNat i)), .val (.ref a), .val (.int (Int32.ofNat 1)), .val (.int (1 : Int32))] [(.int (2 : Int32)), (.int (Int32.ofNat 1))])) (fun _ kt => XS.iconst X0.here hx rfl (hb hby d6_29) kt) ?_
    refine OFin.to (s₁.setTop (mkF m 59 #[.val (.ref c'), .val (.int (Int32.ofNat i)), .val (.ref a), .val (.int (Int32.ofNat 1)), .val (.int (1 : Int32))] [])) (fun _ kt => XS.icmpYes X0.here hx rfl (pc0 := 30) (pc' := 59) rfl (hb hby d6_30) rfl (XT.ii_lt_t (by decide)) (by decide) (by decide) kt) ?_
    refine OFin.to (s₁.setTop (mkF m 60 #[.val (.ref c'), .val (.int (Int32.ofNat i)), .val (.ref a), .val (.int (Int32.ofNat 1)), .val (.int (1 : Int32))] [(.int (Int32.ofNat 1))])) (fun _ kt => XS.iloadN X0.here hx rfl (hb hby d6_59) rfl kt) ?_
    refine OFin.to (s₁.setTop (mkF m 61 #[.val (.ref c'), .val (.int (Int32.ofNat i)), .val (.ref a), .val (.int (Int32.ofNat 1)), .val (.int (1 : Int32))] [(.int (3 : Int32)), (.int (Int32.ofNat 1))])) (fun _ kt => XS.iconst X0.here hx rfl (hb hby d6_60) kt) ?_
    refine OFin.to (s₁.setTop (mkF m 90 #[.val (.ref c'), .val (.int (Int32.ofNat i)), .val (.ref a), .val (.int (Int32.ofNat 1)), .val (.int (1 : Int32))] [])) (fun _ kt => XS.icmpYes X0.here hx rfl (pc0 := 61) (pc' := 90) rfl (hb hby d6_61) rfl (XT.ii_lt_t (by decide)) (by decide) (by decide) kt) ?_
    refine OFin.to (s₁.setTop (mkF m 91 #[.val (.ref c'), .val (.int (Int32.ofNat i)), .val (.ref a), .val (.int (Int32.ofNat 1)), .val (.int (1 : Int32))] [(.int (Int32.ofNat 1))])) (fun _ kt => XS.iloadN X0.here hx rfl (hb hby d6_90) rfl kt) ?_
    refine OFin.to (s₁.setTop (mkF m 92 #[.val (.ref c'), .val (.int (Int32.ofNat i)), .val (.ref a), .val (.int (Int32.ofNat 1)), .val (.int (1 : Int32))] [(.int (4 : Int32)), (.int (Int32.ofNat 1))])) (fun _ kt => XS.iconst X0.here hx rfl (hb hby d6_91) kt) ?_
    refine OFin.to (s₁.setTop (mkF m 121 #[.val (.ref c'), .val (.int (Int32.ofNat i)), .val (.ref a), .val (.int (Int32.ofNat 1)), .val (.int (1 : Int32))] [])) (fun _ kt => XS.icmpYes X0.here hx rfl (pc0 := 92) (pc' := 121) rfl (hb hby d6_92) rfl (XT.ii_lt_t (by decide)) (by decide) (by decide) kt) ?_
    refine OFin.to (s₁.setTop (mkF m 123 #[.val (.ref c'), .val (.int (Int32.ofNat i)), .val (.ref a), .val (.int (Int32.ofNat 1)), .val (.int (1 : Int32))] [(.int (1 : Int32))])) (fun _ kt => XS.iload X0.here hx rfl (hb hby d6_121) rfl kt) ?_
    have hM : Mt P t (i + 1) 1 := ⟨by omega, fun x hx => by
        obtain rfl : x = 0 := by omega
        · rw [show i + 1 - 1 + 0 = i by omega]; exact hc0.symm⟩
    exact OFin.retZ X0 hx (t := .boolean) hret (by simp) hlk (hb hby d6_123) (Nat.zero_le _) (Nat.zero_le _) ⟨⟨1, by rw [own_nar1], Or.inl ⟨rfl, hM⟩⟩, e0, rfl⟩
  · skip
    refine OFin.to (s₁.setTop (mkF m 1 #[.val (.ref c'), .val (.int (Int32.ofNat i)), .val (.ref a), .val (.int (Int32.ofNat 2)), .unset] [(.int (Int32.ofNat i))])) (fun _ kt => XS.iloadN X0.here hx rfl (hb hby d6_0) rfl kt) ?_
    refine OFin.to (s₁.setTop (mkF m 2 #[.val (.ref c'), .val (.int (Int32.ofNat i)), .val (.ref a), .val (.int (Int32.ofNat 2)), .unset] [(.int (1 : Int32)), (.int (Int32.ofNat i))])) (fun _ kt => XS.iconst X0.here hx rfl (hb hby d6_1) kt) ?_
    refine OFin.to (s₁.setTop (mkF m 3 #[.val (.ref c'), .val (.int (Int32.ofNat i)), .val (.ref a), .val (.int (Int32.ofNat 2)), .unset] [(.int ((Int32.ofNat i) + (1 : Int32)))])) (fun _ kt => XS.iadd X0.here hx rfl (hb hby d6_2) rfl kt) ?_
    rw [show Int32.ofNat i + (1 : Int32) = Int32.ofNat (i + 1) from own_ofAdd i 1]
    refine OFin.to (s₁.setTop (mkF m 4 #[.val (.ref c'), .val (.int (Int32.ofNat i)), .val (.ref a), .val (.int (Int32.ofNat 2)), .unset] [(.int (Int32.ofNat 2)), (.int (Int32.ofNat (i + 1)))])) (fun _ kt => XS.iloadN X0.here hx rfl (hb hby d6_3) rfl kt) ?_
    by_cases him : i + 1 < 2
    case pos =>
      refine OFin.to (s₁.setTop (mkF m 7 #[.val (.ref c'), .val (.int (Int32.ofNat i)), .val (.ref a), .val (.int (Int32.ofNat 2)), .unset] [])) (fun _ kt => XS.icmpNo X0.here hx rfl (hb hby d6_4) rfl (XT.ii_ge_f ((own_ofLt (i + 1) 2 (by omega) (by decide)).mpr him)) kt) ?_
      refine OFin.to (s₁.setTop (mkF m 8 #[.val (.ref c'), .val (.int (Int32.ofNat i)), .val (.ref a), .val (.int (Int32.ofNat 2)), .unset] [(.int (0 : Int32))])) (fun _ kt => XS.iconst X0.here hx rfl (hb hby d6_7) kt) ?_
      exact OFin.retZ X0 hx (t := .boolean) hret (by simp) hlk (hb hby d6_8) (Nat.zero_le _) (Nat.zero_le _) ⟨⟨0, by rw [own_nar0], Or.inr ⟨rfl, fun q => absurd q.1 (by omega)⟩⟩, e0, rfl⟩
    refine OFin.to (s₁.setTop (mkF m 9 #[.val (.ref c'), .val (.int (Int32.ofNat i)), .val (.ref a), .val (.int (Int32.ofNat 2)), .unset] [])) (fun _ kt => XS.icmpYes X0.here hx rfl (pc0 := 4) (pc' := 9) rfl (hb hby d6_4) rfl (XT.ii_ge_t (fun q => him ((own_ofLt (i + 1) 2 (by omega) (by decide)).mp q))) (by decide) (by decide) kt) ?_
    refine OFin.to (s₁.setTop (mkF m 10 #[.val (.ref c'), .val (.int (Int32.ofNat i)), .val (.ref a), .val (.int (Int32.ofNat 2)), .unset] [(.ref c')])) (fun _ kt => XS.aloadN X0.here hx rfl (hb hby d6_9) rfl rfl kt) ?_
    refine OFin.to (s₁.setTop (mkF m 11 #[.val (.ref c'), .val (.int (Int32.ofNat i)), .val (.ref a), .val (.int (Int32.ofNat 2)), .unset] [(.int (Int32.ofNat i)), (.ref c')])) (fun _ kt => XS.iloadN X0.here hx rfl (hb hby d6_10) rfl kt) ?_
    refine OFin.to (s₁.setTop (mkF m 12 #[.val (.ref c'), .val (.int (Int32.ofNat i)), .val (.ref a), .val (.int (Int32.ofNat 2)), .unset] [(.long (t i))])) (fun _ kt => own_ldJ X0 hx hZ e0 Vt (j := (Int32.ofNat i)) (own_ix (i) (by omega)).1 (by rw [(own_ix (i) (by omega)).2, own_rat _ (by omega)]) (g := (mkF m 11 #[.val (.ref c'), .val (.int (Int32.ofNat i)), .val (.ref a), .val (.int (Int32.ofNat 2)), .unset] [(.int (Int32.ofNat i)), (.ref c')])) rfl rfl (hb hby d6_11) _ kt) ?_
    refine OFin.to (s₁.setTop (mkF m 13 #[.val (.ref c'), .val (.int (Int32.ofNat i)), .val (.ref a), .val (.int (Int32.ofNat 2)), .unset] [(.ref a), (.long (t i))])) (fun _ kt => XS.aloadN X0.here hx rfl (hb hby d6_12) rfl rfl kt) ?_
    refine OFin.to (s₁.setTop (mkF m 14 #[.val (.ref c'), .val (.int (Int32.ofNat i)), .val (.ref a), .val (.int (Int32.ofNat 2)), .unset] [(.int (Int32.ofNat 2)), (.ref a), (.long (t i))])) (fun _ kt => XS.iloadN X0.here hx rfl (hb hby d6_13) rfl kt) ?_
    refine OFin.to (s₁.setTop (mkF m 15 #[.val (.ref c'), .val (.int (Int32.ofNat i)), .val (.ref a), .val (.int (Int32.ofNat 2)), .unset] [(.int (1 : Int32)), (.int (Int32.ofNat 2)), (.ref a), (.long (t i))])) (fun _ kt => XS.iconst X0.here hx rfl (hb hby d6_14) kt) ?_
    refine OFin.to (s₁.setTop (mkF m 16 #[.val (.ref c'), .val (.int (Int32.ofNat i)), .val (.ref a), .val (.int (Int32.ofNat 2)), .unset] [(.int ((Int32.ofNat 2) - (1 : Int32))), (.ref a), (.long (t i))])) (fun _ kt => XS.isub X0.here hx rfl (hb hby d6_15) rfl kt) ?_
    rw [show Int32.ofNat 2 - (1 : Int32) = Int32.ofNat 1 from by decide]
    refine OFin.to (s₁.setTop (mkF m 17 #[.val (.ref c'), .val (.int (Int32.ofNat i)), .val (.ref a), .val (.int (Int32.ofNat 2)), .unset] [(.long (P 1)), (.long (t i))])) (fun _ kt => own_ldJ X0 hx hZ e0 Va (j := (Int32.ofNat 1)) (own_ix (1) (by omega)).1 (by rw [(own_ix (1) (by omega)).2, own_rat _ (by decide)]) (g := (mkF m 16 #[.val (.ref c'), .val (.int (Int32.ofNat i)), .val (.ref a), .val (.int (Int32.ofNat 2)), .unset] [(.int (Int32.ofNat 1)), (.ref a), (.long (t i))])) rfl rfl (hb hby d6_16) _ kt) ?_
    refine OFin.to (s₁.setTop (mkF m 18 #[.val (.ref c'), .val (.int (Int32.ofNat i)), .val (.ref a), .val (.int (Int32.ofNat 2)), .unset] [(.int (XT.cmpL (t i) (P 1)))])) (fun _ kt => XT.lcmp X0.here hx rfl (hb hby d6_17) rfl kt) ?_
    by_cases hc0 : (t i) = (P 1)
    case neg =>
      refine OFin.to (s₁.setTop (mkF m 25 #[.val (.ref c'), .val (.int (Int32.ofNat i)), .val (.ref a), .val (.int (Int32.ofNat 2)), .unset] [])) (fun _ kt => XS.ifYes X0.here hx rfl (pc0 := 18) (pc' := 25) rfl (hb hby d6_18) rfl (XT.ll_ne_t hc0) (by decide) (by decide) kt) ?_
      refine OFin.to (s₁.setTop (mkF m 26 #[.val (.ref c'), .val (.int (Int32.ofNat i)), .val (.ref a), .val (.int (Int32.ofNat 2)), .unset] [(.int (0 : Int32))])) (fun _ kt => XS.iconst X0.here hx rfl (hb hby d6_25) kt) ?_
      refine OFin.to (s₁.setTop (mkF m 28 #[.val (.ref c'), .val (.int (Int32.ofNat i)), .val (.ref a), .val (.int (Int32.ofNat 2)), .val (.int (0 : Int32))] [])) (fun _ kt => XS.istore X0.here hx rfl (hb hby d6_26) rfl (l' := #[.val (.ref c'), .val (.int (Int32.ofNat i)), .val (.ref a), .val (.int (Int32.ofNat 2)), .val (.int (0 : Int32))]) rfl kt) ?_
      refine OFin.to (s₁.setTop (mkF m 29 #[.val (.ref c'), .val (.int (Int32.ofNat i)), .val (.ref a), .val (.int (Int32.ofNat 2)), .val (.int (0 : Int32))] [(.int (Int32.ofNat 2))])) (fun _ kt => XS.iloadN X0.here hx rfl (hb hby d6_28) rfl kt) ?_
      refine OFin.to (s₁.setTop (mkF m 30 #[.val (.ref c'), .val (.int (Int32.ofNat i)), .val (.ref a), .val (.int (Int32.ofNat 2)), .val (.int (0 : Int32))] [(.int (2 : Int32)), (.int (Int32.ofNat 2))])) (fun _ kt => XS.iconst X0.here hx rfl (hb hby d6_29) kt) ?_
      refine OFin.to (s₁.setTop (mkF m 33 #[.val (.ref c'), .val (.int (Int32.ofNat i)), .val (.ref a), .val (.int (Int32.ofNat 2)), .val (.int (0 : Int32))] [])) (fun _ kt => XS.icmpNo X0.here hx rfl (hb hby d6_30) rfl (XT.ii_lt_f (by decide)) kt) ?_
      refine OFin.to (s₁.setTop (mkF m 35 #[.val (.ref c'), .val (.int (Int32.ofNat i)), .val (.ref a), .val (.int (Int32.ofNat 2)), .val (.int (0 : Int32))] [(.int (0 : Int32))])) (fun _ kt => XS.iload X0.here hx rfl (hb hby d6_33) rfl kt) ?_
      refine OFin.to (s₁.setTop (mkF m 56 #[.val (.ref c'), .val (.int (Int32.ofNat i)), .val (.ref a), .val (.int (Int32.ofNat 2)), .val (.int (0 : Int32))] [])) (fun _ kt => XS.ifYes X0.here hx rfl (pc0 := 35) (pc' := 56) rfl (hb hby d6_35) rfl (XT.i0_eq_t (by decide)) (by decide) (by decide) kt) ?_
      refine OFin.to (s₁.setTop (mkF m 57 #[.val (.ref c'), .val (.int (Int32.ofNat i)), .val (.ref a), .val (.int (Int32.ofNat 2)), .val (.int (0 : Int32))] [(.int (0 : Int32))])) (fun _ kt => XS.iconst X0.here hx rfl (hb hby d6_56) kt) ?_
      refine OFin.to (s₁.setTop (mkF m 59 #[.val (.ref c'), .val (.int (Int32.ofNat i)), .val (.ref a), .val (.int (Int32.ofNat 2)), .val (.int (0 : Int32))] [])) (fun _ kt => XS.istore X0.here hx rfl (hb hby d6_57) rfl (l' := #[.val (.ref c'), .val (.int (Int32.ofNat i)), .val (.ref a), .val (.int (Int32.ofNat 2)), .val (.int (0 : Int32))]) rfl kt) ?_
      refine OFin.to (s₁.setTop (mkF m 60 #[.val (.ref c'), .val (.int (Int32.ofNat i)), .val (.ref a), .val (.int (Int32.ofNat 2)), .val (.int (0 : Int32))] [(.int (Int32.ofNat 2))])) (fun _ kt => XS.iloadN X0.here hx rfl (hb hby d6_59) rfl kt) ?_
      refine OFin.to (s₁.setTop (mkF m 61 #[.val (.ref c'), .val (.int (Int32.ofNat i)), .val (.ref a), .val (.int (Int32.ofNat 2)), .val (.int (0 : Int32))] [(.int (3 : Int32)), (.int (Int32.ofNat 2))])) (fun _ kt => XS.iconst X0.here hx rfl (hb hby d6_60) kt) ?_
      refine OFin.to (s₁.setTop (mkF m 90 #[.val (.ref c'), .val (.int (Int32.ofNat i)), .val (.ref a), .val (.int (Int32.ofNat 2)), .val (.int (0 : Int32))] [])) (fun _ kt => XS.icmpYes X0.here hx rfl (pc0 := 61) (pc' := 90) rfl (hb hby d6_61) rfl (XT.ii_lt_t (by decide)) (by decide) (by decide) kt) ?_
      refine OFin.to (s₁.setTop (mkF m 91 #[.val (.ref c'), .val (.int (Int32.ofNat i)), .val (.ref a), .val (.int (Int32.ofNat 2)), .val (.int (0 : Int32))] [(.int (Int32.ofNat 2))])) (fun _ kt => XS.iloadN X0.here hx rfl (hb hby d6_90) rfl kt) ?_
      refine OFin.to (s₁.setTop (mkF m 92 #[.val (.ref c'), .val (.int (Int32.ofNat i)), .val (.ref a), .val (.int (Int32.ofNat 2)), .val (.int (0 : Int32))] [(.int (4 : Int32)), (.int (Int32.ofNat 2))])) (fun _ kt => XS.iconst X0.here hx rfl (hb hby d6_91) kt) ?_
      refine OFin.to (s₁.setTop (mkF m 121 #[.val (.ref c'), .val (.int (Int32.ofNat i)), .val (.ref a), .val (.int (Int32.ofNat 2)), .val (.int (0 : Int32))] [])) (fun _ kt => XS.icmpYes X0.here hx rfl (pc0 := 92) (pc' := 121) rfl (hb hby d6_92) rfl (XT.ii_lt_t (by decide)) (by decide) (by decide) kt) ?_
      refine OFin.to (s₁.setTop (mkF m 123 #[.val (.ref c'), .val (.int (Int32.ofNat i)), .val (.ref a), .val (.int (Int32.ofNat 2)), .val (.int (0 : Int32))] [(.int (0 : Int32))])) (fun _ kt => XS.iload X0.here hx rfl (hb hby d6_121) rfl kt) ?_
      exact OFin.retZ X0 hx (t := .boolean) hret (by simp) hlk (hb hby d6_123) (Nat.zero_le _) (Nat.zero_le _) ⟨⟨0, by rw [own_nar0], Or.inr ⟨rfl, fun q => hc0 (by have h := q.2 1 (by decide); rw [show i + 1 - 2 + 1 = i - 0 by omega] at h; exact h.symm)⟩⟩, e0, rfl⟩
    refine OFin.to (s₁.setTop (mkF m 21 #[.val (.ref c'), .val (.int (Int32.ofNat i)), .val (.ref a), .val (.int (Int32.ofNat 2)), .unset] [])) (fun _ kt => XS.ifNo X0.here hx rfl (hb hby d6_18) rfl (XT.ll_ne_f hc0) kt) ?_
    refine OFin.to (s₁.setTop (mkF m 22 #[.val (.ref c'), .val (.int (Int32.ofNat i)), .val (.ref a), .val (.int (Int32.ofNat 2)), .unset] [(.int (1 : Int32))])) (fun _ kt => XS.iconst X0.here hx rfl (hb hby d6_21) kt) ?_
    refine OFin.to (s₁.setTop (mkF m 26 #[.val (.ref c'), .val (.int (Int32.ofNat i)), .val (.ref a), .val (.int (Int32.ofNat 2)), .unset] [(.int (1 : Int32))])) (fun _ kt => XS.goto X0.here hx rfl (pc0 := 22) (pc' := 26) rfl (hb hby d6_22) (by decide) (by decide) kt) ?_
    refine OFin.to (s₁.setTop (mkF m 28 #[.val (.ref c'), .val (.int (Int32.ofNat i)), .val (.ref a), .val (.int (Int32.ofNat 2)), .val (.int (1 : Int32))] [])) (fun _ kt => XS.istore X0.here hx rfl (hb hby d6_26) rfl (l' := #[.val (.ref c'), .val (.int (Int32.ofNat i)), .val (.ref a), .val (.int (Int32.ofNat 2)), .val (.int (1 : Int32))]) rfl kt) ?_
    refine OFin.to (s₁.setTop (mkF m 29 #[.val (.ref c'), .val (.int (Int32.ofNat i)), .val (.ref a), .val (.int (Int32.ofNat 2)), .val (.int (1 : Int32))] [(.int (Int32.ofNat 2))])) (fun _ kt => XS.iloadN X0.here hx rfl (hb hby d6_28) rfl kt) ?_
    refine OFin.to (s₁.setTop (mkF m 30 #[.val (.ref c'), .val (.int (Int32.ofNat i)), .val (.ref a), .val (.int (Int32.ofNat 2)), .val (.int (1 : Int32))] [(.int (2 : Int32)), (.int (Int32.ofNat 2))])) (fun _ kt => XS.iconst X0.here hx rfl (hb hby d6_29) kt) ?_
    refine OFin.to (s₁.setTop (mkF m 33 #[.val (.ref c'), .val (.int (Int32.ofNat i)), .val (.ref a), .val (.int (Int32.ofNat 2)), .val (.int (1 : Int32))] [])) (fun _ kt => XS.icmpNo X0.here hx rfl (hb hby d6_30) rfl (XT.ii_lt_f (by decide)) kt) ?_
    refine OFin.to (s₁.setTop (mkF m 35 #[.val (.ref c'), .val (.int (Int32.ofNat i)), .val (.ref a), .val (.int (Int32.ofNat 2)), .val (.int (1 : Int32))] [(.int (1 : Int32))])) (fun _ kt => XS.iload X0.here hx rfl (hb hby d6_33) rfl kt) ?_
    refine OFin.to (s₁.setTop (mkF m 38 #[.val (.ref c'), .val (.int (Int32.ofNat i)), .val (.ref a), .val (.int (Int32.ofNat 2)), .val (.int (1 : Int32))] [])) (fun _ kt => XS.ifNo X0.here hx rfl (hb hby d6_35) rfl (XT.i0_eq_f (by decide)) kt) ?_
    refine OFin.to (s₁.setTop (mkF m 39 #[.val (.ref c'), .val (.int (Int32.ofNat i)), .val (.ref a), .val (.int (Int32.ofNat 2)), .val (.int (1 : Int32))] [(.ref c')])) (fun _ kt => XS.aloadN X0.here hx rfl (hb hby d6_38) rfl rfl kt) ?_
    refine OFin.to (s₁.setTop (mkF m 40 #[.val (.ref c'), .val (.int (Int32.ofNat i)), .val (.ref a), .val (.int (Int32.ofNat 2)), .val (.int (1 : Int32))] [(.int (Int32.ofNat i)), (.ref c')])) (fun _ kt => XS.iloadN X0.here hx rfl (hb hby d6_39) rfl kt) ?_
    refine OFin.to (s₁.setTop (mkF m 41 #[.val (.ref c'), .val (.int (Int32.ofNat i)), .val (.ref a), .val (.int (Int32.ofNat 2)), .val (.int (1 : Int32))] [(.int (1 : Int32)), (.int (Int32.ofNat i)), (.ref c')])) (fun _ kt => XS.iconst X0.here hx rfl (hb hby d6_40) kt) ?_
    refine OFin.to (s₁.setTop (mkF m 42 #[.val (.ref c'), .val (.int (Int32.ofNat i)), .val (.ref a), .val (.int (Int32.ofNat 2)), .val (.int (1 : Int32))] [(.int ((Int32.ofNat i) - (1 : Int32))), (.ref c')])) (fun _ kt => XS.isub X0.here hx rfl (hb hby d6_41) rfl kt) ?_
    rw [show Int32.ofNat i - (1 : Int32) = Int32.ofNat (i - 1) from own_ofSubN i 1 (by omega) (by omega)]
    refine OFin.to (s₁.setTop (mkF m 43 #[.val (.ref c'), .val (.int (Int32.ofNat i)), .val (.ref a), .val (.int (Int32.ofNat 2)), .val (.int (1 : Int32))] [(.long (t (i - 1)))])) (fun _ kt => own_ldJ X0 hx hZ e0 Vt (j := (Int32.ofNat (i - 1))) (own_ix (i - 1) (by omega)).1 (by rw [(own_ix (i - 1) (by omega)).2, own_rat _ (by omega)]) (g := (mkF m 42 #[.val (.ref c'), .val (.int (Int32.ofNat i)), .val (.ref a), .val (.int (Int32.ofNat 2)), .val (.int (1 : Int32))] [(.int (Int32.ofNat (i - 1))), (.ref c')])) rfl rfl (hb hby d6_42) _ kt) ?_
    refine OFin.to (s₁.setTop (mkF m 44 #[.val (.ref c'), .val (.int (Int32.ofNat i)), .val (.ref a), .val (.int (Int32.ofNat 2)), .val (.int (1 : Int32))] [(.ref a), (.long (t (i - 1)))])) (fun _ kt => XS.aloadN X0.here hx rfl (hb hby d6_43) rfl rfl kt) ?_
    refine OFin.to (s₁.setTop (mkF m 45 #[.val (.ref c'), .val (.int (Int32.ofNat i)), .val (.ref a), .val (.int (Int32.ofNat 2)), .val (.int (1 : Int32))] [(.int (Int32.ofNat 2)), (.ref a), (.long (t (i - 1)))])) (fun _ kt => XS.iloadN X0.here hx rfl (hb hby d6_44) rfl kt) ?_
    refine OFin.to (s₁.setTop (mkF m 46 #[.val (.ref c'), .val (.int (Int32.ofNat i)), .val (.ref a), .val (.int (Int32.ofNat 2)), .val (.int (1 : Int32))] [(.int (2 : Int32)), (.int (Int32.ofNat 2)), (.ref a), (.long (t (i - 1)))])) (fun _ kt => XS.iconst X0.here hx rfl (hb hby d6_45) kt) ?_
    refine OFin.to (s₁.setTop (mkF m 47 #[.val (.ref c'), .val (.int (Int32.ofNat i)), .val (.ref a), .val (.int (Int32.ofNat 2)), .val (.int (1 : Int32))] [(.int ((Int32.ofNat 2) - (2 : Int32))), (.ref a), (.long (t (i - 1)))])) (fun _ kt => XS.isub X0.here hx rfl (hb hby d6_46) rfl kt) ?_
    rw [show Int32.ofNat 2 - (2 : Int32) = Int32.ofNat 0 from by decide]
    refine OFin.to (s₁.setTop (mkF m 48 #[.val (.ref c'), .val (.int (Int32.ofNat i)), .val (.ref a), .val (.int (Int32.ofNat 2)), .val (.int (1 : Int32))] [(.long (P 0)), (.long (t (i - 1)))])) (fun _ kt => own_ldJ X0 hx hZ e0 Va (j := (Int32.ofNat 0)) (own_ix (0) (by omega)).1 (by rw [(own_ix (0) (by omega)).2, own_rat _ (by decide)]) (g := (mkF m 47 #[.val (.ref c'), .val (.int (Int32.ofNat i)), .val (.ref a), .val (.int (Int32.ofNat 2)), .val (.int (1 : Int32))] [(.int (Int32.ofNat 0)), (.ref a), (.long (t (i - 1)))])) rfl rfl (hb hby d6_47) _ kt) ?_
    refine OFin.to (s₁.setTop (mkF m 49 #[.val (.ref c'), .val (.int (Int32.ofNat i)), .val (.ref a), .val (.int (Int32.ofNat 2)), .val (.int (1 : Int32))] [(.int (XT.cmpL (t (i - 1)) (P 0)))])) (fun _ kt => XT.lcmp X0.here hx rfl (hb hby d6_48) rfl kt) ?_
    by_cases hc1 : (t (i - 1)) = (P 0)
    case neg =>
      refine OFin.to (s₁.setTop (mkF m 56 #[.val (.ref c'), .val (.int (Int32.ofNat i)), .val (.ref a), .val (.int (Int32.ofNat 2)), .val (.int (1 : Int32))] [])) (fun _ kt => XS.ifYes X0.here hx rfl (pc0 := 49) (pc' := 56) rfl (hb hby d6_49) rfl (XT.ll_ne_t hc1) (by decide) (by decide) kt) ?_
      refine OFin.to (s₁.setTop (mkF m 57 #[.val (.ref c'), .val (.int (Int32.ofNat i)), .val (.ref a), .val (.int (Int32.ofNat 2)), .val (.int (1 : Int32))] [(.int (0 : Int32))])) (fun _ kt => XS.iconst X0.here hx rfl (hb hby d6_56) kt) ?_
      refine OFin.to (s₁.setTop (mkF m 59 #[.val (.ref c'), .val (.int (Int32.ofNat i)), .val (.ref a), .val (.int (Int32.ofNat 2)), .val (.int (0 : Int32))] [])) (fun _ kt => XS.istore X0.here hx rfl (hb hby d6_57) rfl (l' := #[.val (.ref c'), .val (.int (Int32.ofNat i)), .val (.ref a), .val (.int (Int32.ofNat 2)), .val (.int (0 : Int32))]) rfl kt) ?_
      refine OFin.to (s₁.setTop (mkF m 60 #[.val (.ref c'), .val (.int (Int32.ofNat i)), .val (.ref a), .val (.int (Int32.ofNat 2)), .val (.int (0 : Int32))] [(.int (Int32.ofNat 2))])) (fun _ kt => XS.iloadN X0.here hx rfl (hb hby d6_59) rfl kt) ?_
      refine OFin.to (s₁.setTop (mkF m 61 #[.val (.ref c'), .val (.int (Int32.ofNat i)), .val (.ref a), .val (.int (Int32.ofNat 2)), .val (.int (0 : Int32))] [(.int (3 : Int32)), (.int (Int32.ofNat 2))])) (fun _ kt => XS.iconst X0.here hx rfl (hb hby d6_60) kt) ?_
      refine OFin.to (s₁.setTop (mkF m 90 #[.val (.ref c'), .val (.int (Int32.ofNat i)), .val (.ref a), .val (.int (Int32.ofNat 2)), .val (.int (0 : Int32))] [])) (fun _ kt => XS.icmpYes X0.here hx rfl (pc0 := 61) (pc' := 90) rfl (hb hby d6_61) rfl (XT.ii_lt_t (by decide)) (by decide) (by decide) kt) ?_
      refine OFin.to (s₁.setTop (mkF m 91 #[.val (.ref c'), .val (.int (Int32.ofNat i)), .val (.ref a), .val (.int (Int32.ofNat 2)), .val (.int (0 : Int32))] [(.int (Int32.ofNat 2))])) (fun _ kt => XS.iloadN X0.here hx rfl (hb hby d6_90) rfl kt) ?_
      refine OFin.to (s₁.setTop (mkF m 92 #[.val (.ref c'), .val (.int (Int32.ofNat i)), .val (.ref a), .val (.int (Int32.ofNat 2)), .val (.int (0 : Int32))] [(.int (4 : Int32)), (.int (Int32.ofNat 2))])) (fun _ kt => XS.iconst X0.here hx rfl (hb hby d6_91) kt) ?_
      refine OFin.to (s₁.setTop (mkF m 121 #[.val (.ref c'), .val (.int (Int32.ofNat i)), .val (.ref a), .val (.int (Int32.ofNat 2)), .val (.int (0 : Int32))] [])) (fun _ kt => XS.icmpYes X0.here hx rfl (pc0 := 92) (pc' := 121) rfl (hb hby d6_92) rfl (XT.ii_lt_t (by decide)) (by decide) (by decide) kt) ?_
      refine OFin.to (s₁.setTop (mkF m 123 #[.val (.ref c'), .val (.int (Int32.ofNat i)), .val (.ref a), .val (.int (Int32.ofNat 2)), .val (.int (0 : Int32))] [(.int (0 : Int32))])) (fun _ kt => XS.iload X0.here hx rfl (hb hby d6_121) rfl kt) ?_
      exact OFin.retZ X0 hx (t := .boolean) hret (by simp) hlk (hb hby d6_123) (Nat.zero_le _) (Nat.zero_le _) ⟨⟨0, by rw [own_nar0], Or.inr ⟨rfl, fun q => hc1 (by have h := q.2 0 (by decide); rw [show i + 1 - 2 + 0 = i - 1 by omega] at h; exact h.symm)⟩⟩, e0, rfl⟩
    refine OFin.to (s₁.setTop (mkF m 52 #[.val (.ref c'), .val (.int (Int32.ofNat i)), .val (.ref a), .val (.int (Int32.ofNat 2)), .val (.int (1 : Int32))] [])) (fun _ kt => XS.ifNo X0.here hx rfl (hb hby d6_49) rfl (XT.ll_ne_f hc1) kt) ?_
    refine OFin.to (s₁.setTop (mkF m 53 #[.val (.ref c'), .val (.int (Int32.ofNat i)), .val (.ref a), .val (.int (Int32.ofNat 2)), .val (.int (1 : Int32))] [(.int (1 : Int32))])) (fun _ kt => XS.iconst X0.here hx rfl (hb hby d6_52) kt) ?_
    refine OFin.to (s₁.setTop (mkF m 57 #[.val (.ref c'), .val (.int (Int32.ofNat i)), .val (.ref a), .val (.int (Int32.ofNat 2)), .val (.int (1 : Int32))] [(.int (1 : Int32))])) (fun _ kt => XS.goto X0.here hx rfl (pc0 := 53) (pc' := 57) rfl (hb hby d6_53) (by decide) (by decide) kt) ?_
    refine OFin.to (s₁.setTop (mkF m 59 #[.val (.ref c'), .val (.int (Int32.ofNat i)), .val (.ref a), .val (.int (Int32.ofNat 2)), .val (.int (1 : Int32))] [])) (fun _ kt => XS.istore X0.here hx rfl (hb hby d6_57) rfl (l' := #[.val (.ref c'), .val (.int (Int32.ofNat i)), .val (.ref a), .val (.int (Int32.ofNat 2)), .val (.int (1 : Int32))]) rfl kt) ?_
    refine OFin.to (s₁.setTop (mkF m 60 #[.val (.ref c'), .val (.int (Int32.ofNat i)), .val (.ref a), .val (.int (Int32.ofNat 2)), .val (.int (1 : Int32))] [(.int (Int32.ofNat 2))])) (fun _ kt => XS.iloadN X0.here hx rfl (hb hby d6_59) rfl kt) ?_
    refine OFin.to (s₁.setTop (mkF m 61 #[.val (.ref c'), .val (.int (Int32.ofNat i)), .val (.ref a), .val (.int (Int32.ofNat 2)), .val (.int (1 : Int32))] [(.int (3 : Int32)), (.int (Int32.ofNat 2))])) (fun _ kt => XS.iconst X0.here hx rfl (hb hby d6_60) kt) ?_
    refine OFin.to (s₁.setTop (mkF m 90 #[.val (.ref c'), .val (.int (Int32.ofNat i)), .val (.ref a), .val (.int (Int32.ofNat 2)), .val (.int (1 : Int32))] [])) (fun _ kt => XS.icmpYes X0.here hx rfl (pc0 := 61) (pc' := 90) rfl (hb hby d6_61) rfl (XT.ii_lt_t (by decide)) (by decide) (by decide) kt) ?_
    refine OFin.to (s₁.setTop (mkF m 91 #[.val (.ref c'), .val (.int (Int32.ofNat i)), .val (.ref a), .val (.int (Int32.ofNat 2)), .val (.int (1 : Int32))] [(.int (Int32.ofNat 2))])) (fun _ kt => XS.iloadN X0.here hx rfl (hb hby d6_90) rfl kt) ?_
    refine OFin.to (s₁.setTop (mkF m 92 #[.val (.ref c'), .val (.int (Int32.ofNat i)), .val (.ref a), .val (.int (Int32.ofNat 2)), .val (.int (1 : Int32))] [(.int (4 : Int32)), (.int (Int32.ofNat 2))])) (fun _ kt => XS.iconst X0.here hx rfl (hb hby d6_91) kt) ?_
    refine OFin.to (s₁.setTop (mkF m 121 #[.val (.ref c'), .val (.int (Int32.ofNat i)), .val (.ref a), .val (.int (Int32.ofNat 2)), .val (.int (1 : Int32))] [])) (fun _ kt => XS.icmpYes X0.here hx rfl (pc0 := 92) (pc' := 121) rfl (hb hby d6_92) rfl (XT.ii_lt_t (by decide)) (by decide) (by decide) kt) ?_
    refine OFin.to (s₁.setTop (mkF m 123 #[.val (.ref c'), .val (.int (Int32.ofNat i)), .val (.ref a), .val (.int (Int32.ofNat 2)), .val (.int (1 : Int32))] [(.int (1 : Int32))])) (fun _ kt => XS.iload X0.here hx rfl (hb hby d6_121) rfl kt) ?_
    have hM : Mt P t (i + 1) 2 := ⟨by omega, fun x hx => by
        obtain rfl | rfl : x = 0 ∨ x = 1 := by omega
        · rw [show i + 1 - 2 + 0 = i - 1 by omega]; exact hc1.symm
        · rw [show i + 1 - 2 + 1 = i by omega]; exact hc0.symm⟩
    exact OFin.retZ X0 hx (t := .boolean) hret (by simp) hlk (hb hby d6_123) (Nat.zero_le _) (Nat.zero_le _) ⟨⟨1, by rw [own_nar1], Or.inl ⟨rfl, hM⟩⟩, e0, rfl⟩
  · skip
    refine OFin.to (s₁.setTop (mkF m 1 #[.val (.ref c'), .val (.int (Int32.ofNat i)), .val (.ref a), .val (.int (Int32.ofNat 3)), .unset] [(.int (Int32.ofNat i))])) (fun _ kt => XS.iloadN X0.here hx rfl (hb hby d6_0) rfl kt) ?_
    refine OFin.to (s₁.setTop (mkF m 2 #[.val (.ref c'), .val (.int (Int32.ofNat i)), .val (.ref a), .val (.int (Int32.ofNat 3)), .unset] [(.int (1 : Int32)), (.int (Int32.ofNat i))])) (fun _ kt => XS.iconst X0.here hx rfl (hb hby d6_1) kt) ?_
    refine OFin.to (s₁.setTop (mkF m 3 #[.val (.ref c'), .val (.int (Int32.ofNat i)), .val (.ref a), .val (.int (Int32.ofNat 3)), .unset] [(.int ((Int32.ofNat i) + (1 : Int32)))])) (fun _ kt => XS.iadd X0.here hx rfl (hb hby d6_2) rfl kt) ?_
    rw [show Int32.ofNat i + (1 : Int32) = Int32.ofNat (i + 1) from own_ofAdd i 1]
    refine OFin.to (s₁.setTop (mkF m 4 #[.val (.ref c'), .val (.int (Int32.ofNat i)), .val (.ref a), .val (.int (Int32.ofNat 3)), .unset] [(.int (Int32.ofNat 3)), (.int (Int32.ofNat (i + 1)))])) (fun _ kt => XS.iloadN X0.here hx rfl (hb hby d6_3) rfl kt) ?_
    by_cases him : i + 1 < 3
    case pos =>
      refine OFin.to (s₁.setTop (mkF m 7 #[.val (.ref c'), .val (.int (Int32.ofNat i)), .val (.ref a), .val (.int (Int32.ofNat 3)), .unset] [])) (fun _ kt => XS.icmpNo X0.here hx rfl (hb hby d6_4) rfl (XT.ii_ge_f ((own_ofLt (i + 1) 3 (by omega) (by decide)).mpr him)) kt) ?_
      refine OFin.to (s₁.setTop (mkF m 8 #[.val (.ref c'), .val (.int (Int32.ofNat i)), .val (.ref a), .val (.int (Int32.ofNat 3)), .unset] [(.int (0 : Int32))])) (fun _ kt => XS.iconst X0.here hx rfl (hb hby d6_7) kt) ?_
      exact OFin.retZ X0 hx (t := .boolean) hret (by simp) hlk (hb hby d6_8) (Nat.zero_le _) (Nat.zero_le _) ⟨⟨0, by rw [own_nar0], Or.inr ⟨rfl, fun q => absurd q.1 (by omega)⟩⟩, e0, rfl⟩
    refine OFin.to (s₁.setTop (mkF m 9 #[.val (.ref c'), .val (.int (Int32.ofNat i)), .val (.ref a), .val (.int (Int32.ofNat 3)), .unset] [])) (fun _ kt => XS.icmpYes X0.here hx rfl (pc0 := 4) (pc' := 9) rfl (hb hby d6_4) rfl (XT.ii_ge_t (fun q => him ((own_ofLt (i + 1) 3 (by omega) (by decide)).mp q))) (by decide) (by decide) kt) ?_
    refine OFin.to (s₁.setTop (mkF m 10 #[.val (.ref c'), .val (.int (Int32.ofNat i)), .val (.ref a), .val (.int (Int32.ofNat 3)), .unset] [(.ref c')])) (fun _ kt => XS.aloadN X0.here hx rfl (hb hby d6_9) rfl rfl kt) ?_
    refine OFin.to (s₁.setTop (mkF m 11 #[.val (.ref c'), .val (.int (Int32.ofNat i)), .val (.ref a), .val (.int (Int32.ofNat 3)), .unset] [(.int (Int32.ofNat i)), (.ref c')])) (fun _ kt => XS.iloadN X0.here hx rfl (hb hby d6_10) rfl kt) ?_
    refine OFin.to (s₁.setTop (mkF m 12 #[.val (.ref c'), .val (.int (Int32.ofNat i)), .val (.ref a), .val (.int (Int32.ofNat 3)), .unset] [(.long (t i))])) (fun _ kt => own_ldJ X0 hx hZ e0 Vt (j := (Int32.ofNat i)) (own_ix (i) (by omega)).1 (by rw [(own_ix (i) (by omega)).2, own_rat _ (by omega)]) (g := (mkF m 11 #[.val (.ref c'), .val (.int (Int32.ofNat i)), .val (.ref a), .val (.int (Int32.ofNat 3)), .unset] [(.int (Int32.ofNat i)), (.ref c')])) rfl rfl (hb hby d6_11) _ kt) ?_
    refine OFin.to (s₁.setTop (mkF m 13 #[.val (.ref c'), .val (.int (Int32.ofNat i)), .val (.ref a), .val (.int (Int32.ofNat 3)), .unset] [(.ref a), (.long (t i))])) (fun _ kt => XS.aloadN X0.here hx rfl (hb hby d6_12) rfl rfl kt) ?_
    refine OFin.to (s₁.setTop (mkF m 14 #[.val (.ref c'), .val (.int (Int32.ofNat i)), .val (.ref a), .val (.int (Int32.ofNat 3)), .unset] [(.int (Int32.ofNat 3)), (.ref a), (.long (t i))])) (fun _ kt => XS.iloadN X0.here hx rfl (hb hby d6_13) rfl kt) ?_
    refine OFin.to (s₁.setTop (mkF m 15 #[.val (.ref c'), .val (.int (Int32.ofNat i)), .val (.ref a), .val (.int (Int32.ofNat 3)), .unset] [(.int (1 : Int32)), (.int (Int32.ofNat 3)), (.ref a), (.long (t i))])) (fun _ kt => XS.iconst X0.here hx rfl (hb hby d6_14) kt) ?_
    refine OFin.to (s₁.setTop (mkF m 16 #[.val (.ref c'), .val (.int (Int32.ofNat i)), .val (.ref a), .val (.int (Int32.ofNat 3)), .unset] [(.int ((Int32.ofNat 3) - (1 : Int32))), (.ref a), (.long (t i))])) (fun _ kt => XS.isub X0.here hx rfl (hb hby d6_15) rfl kt) ?_
    rw [show Int32.ofNat 3 - (1 : Int32) = Int32.ofNat 2 from by decide]
    refine OFin.to (s₁.setTop (mkF m 17 #[.val (.ref c'), .val (.int (Int32.ofNat i)), .val (.ref a), .val (.int (Int32.ofNat 3)), .unset] [(.long (P 2)), (.long (t i))])) (fun _ kt => own_ldJ X0 hx hZ e0 Va (j := (Int32.ofNat 2)) (own_ix (2) (by omega)).1 (by rw [(own_ix (2) (by omega)).2, own_rat _ (by decide)]) (g := (mkF m 16 #[.val (.ref c'), .val (.int (Int32.ofNat i)), .val (.ref a), .val (.int (Int32.ofNat 3)), .unset] [(.int (Int32.ofNat 2)), (.ref a), (.long (t i))])) rfl rfl (hb hby d6_16) _ kt) ?_
    refine OFin.to (s₁.setTop (mkF m 18 #[.val (.ref c'), .val (.int (Int32.ofNat i)), .val (.ref a), .val (.int (Int32.ofNat 3)), .unset] [(.int (XT.cmpL (t i) (P 2)))])) (fun _ kt => XT.lcmp X0.here hx rfl (hb hby d6_17) rfl kt) ?_
    by_cases hc0 : (t i) = (P 2)
    case neg =>
      refine OFin.to (s₁.setTop (mkF m 25 #[.val (.ref c'), .val (.int (Int32.ofNat i)), .val (.ref a), .val (.int (Int32.ofNat 3)), .unset] [])) (fun _ kt => XS.ifYes X0.here hx rfl (pc0 := 18) (pc' := 25) rfl (hb hby d6_18) rfl (XT.ll_ne_t hc0) (by decide) (by decide) kt) ?_
      refine OFin.to (s₁.setTop (mkF m 26 #[.val (.ref c'), .val (.int (Int32.ofNat i)), .val (.ref a), .val (.int (Int32.ofNat 3)), .unset] [(.int (0 : Int32))])) (fun _ kt => XS.iconst X0.here hx rfl (hb hby d6_25) kt) ?_
      refine OFin.to (s₁.setTop (mkF m 28 #[.val (.ref c'), .val (.int (Int32.ofNat i)), .val (.ref a), .val (.int (Int32.ofNat 3)), .val (.int (0 : Int32))] [])) (fun _ kt => XS.istore X0.here hx rfl (hb hby d6_26) rfl (l' := #[.val (.ref c'), .val (.int (Int32.ofNat i)), .val (.ref a), .val (.int (Int32.ofNat 3)), .val (.int (0 : Int32))]) rfl kt) ?_
      refine OFin.to (s₁.setTop (mkF m 29 #[.val (.ref c'), .val (.int (Int32.ofNat i)), .val (.ref a), .val (.int (Int32.ofNat 3)), .val (.int (0 : Int32))] [(.int (Int32.ofNat 3))])) (fun _ kt => XS.iloadN X0.here hx rfl (hb hby d6_28) rfl kt) ?_
      refine OFin.to (s₁.setTop (mkF m 30 #[.val (.ref c'), .val (.int (Int32.ofNat i)), .val (.ref a), .val (.int (Int32.ofNat 3)), .val (.int (0 : Int32))] [(.int (2 : Int32)), (.int (Int32.ofNat 3))])) (fun _ kt => XS.iconst X0.here hx rfl (hb hby d6_29) kt) ?_
      refine OFin.to (s₁.setTop (mkF m 33 #[.val (.ref c'), .val (.int (Int32.ofNat i)), .val (.ref a), .val (.int (Int32.ofNat 3)), .val (.int (0 : Int32))] [])) (fun _ kt => XS.icmpNo X0.here hx rfl (hb hby d6_30) rfl (XT.ii_lt_f (by decide)) kt) ?_
      refine OFin.to (s₁.setTop (mkF m 35 #[.val (.ref c'), .val (.int (Int32.ofNat i)), .val (.ref a), .val (.int (Int32.ofNat 3)), .val (.int (0 : Int32))] [(.int (0 : Int32))])) (fun _ kt => XS.iload X0.here hx rfl (hb hby d6_33) rfl kt) ?_
      refine OFin.to (s₁.setTop (mkF m 56 #[.val (.ref c'), .val (.int (Int32.ofNat i)), .val (.ref a), .val (.int (Int32.ofNat 3)), .val (.int (0 : Int32))] [])) (fun _ kt => XS.ifYes X0.here hx rfl (pc0 := 35) (pc' := 56) rfl (hb hby d6_35) rfl (XT.i0_eq_t (by decide)) (by decide) (by decide) kt) ?_
      refine OFin.to (s₁.setTop (mkF m 57 #[.val (.ref c'), .val (.int (Int32.ofNat i)), .val (.ref a), .val (.int (Int32.ofNat 3)), .val (.int (0 : Int32))] [(.int (0 : Int32))])) (fun _ kt => XS.iconst X0.here hx rfl (hb hby d6_56) kt) ?_
      refine OFin.to (s₁.setTop (mkF m 59 #[.val (.ref c'), .val (.int (Int32.ofNat i)), .val (.ref a), .val (.int (Int32.ofNat 3)), .val (.int (0 : Int32))] [])) (fun _ kt => XS.istore X0.here hx rfl (hb hby d6_57) rfl (l' := #[.val (.ref c'), .val (.int (Int32.ofNat i)), .val (.ref a), .val (.int (Int32.ofNat 3)), .val (.int (0 : Int32))]) rfl kt) ?_
      refine OFin.to (s₁.setTop (mkF m 60 #[.val (.ref c'), .val (.int (Int32.ofNat i)), .val (.ref a), .val (.int (Int32.ofNat 3)), .val (.int (0 : Int32))] [(.int (Int32.ofNat 3))])) (fun _ kt => XS.iloadN X0.here hx rfl (hb hby d6_59) rfl kt) ?_
      refine OFin.to (s₁.setTop (mkF m 61 #[.val (.ref c'), .val (.int (Int32.ofNat i)), .val (.ref a), .val (.int (Int32.ofNat 3)), .val (.int (0 : Int32))] [(.int (3 : Int32)), (.int (Int32.ofNat 3))])) (fun _ kt => XS.iconst X0.here hx rfl (hb hby d6_60) kt) ?_
      refine OFin.to (s₁.setTop (mkF m 64 #[.val (.ref c'), .val (.int (Int32.ofNat i)), .val (.ref a), .val (.int (Int32.ofNat 3)), .val (.int (0 : Int32))] [])) (fun _ kt => XS.icmpNo X0.here hx rfl (hb hby d6_61) rfl (XT.ii_lt_f (by decide)) kt) ?_
      refine OFin.to (s₁.setTop (mkF m 66 #[.val (.ref c'), .val (.int (Int32.ofNat i)), .val (.ref a), .val (.int (Int32.ofNat 3)), .val (.int (0 : Int32))] [(.int (0 : Int32))])) (fun _ kt => XS.iload X0.here hx rfl (hb hby d6_64) rfl kt) ?_
      refine OFin.to (s₁.setTop (mkF m 87 #[.val (.ref c'), .val (.int (Int32.ofNat i)), .val (.ref a), .val (.int (Int32.ofNat 3)), .val (.int (0 : Int32))] [])) (fun _ kt => XS.ifYes X0.here hx rfl (pc0 := 66) (pc' := 87) rfl (hb hby d6_66) rfl (XT.i0_eq_t (by decide)) (by decide) (by decide) kt) ?_
      refine OFin.to (s₁.setTop (mkF m 88 #[.val (.ref c'), .val (.int (Int32.ofNat i)), .val (.ref a), .val (.int (Int32.ofNat 3)), .val (.int (0 : Int32))] [(.int (0 : Int32))])) (fun _ kt => XS.iconst X0.here hx rfl (hb hby d6_87) kt) ?_
      refine OFin.to (s₁.setTop (mkF m 90 #[.val (.ref c'), .val (.int (Int32.ofNat i)), .val (.ref a), .val (.int (Int32.ofNat 3)), .val (.int (0 : Int32))] [])) (fun _ kt => XS.istore X0.here hx rfl (hb hby d6_88) rfl (l' := #[.val (.ref c'), .val (.int (Int32.ofNat i)), .val (.ref a), .val (.int (Int32.ofNat 3)), .val (.int (0 : Int32))]) rfl kt) ?_
      refine OFin.to (s₁.setTop (mkF m 91 #[.val (.ref c'), .val (.int (Int32.ofNat i)), .val (.ref a), .val (.int (Int32.ofNat 3)), .val (.int (0 : Int32))] [(.int (Int32.ofNat 3))])) (fun _ kt => XS.iloadN X0.here hx rfl (hb hby d6_90) rfl kt) ?_
      refine OFin.to (s₁.setTop (mkF m 92 #[.val (.ref c'), .val (.int (Int32.ofNat i)), .val (.ref a), .val (.int (Int32.ofNat 3)), .val (.int (0 : Int32))] [(.int (4 : Int32)), (.int (Int32.ofNat 3))])) (fun _ kt => XS.iconst X0.here hx rfl (hb hby d6_91) kt) ?_
      refine OFin.to (s₁.setTop (mkF m 121 #[.val (.ref c'), .val (.int (Int32.ofNat i)), .val (.ref a), .val (.int (Int32.ofNat 3)), .val (.int (0 : Int32))] [])) (fun _ kt => XS.icmpYes X0.here hx rfl (pc0 := 92) (pc' := 121) rfl (hb hby d6_92) rfl (XT.ii_lt_t (by decide)) (by decide) (by decide) kt) ?_
      refine OFin.to (s₁.setTop (mkF m 123 #[.val (.ref c'), .val (.int (Int32.ofNat i)), .val (.ref a), .val (.int (Int32.ofNat 3)), .val (.int (0 : Int32))] [(.int (0 : Int32))])) (fun _ kt => XS.iload X0.here hx rfl (hb hby d6_121) rfl kt) ?_
      exact OFin.retZ X0 hx (t := .boolean) hret (by simp) hlk (hb hby d6_123) (Nat.zero_le _) (Nat.zero_le _) ⟨⟨0, by rw [own_nar0], Or.inr ⟨rfl, fun q => hc0 (by have h := q.2 2 (by decide); rw [show i + 1 - 3 + 2 = i - 0 by omega] at h; exact h.symm)⟩⟩, e0, rfl⟩
    refine OFin.to (s₁.setTop (mkF m 21 #[.val (.ref c'), .val (.int (Int32.ofNat i)), .val (.ref a), .val (.int (Int32.ofNat 3)), .unset] [])) (fun _ kt => XS.ifNo X0.here hx rfl (hb hby d6_18) rfl (XT.ll_ne_f hc0) kt) ?_
    refine OFin.to (s₁.setTop (mkF m 22 #[.val (.ref c'), .val (.int (Int32.ofNat i)), .val (.ref a), .val (.int (Int32.ofNat 3)), .unset] [(.int (1 : Int32))])) (fun _ kt => XS.iconst X0.here hx rfl (hb hby d6_21) kt) ?_
    refine OFin.to (s₁.setTop (mkF m 26 #[.val (.ref c'), .val (.int (Int32.ofNat i)), .val (.ref a), .val (.int (Int32.ofNat 3)), .unset] [(.int (1 : Int32))])) (fun _ kt => XS.goto X0.here hx rfl (pc0 := 22) (pc' := 26) rfl (hb hby d6_22) (by decide) (by decide) kt) ?_
    refine OFin.to (s₁.setTop (mkF m 28 #[.val (.ref c'), .val (.int (Int32.ofNat i)), .val (.ref a), .val (.int (Int32.ofNat 3)), .val (.int (1 : Int32))] [])) (fun _ kt => XS.istore X0.here hx rfl (hb hby d6_26) rfl (l' := #[.val (.ref c'), .val (.int (Int32.ofNat i)), .val (.ref a), .val (.int (Int32.ofNat 3)), .val (.int (1 : Int32))]) rfl kt) ?_
    refine OFin.to (s₁.setTop (mkF m 29 #[.val (.ref c'), .val (.int (Int32.ofNat i)), .val (.ref a), .val (.int (Int32.ofNat 3)), .val (.int (1 : Int32))] [(.int (Int32.ofNat 3))])) (fun _ kt => XS.iloadN X0.here hx rfl (hb hby d6_28) rfl kt) ?_
    refine OFin.to (s₁.setTop (mkF m 30 #[.val (.ref c'), .val (.int (Int32.ofNat i)), .val (.ref a), .val (.int (Int32.ofNat 3)), .val (.int (1 : Int32))] [(.int (2 : Int32)), (.int (Int32.ofNat 3))])) (fun _ kt => XS.iconst X0.here hx rfl (hb hby d6_29) kt) ?_
    refine OFin.to (s₁.setTop (mkF m 33 #[.val (.ref c'), .val (.int (Int32.ofNat i)), .val (.ref a), .val (.int (Int32.ofNat 3)), .val (.int (1 : Int32))] [])) (fun _ kt => XS.icmpNo X0.here hx rfl (hb hby d6_30) rfl (XT.ii_lt_f (by decide)) kt) ?_
    refine OFin.to (s₁.setTop (mkF m 35 #[.val (.ref c'), .val (.int (Int32.ofNat i)), .val (.ref a), .val (.int (Int32.ofNat 3)), .val (.int (1 : Int32))] [(.int (1 : Int32))])) (fun _ kt => XS.iload X0.here hx rfl (hb hby d6_33) rfl kt) ?_
    refine OFin.to (s₁.setTop (mkF m 38 #[.val (.ref c'), .val (.int (Int32.ofNat i)), .val (.ref a), .val (.int (Int32.ofNat 3)), .val (.int (1 : Int32))] [])) (fun _ kt => XS.ifNo X0.here hx rfl (hb hby d6_35) rfl (XT.i0_eq_f (by decide)) kt) ?_
    refine OFin.to (s₁.setTop (mkF m 39 #[.val (.ref c'), .val (.int (Int32.ofNat i)), .val (.ref a), .val (.int (Int32.ofNat 3)), .val (.int (1 : Int32))] [(.ref c')])) (fun _ kt => XS.aloadN X0.here hx rfl (hb hby d6_38) rfl rfl kt) ?_
    refine OFin.to (s₁.setTop (mkF m 40 #[.val (.ref c'), .val (.int (Int32.ofNat i)), .val (.ref a), .val (.int (Int32.ofNat 3)), .val (.int (1 : Int32))] [(.int (Int32.ofNat i)), (.ref c')])) (fun _ kt => XS.iloadN X0.here hx rfl (hb hby d6_39) rfl kt) ?_
    refine OFin.to (s₁.setTop (mkF m 41 #[.val (.ref c'), .val (.int (Int32.ofNat i)), .val (.ref a), .val (.int (Int32.ofNat 3)), .val (.int (1 : Int32))] [(.int (1 : Int32)), (.int (Int32.ofNat i)), (.ref c')])) (fun _ kt => XS.iconst X0.here hx rfl (hb hby d6_40) kt) ?_
    refine OFin.to (s₁.setTop (mkF m 42 #[.val (.ref c'), .val (.int (Int32.ofNat i)), .val (.ref a), .val (.int (Int32.ofNat 3)), .val (.int (1 : Int32))] [(.int ((Int32.ofNat i) - (1 : Int32))), (.ref c')])) (fun _ kt => XS.isub X0.here hx rfl (hb hby d6_41) rfl kt) ?_
    rw [show Int32.ofNat i - (1 : Int32) = Int32.ofNat (i - 1) from own_ofSubN i 1 (by omega) (by omega)]
    refine OFin.to (s₁.setTop (mkF m 43 #[.val (.ref c'), .val (.int (Int32.ofNat i)), .val (.ref a), .val (.int (Int32.ofNat 3)), .val (.int (1 : Int32))] [(.long (t (i - 1)))])) (fun _ kt => own_ldJ X0 hx hZ e0 Vt (j := (Int32.ofNat (i - 1))) (own_ix (i - 1) (by omega)).1 (by rw [(own_ix (i - 1) (by omega)).2, own_rat _ (by omega)]) (g := (mkF m 42 #[.val (.ref c'), .val (.int (Int32.ofNat i)), .val (.ref a), .val (.int (Int32.ofNat 3)), .val (.int (1 : Int32))] [(.int (Int32.ofNat (i - 1))), (.ref c')])) rfl rfl (hb hby d6_42) _ kt) ?_
    refine OFin.to (s₁.setTop (mkF m 44 #[.val (.ref c'), .val (.int (Int32.ofNat i)), .val (.ref a), .val (.int (Int32.ofNat 3)), .val (.int (1 : Int32))] [(.ref a), (.long (t (i - 1)))])) (fun _ kt => XS.aloadN X0.here hx rfl (hb hby d6_43) rfl rfl kt) ?_
    refine OFin.to (s₁.setTop (mkF m 45 #[.val (.ref c'), .val (.int (Int32.ofNat i)), .val (.ref a), .val (.int (Int32.ofNat 3)), .val (.int (1 : Int32))] [(.int (Int32.ofNat 3)), (.ref a), (.long (t (i - 1)))])) (fun _ kt => XS.iloadN X0.here hx rfl (hb hby d6_44) rfl kt) ?_
    refine OFin.to (s₁.setTop (mkF m 46 #[.val (.ref c'), .val (.int (Int32.ofNat i)), .val (.ref a), .val (.int (Int32.ofNat 3)), .val (.int (1 : Int32))] [(.int (2 : Int32)), (.int (Int32.ofNat 3)), (.ref a), (.long (t (i - 1)))])) (fun _ kt => XS.iconst X0.here hx rfl (hb hby d6_45) kt) ?_
    refine OFin.to (s₁.setTop (mkF m 47 #[.val (.ref c'), .val (.int (Int32.ofNat i)), .val (.ref a), .val (.int (Int32.ofNat 3)), .val (.int (1 : Int32))] [(.int ((Int32.ofNat 3) - (2 : Int32))), (.ref a), (.long (t (i - 1)))])) (fun _ kt => XS.isub X0.here hx rfl (hb hby d6_46) rfl kt) ?_
    rw [show Int32.ofNat 3 - (2 : Int32) = Int32.ofNat 1 from by decide]
    refine OFin.to (s₁.setTop (mkF m 48 #[.val (.ref c'), .val (.int (Int32.ofNat i)), .val (.ref a), .val (.int (Int32.ofNat 3)), .val (.int (1 : Int32))] [(.long (P 1)), (.long (t (i - 1)))])) (fun _ kt => own_ldJ X0 hx hZ e0 Va (j := (Int32.ofNat 1)) (own_ix (1) (by omega)).1 (by rw [(own_ix (1) (by omega)).2, own_rat _ (by decide)]) (g := (mkF m 47 #[.val (.ref c'), .val (.int (Int32.ofNat i)), .val (.ref a), .val (.int (Int32.ofNat 3)), .val (.int (1 : Int32))] [(.int (Int32.ofNat 1)), (.ref a), (.long (t (i - 1)))])) rfl rfl (hb hby d6_47) _ kt) ?_
    refine OFin.to (s₁.setTop (mkF m 49 #[.val (.ref c'), .val (.int (Int32.ofNat i)), .val (.ref a), .val (.int (Int32.ofNat 3)), .val (.int (1 : Int32))] [(.int (XT.cmpL (t (i - 1)) (P 1)))])) (fun _ kt => XT.lcmp X0.here hx rfl (hb hby d6_48) rfl kt) ?_
    by_cases hc1 : (t (i - 1)) = (P 1)
    case neg =>
      refine OFin.to (s₁.setTop (mkF m 56 #[.val (.ref c'), .val (.int (Int32.ofNat i)), .val (.ref a), .val (.int (Int32.ofNat 3)), .val (.int (1 : Int32))] [])) (fun _ kt => XS.ifYes X0.here hx rfl (pc0 := 49) (pc' := 56) rfl (hb hby d6_49) rfl (XT.ll_ne_t hc1) (by decide) (by decide) kt) ?_
      refine OFin.to (s₁.setTop (mkF m 57 #[.val (.ref c'), .val (.int (Int32.ofNat i)), .val (.ref a), .val (.int (Int32.ofNat 3)), .val (.int (1 : Int32))] [(.int (0 : Int32))])) (fun _ kt => XS.iconst X0.here hx rfl (hb hby d6_56) kt) ?_
      refine OFin.to (s₁.setTop (mkF m 59 #[.val (.ref c'), .val (.int (Int32.ofNat i)), .val (.ref a), .val (.int (Int32.ofNat 3)), .val (.int (0 : Int32))] [])) (fun _ kt => XS.istore X0.here hx rfl (hb hby d6_57) rfl (l' := #[.val (.ref c'), .val (.int (Int32.ofNat i)), .val (.ref a), .val (.int (Int32.ofNat 3)), .val (.int (0 : Int32))]) rfl kt) ?_
      refine OFin.to (s₁.setTop (mkF m 60 #[.val (.ref c'), .val (.int (Int32.ofNat i)), .val (.ref a), .val (.int (Int32.ofNat 3)), .val (.int (0 : Int32))] [(.int (Int32.ofNat 3))])) (fun _ kt => XS.iloadN X0.here hx rfl (hb hby d6_59) rfl kt) ?_
      refine OFin.to (s₁.setTop (mkF m 61 #[.val (.ref c'), .val (.int (Int32.ofNat i)), .val (.ref a), .val (.int (Int32.ofNat 3)), .val (.int (0 : Int32))] [(.int (3 : Int32)), (.int (Int32.ofNat 3))])) (fun _ kt => XS.iconst X0.here hx rfl (hb hby d6_60) kt) ?_
      refine OFin.to (s₁.setTop (mkF m 64 #[.val (.ref c'), .val (.int (Int32.ofNat i)), .val (.ref a), .val (.int (Int32.ofNat 3)), .val (.int (0 : Int32))] [])) (fun _ kt => XS.icmpNo X0.here hx rfl (hb hby d6_61) rfl (XT.ii_lt_f (by decide)) kt) ?_
      refine OFin.to (s₁.setTop (mkF m 66 #[.val (.ref c'), .val (.int (Int32.ofNat i)), .val (.ref a), .val (.int (Int32.ofNat 3)), .val (.int (0 : Int32))] [(.int (0 : Int32))])) (fun _ kt => XS.iload X0.here hx rfl (hb hby d6_64) rfl kt) ?_
      refine OFin.to (s₁.setTop (mkF m 87 #[.val (.ref c'), .val (.int (Int32.ofNat i)), .val (.ref a), .val (.int (Int32.ofNat 3)), .val (.int (0 : Int32))] [])) (fun _ kt => XS.ifYes X0.here hx rfl (pc0 := 66) (pc' := 87) rfl (hb hby d6_66) rfl (XT.i0_eq_t (by decide)) (by decide) (by decide) kt) ?_
      refine OFin.to (s₁.setTop (mkF m 88 #[.val (.ref c'), .val (.int (Int32.ofNat i)), .val (.ref a), .val (.int (Int32.ofNat 3)), .val (.int (0 : Int32))] [(.int (0 : Int32))])) (fun _ kt => XS.iconst X0.here hx rfl (hb hby d6_87) kt) ?_
      refine OFin.to (s₁.setTop (mkF m 90 #[.val (.ref c'), .val (.int (Int32.ofNat i)), .val (.ref a), .val (.int (Int32.ofNat 3)), .val (.int (0 : Int32))] [])) (fun _ kt => XS.istore X0.here hx rfl (hb hby d6_88) rfl (l' := #[.val (.ref c'), .val (.int (Int32.ofNat i)), .val (.ref a), .val (.int (Int32.ofNat 3)), .val (.int (0 : Int32))]) rfl kt) ?_
      refine OFin.to (s₁.setTop (mkF m 91 #[.val (.ref c'), .val (.int (Int32.ofNat i)), .val (.ref a), .val (.int (Int32.ofNat 3)), .val (.int (0 : Int32))] [(.int (Int32.ofNat 3))])) (fun _ kt => XS.iloadN X0.here hx rfl (hb hby d6_90) rfl kt) ?_
      refine OFin.to (s₁.setTop (mkF m 92 #[.val (.ref c'), .val (.int (Int32.ofNat i)), .val (.ref a), .val (.int (Int32.ofNat 3)), .val (.int (0 : Int32))] [(.int (4 : Int32)), (.int (Int32.ofNat 3))])) (fun _ kt => XS.iconst X0.here hx rfl (hb hby d6_91) kt) ?_
      refine OFin.to (s₁.setTop (mkF m 121 #[.val (.ref c'), .val (.int (Int32.ofNat i)), .val (.ref a), .val (.int (Int32.ofNat 3)), .val (.int (0 : Int32))] [])) (fun _ kt => XS.icmpYes X0.here hx rfl (pc0 := 92) (pc' := 121) rfl (hb hby d6_92) rfl (XT.ii_lt_t (by decide)) (by decide) (by decide) kt) ?_
      refine OFin.to (s₁.setTop (mkF m 123 #[.val (.ref c'), .val (.int (Int32.ofNat i)), .val (.ref a), .val (.int (Int32.ofNat 3)), .val (.int (0 : Int32))] [(.int (0 : Int32))])) (fun _ kt => XS.iload X0.here hx rfl (hb hby d6_121) rfl kt) ?_
      exact OFin.retZ X0 hx (t := .boolean) hret (by simp) hlk (hb hby d6_123) (Nat.zero_le _) (Nat.zero_le _) ⟨⟨0, by rw [own_nar0], Or.inr ⟨rfl, fun q => hc1 (by have h := q.2 1 (by decide); rw [show i + 1 - 3 + 1 = i - 1 by omega] at h; exact h.symm)⟩⟩, e0, rfl⟩
    refine OFin.to (s₁.setTop (mkF m 52 #[.val (.ref c'), .val (.int (Int32.ofNat i)), .val (.ref a), .val (.int (Int32.ofNat 3)), .val (.int (1 : Int32))] [])) (fun _ kt => XS.ifNo X0.here hx rfl (hb hby d6_49) rfl (XT.ll_ne_f hc1) kt) ?_
    refine OFin.to (s₁.setTop (mkF m 53 #[.val (.ref c'), .val (.int (Int32.ofNat i)), .val (.ref a), .val (.int (Int32.ofNat 3)), .val (.int (1 : Int32))] [(.int (1 : Int32))])) (fun _ kt => XS.iconst X0.here hx rfl (hb hby d6_52) kt) ?_
    refine OFin.to (s₁.setTop (mkF m 57 #[.val (.ref c'), .val (.int (Int32.ofNat i)), .val (.ref a), .val (.int (Int32.ofNat 3)), .val (.int (1 : Int32))] [(.int (1 : Int32))])) (fun _ kt => XS.goto X0.here hx rfl (pc0 := 53) (pc' := 57) rfl (hb hby d6_53) (by decide) (by decide) kt) ?_
    refine OFin.to (s₁.setTop (mkF m 59 #[.val (.ref c'), .val (.int (Int32.ofNat i)), .val (.ref a), .val (.int (Int32.ofNat 3)), .val (.int (1 : Int32))] [])) (fun _ kt => XS.istore X0.here hx rfl (hb hby d6_57) rfl (l' := #[.val (.ref c'), .val (.int (Int32.ofNat i)), .val (.ref a), .val (.int (Int32.ofNat 3)), .val (.int (1 : Int32))]) rfl kt) ?_
    refine OFin.to (s₁.setTop (mkF m 60 #[.val (.ref c'), .val (.int (Int32.ofNat i)), .val (.ref a), .val (.int (Int32.ofNat 3)), .val (.int (1 : Int32))] [(.int (Int32.ofNat 3))])) (fun _ kt => XS.iloadN X0.here hx rfl (hb hby d6_59) rfl kt) ?_
    refine OFin.to (s₁.setTop (mkF m 61 #[.val (.ref c'), .val (.int (Int32.ofNat i)), .val (.ref a), .val (.int (Int32.ofNat 3)), .val (.int (1 : Int32))] [(.int (3 : Int32)), (.int (Int32.ofNat 3))])) (fun _ kt => XS.iconst X0.here hx rfl (hb hby d6_60) kt) ?_
    refine OFin.to (s₁.setTop (mkF m 64 #[.val (.ref c'), .val (.int (Int32.ofNat i)), .val (.ref a), .val (.int (Int32.ofNat 3)), .val (.int (1 : Int32))] [])) (fun _ kt => XS.icmpNo X0.here hx rfl (hb hby d6_61) rfl (XT.ii_lt_f (by decide)) kt) ?_
    refine OFin.to (s₁.setTop (mkF m 66 #[.val (.ref c'), .val (.int (Int32.ofNat i)), .val (.ref a), .val (.int (Int32.ofNat 3)), .val (.int (1 : Int32))] [(.int (1 : Int32))])) (fun _ kt => XS.iload X0.here hx rfl (hb hby d6_64) rfl kt) ?_
    refine OFin.to (s₁.setTop (mkF m 69 #[.val (.ref c'), .val (.int (Int32.ofNat i)), .val (.ref a), .val (.int (Int32.ofNat 3)), .val (.int (1 : Int32))] [])) (fun _ kt => XS.ifNo X0.here hx rfl (hb hby d6_66) rfl (XT.i0_eq_f (by decide)) kt) ?_
    refine OFin.to (s₁.setTop (mkF m 70 #[.val (.ref c'), .val (.int (Int32.ofNat i)), .val (.ref a), .val (.int (Int32.ofNat 3)), .val (.int (1 : Int32))] [(.ref c')])) (fun _ kt => XS.aloadN X0.here hx rfl (hb hby d6_69) rfl rfl kt) ?_
    refine OFin.to (s₁.setTop (mkF m 71 #[.val (.ref c'), .val (.int (Int32.ofNat i)), .val (.ref a), .val (.int (Int32.ofNat 3)), .val (.int (1 : Int32))] [(.int (Int32.ofNat i)), (.ref c')])) (fun _ kt => XS.iloadN X0.here hx rfl (hb hby d6_70) rfl kt) ?_
    refine OFin.to (s₁.setTop (mkF m 72 #[.val (.ref c'), .val (.int (Int32.ofNat i)), .val (.ref a), .val (.int (Int32.ofNat 3)), .val (.int (1 : Int32))] [(.int (2 : Int32)), (.int (Int32.ofNat i)), (.ref c')])) (fun _ kt => XS.iconst X0.here hx rfl (hb hby d6_71) kt) ?_
    refine OFin.to (s₁.setTop (mkF m 73 #[.val (.ref c'), .val (.int (Int32.ofNat i)), .val (.ref a), .val (.int (Int32.ofNat 3)), .val (.int (1 : Int32))] [(.int ((Int32.ofNat i) - (2 : Int32))), (.ref c')])) (fun _ kt => XS.isub X0.here hx rfl (hb hby d6_72) rfl kt) ?_
    rw [show Int32.ofNat i - (2 : Int32) = Int32.ofNat (i - 2) from own_ofSubN i 2 (by omega) (by omega)]
    refine OFin.to (s₁.setTop (mkF m 74 #[.val (.ref c'), .val (.int (Int32.ofNat i)), .val (.ref a), .val (.int (Int32.ofNat 3)), .val (.int (1 : Int32))] [(.long (t (i - 2)))])) (fun _ kt => own_ldJ X0 hx hZ e0 Vt (j := (Int32.ofNat (i - 2))) (own_ix (i - 2) (by omega)).1 (by rw [(own_ix (i - 2) (by omega)).2, own_rat _ (by omega)]) (g := (mkF m 73 #[.val (.ref c'), .val (.int (Int32.ofNat i)), .val (.ref a), .val (.int (Int32.ofNat 3)), .val (.int (1 : Int32))] [(.int (Int32.ofNat (i - 2))), (.ref c')])) rfl rfl (hb hby d6_73) _ kt) ?_
    refine OFin.to (s₁.setTop (mkF m 75 #[.val (.ref c'), .val (.int (Int32.ofNat i)), .val (.ref a), .val (.int (Int32.ofNat 3)), .val (.int (1 : Int32))] [(.ref a), (.long (t (i - 2)))])) (fun _ kt => XS.aloadN X0.here hx rfl (hb hby d6_74) rfl rfl kt) ?_
    refine OFin.to (s₁.setTop (mkF m 76 #[.val (.ref c'), .val (.int (Int32.ofNat i)), .val (.ref a), .val (.int (Int32.ofNat 3)), .val (.int (1 : Int32))] [(.int (Int32.ofNat 3)), (.ref a), (.long (t (i - 2)))])) (fun _ kt => XS.iloadN X0.here hx rfl (hb hby d6_75) rfl kt) ?_
    refine OFin.to (s₁.setTop (mkF m 77 #[.val (.ref c'), .val (.int (Int32.ofNat i)), .val (.ref a), .val (.int (Int32.ofNat 3)), .val (.int (1 : Int32))] [(.int (3 : Int32)), (.int (Int32.ofNat 3)), (.ref a), (.long (t (i - 2)))])) (fun _ kt => XS.iconst X0.here hx rfl (hb hby d6_76) kt) ?_
    refine OFin.to (s₁.setTop (mkF m 78 #[.val (.ref c'), .val (.int (Int32.ofNat i)), .val (.ref a), .val (.int (Int32.ofNat 3)), .val (.int (1 : Int32))] [(.int ((Int32.ofNat 3) - (3 : Int32))), (.ref a), (.long (t (i - 2)))])) (fun _ kt => XS.isub X0.here hx rfl (hb hby d6_77) rfl kt) ?_
    rw [show Int32.ofNat 3 - (3 : Int32) = Int32.ofNat 0 from by decide]
    refine OFin.to (s₁.setTop (mkF m 79 #[.val (.ref c'), .val (.int (Int32.ofNat i)), .val (.ref a), .val (.int (Int32.ofNat 3)), .val (.int (1 : Int32))] [(.long (P 0)), (.long (t (i - 2)))])) (fun _ kt => own_ldJ X0 hx hZ e0 Va (j := (Int32.ofNat 0)) (own_ix (0) (by omega)).1 (by rw [(own_ix (0) (by omega)).2, own_rat _ (by decide)]) (g := (mkF m 78 #[.val (.ref c'), .val (.int (Int32.ofNat i)), .val (.ref a), .val (.int (Int32.ofNat 3)), .val (.int (1 : Int32))] [(.int (Int32.ofNat 0)), (.ref a), (.long (t (i - 2)))])) rfl rfl (hb hby d6_78) _ kt) ?_
    refine OFin.to (s₁.setTop (mkF m 80 #[.val (.ref c'), .val (.int (Int32.ofNat i)), .val (.ref a), .val (.int (Int32.ofNat 3)), .val (.int (1 : Int32))] [(.int (XT.cmpL (t (i - 2)) (P 0)))])) (fun _ kt => XT.lcmp X0.here hx rfl (hb hby d6_79) rfl kt) ?_
    by_cases hc2 : (t (i - 2)) = (P 0)
    case neg =>
      refine OFin.to (s₁.setTop (mkF m 87 #[.val (.ref c'), .val (.int (Int32.ofNat i)), .val (.ref a), .val (.int (Int32.ofNat 3)), .val (.int (1 : Int32))] [])) (fun _ kt => XS.ifYes X0.here hx rfl (pc0 := 80) (pc' := 87) rfl (hb hby d6_80) rfl (XT.ll_ne_t hc2) (by decide) (by decide) kt) ?_
      refine OFin.to (s₁.setTop (mkF m 88 #[.val (.ref c'), .val (.int (Int32.ofNat i)), .val (.ref a), .val (.int (Int32.ofNat 3)), .val (.int (1 : Int32))] [(.int (0 : Int32))])) (fun _ kt => XS.iconst X0.here hx rfl (hb hby d6_87) kt) ?_
      refine OFin.to (s₁.setTop (mkF m 90 #[.val (.ref c'), .val (.int (Int32.ofNat i)), .val (.ref a), .val (.int (Int32.ofNat 3)), .val (.int (0 : Int32))] [])) (fun _ kt => XS.istore X0.here hx rfl (hb hby d6_88) rfl (l' := #[.val (.ref c'), .val (.int (Int32.ofNat i)), .val (.ref a), .val (.int (Int32.ofNat 3)), .val (.int (0 : Int32))]) rfl kt) ?_
      refine OFin.to (s₁.setTop (mkF m 91 #[.val (.ref c'), .val (.int (Int32.ofNat i)), .val (.ref a), .val (.int (Int32.ofNat 3)), .val (.int (0 : Int32))] [(.int (Int32.ofNat 3))])) (fun _ kt => XS.iloadN X0.here hx rfl (hb hby d6_90) rfl kt) ?_
      refine OFin.to (s₁.setTop (mkF m 92 #[.val (.ref c'), .val (.int (Int32.ofNat i)), .val (.ref a), .val (.int (Int32.ofNat 3)), .val (.int (0 : Int32))] [(.int (4 : Int32)), (.int (Int32.ofNat 3))])) (fun _ kt => XS.iconst X0.here hx rfl (hb hby d6_91) kt) ?_
      refine OFin.to (s₁.setTop (mkF m 121 #[.val (.ref c'), .val (.int (Int32.ofNat i)), .val (.ref a), .val (.int (Int32.ofNat 3)), .val (.int (0 : Int32))] [])) (fun _ kt => XS.icmpYes X0.here hx rfl (pc0 := 92) (pc' := 121) rfl (hb hby d6_92) rfl (XT.ii_lt_t (by decide)) (by decide) (by decide) kt) ?_
      refine OFin.to (s₁.setTop (mkF m 123 #[.val (.ref c'), .val (.int (Int32.ofNat i)), .val (.ref a), .val (.int (Int32.ofNat 3)), .val (.int (0 : Int32))] [(.int (0 : Int32))])) (fun _ kt => XS.iload X0.here hx rfl (hb hby d6_121) rfl kt) ?_
      exact OFin.retZ X0 hx (t := .boolean) hret (by simp) hlk (hb hby d6_123) (Nat.zero_le _) (Nat.zero_le _) ⟨⟨0, by rw [own_nar0], Or.inr ⟨rfl, fun q => hc2 (by have h := q.2 0 (by decide); rw [show i + 1 - 3 + 0 = i - 2 by omega] at h; exact h.symm)⟩⟩, e0, rfl⟩
    refine OFin.to (s₁.setTop (mkF m 83 #[.val (.ref c'), .val (.int (Int32.ofNat i)), .val (.ref a), .val (.int (Int32.ofNat 3)), .val (.int (1 : Int32))] [])) (fun _ kt => XS.ifNo X0.here hx rfl (hb hby d6_80) rfl (XT.ll_ne_f hc2) kt) ?_
    refine OFin.to (s₁.setTop (mkF m 84 #[.val (.ref c'), .val (.int (Int32.ofNat i)), .val (.ref a), .val (.int (Int32.ofNat 3)), .val (.int (1 : Int32))] [(.int (1 : Int32))])) (fun _ kt => XS.iconst X0.here hx rfl (hb hby d6_83) kt) ?_
    refine OFin.to (s₁.setTop (mkF m 88 #[.val (.ref c'), .val (.int (Int32.ofNat i)), .val (.ref a), .val (.int (Int32.ofNat 3)), .val (.int (1 : Int32))] [(.int (1 : Int32))])) (fun _ kt => XS.goto X0.here hx rfl (pc0 := 84) (pc' := 88) rfl (hb hby d6_84) (by decide) (by decide) kt) ?_
    refine OFin.to (s₁.setTop (mkF m 90 #[.val (.ref c'), .val (.int (Int32.ofNat i)), .val (.ref a), .val (.int (Int32.ofNat 3)), .val (.int (1 : Int32))] [])) (fun _ kt => XS.istore X0.here hx rfl (hb hby d6_88) rfl (l' := #[.val (.ref c'), .val (.int (Int32.ofNat i)), .val (.ref a), .val (.int (Int32.ofNat 3)), .val (.int (1 : Int32))]) rfl kt) ?_
    refine OFin.to (s₁.setTop (mkF m 91 #[.val (.ref c'), .val (.int (Int32.ofNat i)), .val (.ref a), .val (.int (Int32.ofNat 3)), .val (.int (1 : Int32))] [(.int (Int32.ofNat 3))])) (fun _ kt => XS.iloadN X0.here hx rfl (hb hby d6_90) rfl kt) ?_
    refine OFin.to (s₁.setTop (mkF m 92 #[.val (.ref c'), .val (.int (Int32.ofNat i)), .val (.ref a), .val (.int (Int32.ofNat 3)), .val (.int (1 : Int32))] [(.int (4 : Int32)), (.int (Int32.ofNat 3))])) (fun _ kt => XS.iconst X0.here hx rfl (hb hby d6_91) kt) ?_
    refine OFin.to (s₁.setTop (mkF m 121 #[.val (.ref c'), .val (.int (Int32.ofNat i)), .val (.ref a), .val (.int (Int32.ofNat 3)), .val (.int (1 : Int32))] [])) (fun _ kt => XS.icmpYes X0.here hx rfl (pc0 := 92) (pc' := 121) rfl (hb hby d6_92) rfl (XT.ii_lt_t (by decide)) (by decide) (by decide) kt) ?_
    refine OFin.to (s₁.setTop (mkF m 123 #[.val (.ref c'), .val (.int (Int32.ofNat i)), .val (.ref a), .val (.int (Int32.ofNat 3)), .val (.int (1 : Int32))] [(.int (1 : Int32))])) (fun _ kt => XS.iload X0.here hx rfl (hb hby d6_121) rfl kt) ?_
    have hM : Mt P t (i + 1) 3 := ⟨by omega, fun x hx => by
        obtain rfl | rfl | rfl : x = 0 ∨ x = 1 ∨ x = 2 := by omega
        · rw [show i + 1 - 3 + 0 = i - 2 by omega]; exact hc2.symm
        · rw [show i + 1 - 3 + 1 = i - 1 by omega]; exact hc1.symm
        · rw [show i + 1 - 3 + 2 = i by omega]; exact hc0.symm⟩
    exact OFin.retZ X0 hx (t := .boolean) hret (by simp) hlk (hb hby d6_123) (Nat.zero_le _) (Nat.zero_le _) ⟨⟨1, by rw [own_nar1], Or.inl ⟨rfl, hM⟩⟩, e0, rfl⟩
  · skip
    refine OFin.to (s₁.setTop (mkF m 1 #[.val (.ref c'), .val (.int (Int32.ofNat i)), .val (.ref a), .val (.int (Int32.ofNat 4)), .unset] [(.int (Int32.ofNat i))])) (fun _ kt => XS.iloadN X0.here hx rfl (hb hby d6_0) rfl kt) ?_
    refine OFin.to (s₁.setTop (mkF m 2 #[.val (.ref c'), .val (.int (Int32.ofNat i)), .val (.ref a), .val (.int (Int32.ofNat 4)), .unset] [(.int (1 : Int32)), (.int (Int32.ofNat i))])) (fun _ kt => XS.iconst X0.here hx rfl (hb hby d6_1) kt) ?_
    refine OFin.to (s₁.setTop (mkF m 3 #[.val (.ref c'), .val (.int (Int32.ofNat i)), .val (.ref a), .val (.int (Int32.ofNat 4)), .unset] [(.int ((Int32.ofNat i) + (1 : Int32)))])) (fun _ kt => XS.iadd X0.here hx rfl (hb hby d6_2) rfl kt) ?_
    rw [show Int32.ofNat i + (1 : Int32) = Int32.ofNat (i + 1) from own_ofAdd i 1]
    refine OFin.to (s₁.setTop (mkF m 4 #[.val (.ref c'), .val (.int (Int32.ofNat i)), .val (.ref a), .val (.int (Int32.ofNat 4)), .unset] [(.int (Int32.ofNat 4)), (.int (Int32.ofNat (i + 1)))])) (fun _ kt => XS.iloadN X0.here hx rfl (hb hby d6_3) rfl kt) ?_
    by_cases him : i + 1 < 4
    case pos =>
      refine OFin.to (s₁.setTop (mkF m 7 #[.val (.ref c'), .val (.int (Int32.ofNat i)), .val (.ref a), .val (.int (Int32.ofNat 4)), .unset] [])) (fun _ kt => XS.icmpNo X0.here hx rfl (hb hby d6_4) rfl (XT.ii_ge_f ((own_ofLt (i + 1) 4 (by omega) (by decide)).mpr him)) kt) ?_
      refine OFin.to (s₁.setTop (mkF m 8 #[.val (.ref c'), .val (.int (Int32.ofNat i)), .val (.ref a), .val (.int (Int32.ofNat 4)), .unset] [(.int (0 : Int32))])) (fun _ kt => XS.iconst X0.here hx rfl (hb hby d6_7) kt) ?_
      exact OFin.retZ X0 hx (t := .boolean) hret (by simp) hlk (hb hby d6_8) (Nat.zero_le _) (Nat.zero_le _) ⟨⟨0, by rw [own_nar0], Or.inr ⟨rfl, fun q => absurd q.1 (by omega)⟩⟩, e0, rfl⟩
    refine OFin.to (s₁.setTop (mkF m 9 #[.val (.ref c'), .val (.int (Int32.ofNat i)), .val (.ref a), .val (.int (Int32.ofNat 4)), .unset] [])) (fun _ kt => XS.icmpYes X0.here hx rfl (pc0 := 4) (pc' := 9) rfl (hb hby d6_4) rfl (XT.ii_ge_t (fun q => him ((own_ofLt (i + 1) 4 (by omega) (by decide)).mp q))) (by decide) (by decide) kt) ?_
    refine OFin.to (s₁.setTop (mkF m 10 #[.val (.ref c'), .val (.int (Int32.ofNat i)), .val (.ref a), .val (.int (Int32.ofNat 4)), .unset] [(.ref c')])) (fun _ kt => XS.aloadN X0.here hx rfl (hb hby d6_9) rfl rfl kt) ?_
    refine OFin.to (s₁.setTop (mkF m 11 #[.val (.ref c'), .val (.int (Int32.ofNat i)), .val (.ref a), .val (.int (Int32.ofNat 4)), .unset] [(.int (Int32.ofNat i)), (.ref c')])) (fun _ kt => XS.iloadN X0.here hx rfl (hb hby d6_10) rfl kt) ?_
    refine OFin.to (s₁.setTop (mkF m 12 #[.val (.ref c'), .val (.int (Int32.ofNat i)), .val (.ref a), .val (.int (Int32.ofNat 4)), .unset] [(.long (t i))])) (fun _ kt => own_ldJ X0 hx hZ e0 Vt (j := (Int32.ofNat i)) (own_ix (i) (by omega)).1 (by rw [(own_ix (i) (by omega)).2, own_rat _ (by omega)]) (g := (mkF m 11 #[.val (.ref c'), .val (.int (Int32.ofNat i)), .val (.ref a), .val (.int (Int32.ofNat 4)), .unset] [(.int (Int32.ofNat i)), (.ref c')])) rfl rfl (hb hby d6_11) _ kt) ?_
    refine OFin.to (s₁.setTop (mkF m 13 #[.val (.ref c'), .val (.int (Int32.ofNat i)), .val (.ref a), .val (.int (Int32.ofNat 4)), .unset] [(.ref a), (.long (t i))])) (fun _ kt => XS.aloadN X0.here hx rfl (hb hby d6_12) rfl rfl kt) ?_
    refine OFin.to (s₁.setTop (mkF m 14 #[.val (.ref c'), .val (.int (Int32.ofNat i)), .val (.ref a), .val (.int (Int32.ofNat 4)), .unset] [(.int (Int32.ofNat 4)), (.ref a), (.long (t i))])) (fun _ kt => XS.iloadN X0.here hx rfl (hb hby d6_13) rfl kt) ?_
    refine OFin.to (s₁.setTop (mkF m 15 #[.val (.ref c'), .val (.int (Int32.ofNat i)), .val (.ref a), .val (.int (Int32.ofNat 4)), .unset] [(.int (1 : Int32)), (.int (Int32.ofNat 4)), (.ref a), (.long (t i))])) (fun _ kt => XS.iconst X0.here hx rfl (hb hby d6_14) kt) ?_
    refine OFin.to (s₁.setTop (mkF m 16 #[.val (.ref c'), .val (.int (Int32.ofNat i)), .val (.ref a), .val (.int (Int32.ofNat 4)), .unset] [(.int ((Int32.ofNat 4) - (1 : Int32))), (.ref a), (.long (t i))])) (fun _ kt => XS.isub X0.here hx rfl (hb hby d6_15) rfl kt) ?_
    rw [show Int32.ofNat 4 - (1 : Int32) = Int32.ofNat 3 from by decide]
    refine OFin.to (s₁.setTop (mkF m 17 #[.val (.ref c'), .val (.int (Int32.ofNat i)), .val (.ref a), .val (.int (Int32.ofNat 4)), .unset] [(.long (P 3)), (.long (t i))])) (fun _ kt => own_ldJ X0 hx hZ e0 Va (j := (Int32.ofNat 3)) (own_ix (3) (by omega)).1 (by rw [(own_ix (3) (by omega)).2, own_rat _ (by decide)]) (g := (mkF m 16 #[.val (.ref c'), .val (.int (Int32.ofNat i)), .val (.ref a), .val (.int (Int32.ofNat 4)), .unset] [(.int (Int32.ofNat 3)), (.ref a), (.long (t i))])) rfl rfl (hb hby d6_16) _ kt) ?_
    refine OFin.to (s₁.setTop (mkF m 18 #[.val (.ref c'), .val (.int (Int32.ofNat i)), .val (.ref a), .val (.int (Int32.ofNat 4)), .unset] [(.int (XT.cmpL (t i) (P 3)))])) (fun _ kt => XT.lcmp X0.here hx rfl (hb hby d6_17) rfl kt) ?_
    by_cases hc0 : (t i) = (P 3)
    case neg =>
      refine OFin.to (s₁.setTop (mkF m 25 #[.val (.ref c'), .val (.int (Int32.ofNat i)), .val (.ref a), .val (.int (Int32.ofNat 4)), .unset] [])) (fun _ kt => XS.ifYes X0.here hx rfl (pc0 := 18) (pc' := 25) rfl (hb hby d6_18) rfl (XT.ll_ne_t hc0) (by decide) (by decide) kt) ?_
      refine OFin.to (s₁.setTop (mkF m 26 #[.val (.ref c'), .val (.int (Int32.ofNat i)), .val (.ref a), .val (.int (Int32.ofNat 4)), .unset] [(.int (0 : Int32))])) (fun _ kt => XS.iconst X0.here hx rfl (hb hby d6_25) kt) ?_
      refine OFin.to (s₁.setTop (mkF m 28 #[.val (.ref c'), .val (.int (Int32.ofNat i)), .val (.ref a), .val (.int (Int32.ofNat 4)), .val (.int (0 : Int32))] [])) (fun _ kt => XS.istore X0.here hx rfl (hb hby d6_26) rfl (l' := #[.val (.ref c'), .val (.int (Int32.ofNat i)), .val (.ref a), .val (.int (Int32.ofNat 4)), .val (.int (0 : Int32))]) rfl kt) ?_
      refine OFin.to (s₁.setTop (mkF m 29 #[.val (.ref c'), .val (.int (Int32.ofNat i)), .val (.ref a), .val (.int (Int32.ofNat 4)), .val (.int (0 : Int32))] [(.int (Int32.ofNat 4))])) (fun _ kt => XS.iloadN X0.here hx rfl (hb hby d6_28) rfl kt) ?_
      refine OFin.to (s₁.setTop (mkF m 30 #[.val (.ref c'), .val (.int (Int32.ofNat i)), .val (.ref a), .val (.int (Int32.ofNat 4)), .val (.int (0 : Int32))] [(.int (2 : Int32)), (.int (Int32.ofNat 4))])) (fun _ kt => XS.iconst X0.here hx rfl (hb hby d6_29) kt) ?_
      refine OFin.to (s₁.setTop (mkF m 33 #[.val (.ref c'), .val (.int (Int32.ofNat i)), .val (.ref a), .val (.int (Int32.ofNat 4)), .val (.int (0 : Int32))] [])) (fun _ kt => XS.icmpNo X0.here hx rfl (hb hby d6_30) rfl (XT.ii_lt_f (by decide)) kt) ?_
      refine OFin.to (s₁.setTop (mkF m 35 #[.val (.ref c'), .val (.int (Int32.ofNat i)), .val (.ref a), .val (.int (Int32.ofNat 4)), .val (.int (0 : Int32))] [(.int (0 : Int32))])) (fun _ kt => XS.iload X0.here hx rfl (hb hby d6_33) rfl kt) ?_
      refine OFin.to (s₁.setTop (mkF m 56 #[.val (.ref c'), .val (.int (Int32.ofNat i)), .val (.ref a), .val (.int (Int32.ofNat 4)), .val (.int (0 : Int32))] [])) (fun _ kt => XS.ifYes X0.here hx rfl (pc0 := 35) (pc' := 56) rfl (hb hby d6_35) rfl (XT.i0_eq_t (by decide)) (by decide) (by decide) kt) ?_
      refine OFin.to (s₁.setTop (mkF m 57 #[.val (.ref c'), .val (.int (Int32.ofNat i)), .val (.ref a), .val (.int (Int32.ofNat 4)), .val (.int (0 : Int32))] [(.int (0 : Int32))])) (fun _ kt => XS.iconst X0.here hx rfl (hb hby d6_56) kt) ?_
      refine OFin.to (s₁.setTop (mkF m 59 #[.val (.ref c'), .val (.int (Int32.ofNat i)), .val (.ref a), .val (.int (Int32.ofNat 4)), .val (.int (0 : Int32))] [])) (fun _ kt => XS.istore X0.here hx rfl (hb hby d6_57) rfl (l' := #[.val (.ref c'), .val (.int (Int32.ofNat i)), .val (.ref a), .val (.int (Int32.ofNat 4)), .val (.int (0 : Int32))]) rfl kt) ?_
      refine OFin.to (s₁.setTop (mkF m 60 #[.val (.ref c'), .val (.int (Int32.ofNat i)), .val (.ref a), .val (.int (Int32.ofNat 4)), .val (.int (0 : Int32))] [(.int (Int32.ofNat 4))])) (fun _ kt => XS.iloadN X0.here hx rfl (hb hby d6_59) rfl kt) ?_
      refine OFin.to (s₁.setTop (mkF m 61 #[.val (.ref c'), .val (.int (Int32.ofNat i)), .val (.ref a), .val (.int (Int32.ofNat 4)), .val (.int (0 : Int32))] [(.int (3 : Int32)), (.int (Int32.ofNat 4))])) (fun _ kt => XS.iconst X0.here hx rfl (hb hby d6_60) kt) ?_
      refine OFin.to (s₁.setTop (mkF m 64 #[.val (.ref c'), .val (.int (Int32.ofNat i)), .val (.ref a), .val (.int (Int32.ofNat 4)), .val (.int (0 : Int32))] [])) (fun _ kt => XS.icmpNo X0.here hx rfl (hb hby d6_61) rfl (XT.ii_lt_f (by decide)) kt) ?_
      refine OFin.to (s₁.setTop (mkF m 66 #[.val (.ref c'), .val (.int (Int32.ofNat i)), .val (.ref a), .val (.int (Int32.ofNat 4)), .val (.int (0 : Int32))] [(.int (0 : Int32))])) (fun _ kt => XS.iload X0.here hx rfl (hb hby d6_64) rfl kt) ?_
      refine OFin.to (s₁.setTop (mkF m 87 #[.val (.ref c'), .val (.int (Int32.ofNat i)), .val (.ref a), .val (.int (Int32.ofNat 4)), .val (.int (0 : Int32))] [])) (fun _ kt => XS.ifYes X0.here hx rfl (pc0 := 66) (pc' := 87) rfl (hb hby d6_66) rfl (XT.i0_eq_t (by decide)) (by decide) (by decide) kt) ?_
      refine OFin.to (s₁.setTop (mkF m 88 #[.val (.ref c'), .val (.int (Int32.ofNat i)), .val (.ref a), .val (.int (Int32.ofNat 4)), .val (.int (0 : Int32))] [(.int (0 : Int32))])) (fun _ kt => XS.iconst X0.here hx rfl (hb hby d6_87) kt) ?_
      refine OFin.to (s₁.setTop (mkF m 90 #[.val (.ref c'), .val (.int (Int32.ofNat i)), .val (.ref a), .val (.int (Int32.ofNat 4)), .val (.int (0 : Int32))] [])) (fun _ kt => XS.istore X0.here hx rfl (hb hby d6_88) rfl (l' := #[.val (.ref c'), .val (.int (Int32.ofNat i)), .val (.ref a), .val (.int (Int32.ofNat 4)), .val (.int (0 : Int32))]) rfl kt) ?_
      refine OFin.to (s₁.setTop (mkF m 91 #[.val (.ref c'), .val (.int (Int32.ofNat i)), .val (.ref a), .val (.int (Int32.ofNat 4)), .val (.int (0 : Int32))] [(.int (Int32.ofNat 4))])) (fun _ kt => XS.iloadN X0.here hx rfl (hb hby d6_90) rfl kt) ?_
      refine OFin.to (s₁.setTop (mkF m 92 #[.val (.ref c'), .val (.int (Int32.ofNat i)), .val (.ref a), .val (.int (Int32.ofNat 4)), .val (.int (0 : Int32))] [(.int (4 : Int32)), (.int (Int32.ofNat 4))])) (fun _ kt => XS.iconst X0.here hx rfl (hb hby d6_91) kt) ?_
      refine OFin.to (s₁.setTop (mkF m 95 #[.val (.ref c'), .val (.int (Int32.ofNat i)), .val (.ref a), .val (.int (Int32.ofNat 4)), .val (.int (0 : Int32))] [])) (fun _ kt => XS.icmpNo X0.here hx rfl (hb hby d6_92) rfl (XT.ii_lt_f (by decide)) kt) ?_
      refine OFin.to (s₁.setTop (mkF m 97 #[.val (.ref c'), .val (.int (Int32.ofNat i)), .val (.ref a), .val (.int (Int32.ofNat 4)), .val (.int (0 : Int32))] [(.int (0 : Int32))])) (fun _ kt => XS.iload X0.here hx rfl (hb hby d6_95) rfl kt) ?_
      refine OFin.to (s₁.setTop (mkF m 118 #[.val (.ref c'), .val (.int (Int32.ofNat i)), .val (.ref a), .val (.int (Int32.ofNat 4)), .val (.int (0 : Int32))] [])) (fun _ kt => XS.ifYes X0.here hx rfl (pc0 := 97) (pc' := 118) rfl (hb hby d6_97) rfl (XT.i0_eq_t (by decide)) (by decide) (by decide) kt) ?_
      refine OFin.to (s₁.setTop (mkF m 119 #[.val (.ref c'), .val (.int (Int32.ofNat i)), .val (.ref a), .val (.int (Int32.ofNat 4)), .val (.int (0 : Int32))] [(.int (0 : Int32))])) (fun _ kt => XS.iconst X0.here hx rfl (hb hby d6_118) kt) ?_
      refine OFin.to (s₁.setTop (mkF m 121 #[.val (.ref c'), .val (.int (Int32.ofNat i)), .val (.ref a), .val (.int (Int32.ofNat 4)), .val (.int (0 : Int32))] [])) (fun _ kt => XS.istore X0.here hx rfl (hb hby d6_119) rfl (l' := #[.val (.ref c'), .val (.int (Int32.ofNat i)), .val (.ref a), .val (.int (Int32.ofNat 4)), .val (.int (0 : Int32))]) rfl kt) ?_
      refine OFin.to (s₁.setTop (mkF m 123 #[.val (.ref c'), .val (.int (Int32.ofNat i)), .val (.ref a), .val (.int (Int32.ofNat 4)), .val (.int (0 : Int32))] [(.int (0 : Int32))])) (fun _ kt => XS.iload X0.here hx rfl (hb hby d6_121) rfl kt) ?_
      exact OFin.retZ X0 hx (t := .boolean) hret (by simp) hlk (hb hby d6_123) (Nat.zero_le _) (Nat.zero_le _) ⟨⟨0, by rw [own_nar0], Or.inr ⟨rfl, fun q => hc0 (by have h := q.2 3 (by decide); rw [show i + 1 - 4 + 3 = i - 0 by omega] at h; exact h.symm)⟩⟩, e0, rfl⟩
    refine OFin.to (s₁.setTop (mkF m 21 #[.val (.ref c'), .val (.int (Int32.ofNat i)), .val (.ref a), .val (.int (Int32.ofNat 4)), .unset] [])) (fun _ kt => XS.ifNo X0.here hx rfl (hb hby d6_18) rfl (XT.ll_ne_f hc0) kt) ?_
    refine OFin.to (s₁.setTop (mkF m 22 #[.val (.ref c'), .val (.int (Int32.ofNat i)), .val (.ref a), .val (.int (Int32.ofNat 4)), .unset] [(.int (1 : Int32))])) (fun _ kt => XS.iconst X0.here hx rfl (hb hby d6_21) kt) ?_
    refine OFin.to (s₁.setTop (mkF m 26 #[.val (.ref c'), .val (.int (Int32.ofNat i)), .val (.ref a), .val (.int (Int32.ofNat 4)), .unset] [(.int (1 : Int32))])) (fun _ kt => XS.goto X0.here hx rfl (pc0 := 22) (pc' := 26) rfl (hb hby d6_22) (by decide) (by decide) kt) ?_
    refine OFin.to (s₁.setTop (mkF m 28 #[.val (.ref c'), .val (.int (Int32.ofNat i)), .val (.ref a), .val (.int (Int32.ofNat 4)), .val (.int (1 : Int32))] [])) (fun _ kt => XS.istore X0.here hx rfl (hb hby d6_26) rfl (l' := #[.val (.ref c'), .val (.int (Int32.ofNat i)), .val (.ref a), .val (.int (Int32.ofNat 4)), .val (.int (1 : Int32))]) rfl kt) ?_
    refine OFin.to (s₁.setTop (mkF m 29 #[.val (.ref c'), .val (.int (Int32.ofNat i)), .val (.ref a), .val (.int (Int32.ofNat 4)), .val (.int (1 : Int32))] [(.int (Int32.ofNat 4))])) (fun _ kt => XS.iloadN X0.here hx rfl (hb hby d6_28) rfl kt) ?_
    refine OFin.to (s₁.setTop (mkF m 30 #[.val (.ref c'), .val (.int (Int32.ofNat i)), .val (.ref a), .val (.int (Int32.ofNat 4)), .val (.int (1 : Int32))] [(.int (2 : Int32)), (.int (Int32.ofNat 4))])) (fun _ kt => XS.iconst X0.here hx rfl (hb hby d6_29) kt) ?_
    refine OFin.to (s₁.setTop (mkF m 33 #[.val (.ref c'), .val (.int (Int32.ofNat i)), .val (.ref a), .val (.int (Int32.ofNat 4)), .val (.int (1 : Int32))] [])) (fun _ kt => XS.icmpNo X0.here hx rfl (hb hby d6_30) rfl (XT.ii_lt_f (by decide)) kt) ?_
    refine OFin.to (s₁.setTop (mkF m 35 #[.val (.ref c'), .val (.int (Int32.ofNat i)), .val (.ref a), .val (.int (Int32.ofNat 4)), .val (.int (1 : Int32))] [(.int (1 : Int32))])) (fun _ kt => XS.iload X0.here hx rfl (hb hby d6_33) rfl kt) ?_
    refine OFin.to (s₁.setTop (mkF m 38 #[.val (.ref c'), .val (.int (Int32.ofNat i)), .val (.ref a), .val (.int (Int32.ofNat 4)), .val (.int (1 : Int32))] [])) (fun _ kt => XS.ifNo X0.here hx rfl (hb hby d6_35) rfl (XT.i0_eq_f (by decide)) kt) ?_
    refine OFin.to (s₁.setTop (mkF m 39 #[.val (.ref c'), .val (.int (Int32.ofNat i)), .val (.ref a), .val (.int (Int32.ofNat 4)), .val (.int (1 : Int32))] [(.ref c')])) (fun _ kt => XS.aloadN X0.here hx rfl (hb hby d6_38) rfl rfl kt) ?_
    refine OFin.to (s₁.setTop (mkF m 40 #[.val (.ref c'), .val (.int (Int32.ofNat i)), .val (.ref a), .val (.int (Int32.ofNat 4)), .val (.int (1 : Int32))] [(.int (Int32.ofNat i)), (.ref c')])) (fun _ kt => XS.iloadN X0.here hx rfl (hb hby d6_39) rfl kt) ?_
    refine OFin.to (s₁.setTop (mkF m 41 #[.val (.ref c'), .val (.int (Int32.ofNat i)), .val (.ref a), .val (.int (Int32.ofNat 4)), .val (.int (1 : Int32))] [(.int (1 : Int32)), (.int (Int32.ofNat i)), (.ref c')])) (fun _ kt => XS.iconst X0.here hx rfl (hb hby d6_40) kt) ?_
    refine OFin.to (s₁.setTop (mkF m 42 #[.val (.ref c'), .val (.int (Int32.ofNat i)), .val (.ref a), .val (.int (Int32.ofNat 4)), .val (.int (1 : Int32))] [(.int ((Int32.ofNat i) - (1 : Int32))), (.ref c')])) (fun _ kt => XS.isub X0.here hx rfl (hb hby d6_41) rfl kt) ?_
    rw [show Int32.ofNat i - (1 : Int32) = Int32.ofNat (i - 1) from own_ofSubN i 1 (by omega) (by omega)]
    refine OFin.to (s₁.setTop (mkF m 43 #[.val (.ref c'), .val (.int (Int32.ofNat i)), .val (.ref a), .val (.int (Int32.ofNat 4)), .val (.int (1 : Int32))] [(.long (t (i - 1)))])) (fun _ kt => own_ldJ X0 hx hZ e0 Vt (j := (Int32.ofNat (i - 1))) (own_ix (i - 1) (by omega)).1 (by rw [(own_ix (i - 1) (by omega)).2, own_rat _ (by omega)]) (g := (mkF m 42 #[.val (.ref c'), .val (.int (Int32.ofNat i)), .val (.ref a), .val (.int (Int32.ofNat 4)), .val (.int (1 : Int32))] [(.int (Int32.ofNat (i - 1))), (.ref c')])) rfl rfl (hb hby d6_42) _ kt) ?_
    refine OFin.to (s₁.setTop (mkF m 44 #[.val (.ref c'), .val (.int (Int32.ofNat i)), .val (.ref a), .val (.int (Int32.ofNat 4)), .val (.int (1 : Int32))] [(.ref a), (.long (t (i - 1)))])) (fun _ kt => XS.aloadN X0.here hx rfl (hb hby d6_43) rfl rfl kt) ?_
    refine OFin.to (s₁.setTop (mkF m 45 #[.val (.ref c'), .val (.int (Int32.ofNat i)), .val (.ref a), .val (.int (Int32.ofNat 4)), .val (.int (1 : Int32))] [(.int (Int32.ofNat 4)), (.ref a), (.long (t (i - 1)))])) (fun _ kt => XS.iloadN X0.here hx rfl (hb hby d6_44) rfl kt) ?_
    refine OFin.to (s₁.setTop (mkF m 46 #[.val (.ref c'), .val (.int (Int32.ofNat i)), .val (.ref a), .val (.int (Int32.ofNat 4)), .val (.int (1 : Int32))] [(.int (2 : Int32)), (.int (Int32.ofNat 4)), (.ref a), (.long (t (i - 1)))])) (fun _ kt => XS.iconst X0.here hx rfl (hb hby d6_45) kt) ?_
    refine OFin.to (s₁.setTop (mkF m 47 #[.val (.ref c'), .val (.int (Int32.ofNat i)), .val (.ref a), .val (.int (Int32.ofNat 4)), .val (.int (1 : Int32))] [(.int ((Int32.ofNat 4) - (2 : Int32))), (.ref a), (.long (t (i - 1)))])) (fun _ kt => XS.isub X0.here hx rfl (hb hby d6_46) rfl kt) ?_
    rw [show Int32.ofNat 4 - (2 : Int32) = Int32.ofNat 2 from by decide]
    refine OFin.to (s₁.setTop (mkF m 48 #[.val (.ref c'), .val (.int (Int32.ofNat i)), .val (.ref a), .val (.int (Int32.ofNat 4)), .val (.int (1 : Int32))] [(.long (P 2)), (.long (t (i - 1)))])) (fun _ kt => own_ldJ X0 hx hZ e0 Va (j := (Int32.ofNat 2)) (own_ix (2) (by omega)).1 (by rw [(own_ix (2) (by omega)).2, own_rat _ (by decide)]) (g := (mkF m 47 #[.val (.ref c'), .val (.int (Int32.ofNat i)), .val (.ref a), .val (.int (Int32.ofNat 4)), .val (.int (1 : Int32))] [(.int (Int32.ofNat 2)), (.ref a), (.long (t (i - 1)))])) rfl rfl (hb hby d6_47) _ kt) ?_
    refine OFin.to (s₁.setTop (mkF m 49 #[.val (.ref c'), .val (.int (Int32.ofNat i)), .val (.ref a), .val (.int (Int32.ofNat 4)), .val (.int (1 : Int32))] [(.int (XT.cmpL (t (i - 1)) (P 2)))])) (fun _ kt => XT.lcmp X0.here hx rfl (hb hby d6_48) rfl kt) ?_
    by_cases hc1 : (t (i - 1)) = (P 2)
    case neg =>
      refine OFin.to (s₁.setTop (mkF m 56 #[.val (.ref c'), .val (.int (Int32.ofNat i)), .val (.ref a), .val (.int (Int32.ofNat 4)), .val (.int (1 : Int32))] [])) (fun _ kt => XS.ifYes X0.here hx rfl (pc0 := 49) (pc' := 56) rfl (hb hby d6_49) rfl (XT.ll_ne_t hc1) (by decide) (by decide) kt) ?_
      refine OFin.to (s₁.setTop (mkF m 57 #[.val (.ref c'), .val (.int (Int32.ofNat i)), .val (.ref a), .val (.int (Int32.ofNat 4)), .val (.int (1 : Int32))] [(.int (0 : Int32))])) (fun _ kt => XS.iconst X0.here hx rfl (hb hby d6_56) kt) ?_
      refine OFin.to (s₁.setTop (mkF m 59 #[.val (.ref c'), .val (.int (Int32.ofNat i)), .val (.ref a), .val (.int (Int32.ofNat 4)), .val (.int (0 : Int32))] [])) (fun _ kt => XS.istore X0.here hx rfl (hb hby d6_57) rfl (l' := #[.val (.ref c'), .val (.int (Int32.ofNat i)), .val (.ref a), .val (.int (Int32.ofNat 4)), .val (.int (0 : Int32))]) rfl kt) ?_
      refine OFin.to (s₁.setTop (mkF m 60 #[.val (.ref c'), .val (.int (Int32.ofNat i)), .val (.ref a), .val (.int (Int32.ofNat 4)), .val (.int (0 : Int32))] [(.int (Int32.ofNat 4))])) (fun _ kt => XS.iloadN X0.here hx rfl (hb hby d6_59) rfl kt) ?_
      refine OFin.to (s₁.setTop (mkF m 61 #[.val (.ref c'), .val (.int (Int32.ofNat i)), .val (.ref a), .val (.int (Int32.ofNat 4)), .val (.int (0 : Int32))] [(.int (3 : Int32)), (.int (Int32.ofNat 4))])) (fun _ kt => XS.iconst X0.here hx rfl (hb hby d6_60) kt) ?_
      refine OFin.to (s₁.setTop (mkF m 64 #[.val (.ref c'), .val (.int (Int32.ofNat i)), .val (.ref a), .val (.int (Int32.ofNat 4)), .val (.int (0 : Int32))] [])) (fun _ kt => XS.icmpNo X0.here hx rfl (hb hby d6_61) rfl (XT.ii_lt_f (by decide)) kt) ?_
      refine OFin.to (s₁.setTop (mkF m 66 #[.val (.ref c'), .val (.int (Int32.ofNat i)), .val (.ref a), .val (.int (Int32.ofNat 4)), .val (.int (0 : Int32))] [(.int (0 : Int32))])) (fun _ kt => XS.iload X0.here hx rfl (hb hby d6_64) rfl kt) ?_
      refine OFin.to (s₁.setTop (mkF m 87 #[.val (.ref c'), .val (.int (Int32.ofNat i)), .val (.ref a), .val (.int (Int32.ofNat 4)), .val (.int (0 : Int32))] [])) (fun _ kt => XS.ifYes X0.here hx rfl (pc0 := 66) (pc' := 87) rfl (hb hby d6_66) rfl (XT.i0_eq_t (by decide)) (by decide) (by decide) kt) ?_
      refine OFin.to (s₁.setTop (mkF m 88 #[.val (.ref c'), .val (.int (Int32.ofNat i)), .val (.ref a), .val (.int (Int32.ofNat 4)), .val (.int (0 : Int32))] [(.int (0 : Int32))])) (fun _ kt => XS.iconst X0.here hx rfl (hb hby d6_87) kt) ?_
      refine OFin.to (s₁.setTop (mkF m 90 #[.val (.ref c'), .val (.int (Int32.ofNat i)), .val (.ref a), .val (.int (Int32.ofNat 4)), .val (.int (0 : Int32))] [])) (fun _ kt => XS.istore X0.here hx rfl (hb hby d6_88) rfl (l' := #[.val (.ref c'), .val (.int (Int32.ofNat i)), .val (.ref a), .val (.int (Int32.ofNat 4)), .val (.int (0 : Int32))]) rfl kt) ?_
      refine OFin.to (s₁.setTop (mkF m 91 #[.val (.ref c'), .val (.int (Int32.ofNat i)), .val (.ref a), .val (.int (Int32.ofNat 4)), .val (.int (0 : Int32))] [(.int (Int32.ofNat 4))])) (fun _ kt => XS.iloadN X0.here hx rfl (hb hby d6_90) rfl kt) ?_
      refine OFin.to (s₁.setTop (mkF m 92 #[.val (.ref c'), .val (.int (Int32.ofNat i)), .val (.ref a), .val (.int (Int32.ofNat 4)), .val (.int (0 : Int32))] [(.int (4 : Int32)), (.int (Int32.ofNat 4))])) (fun _ kt => XS.iconst X0.here hx rfl (hb hby d6_91) kt) ?_
      refine OFin.to (s₁.setTop (mkF m 95 #[.val (.ref c'), .val (.int (Int32.ofNat i)), .val (.ref a), .val (.int (Int32.ofNat 4)), .val (.int (0 : Int32))] [])) (fun _ kt => XS.icmpNo X0.here hx rfl (hb hby d6_92) rfl (XT.ii_lt_f (by decide)) kt) ?_
      refine OFin.to (s₁.setTop (mkF m 97 #[.val (.ref c'), .val (.int (Int32.ofNat i)), .val (.ref a), .val (.int (Int32.ofNat 4)), .val (.int (0 : Int32))] [(.int (0 : Int32))])) (fun _ kt => XS.iload X0.here hx rfl (hb hby d6_95) rfl kt) ?_
      refine OFin.to (s₁.setTop (mkF m 118 #[.val (.ref c'), .val (.int (Int32.ofNat i)), .val (.ref a), .val (.int (Int32.ofNat 4)), .val (.int (0 : Int32))] [])) (fun _ kt => XS.ifYes X0.here hx rfl (pc0 := 97) (pc' := 118) rfl (hb hby d6_97) rfl (XT.i0_eq_t (by decide)) (by decide) (by decide) kt) ?_
      refine OFin.to (s₁.setTop (mkF m 119 #[.val (.ref c'), .val (.int (Int32.ofNat i)), .val (.ref a), .val (.int (Int32.ofNat 4)), .val (.int (0 : Int32))] [(.int (0 : Int32))])) (fun _ kt => XS.iconst X0.here hx rfl (hb hby d6_118) kt) ?_
      refine OFin.to (s₁.setTop (mkF m 121 #[.val (.ref c'), .val (.int (Int32.ofNat i)), .val (.ref a), .val (.int (Int32.ofNat 4)), .val (.int (0 : Int32))] [])) (fun _ kt => XS.istore X0.here hx rfl (hb hby d6_119) rfl (l' := #[.val (.ref c'), .val (.int (Int32.ofNat i)), .val (.ref a), .val (.int (Int32.ofNat 4)), .val (.int (0 : Int32))]) rfl kt) ?_
      refine OFin.to (s₁.setTop (mkF m 123 #[.val (.ref c'), .val (.int (Int32.ofNat i)), .val (.ref a), .val (.int (Int32.ofNat 4)), .val (.int (0 : Int32))] [(.int (0 : Int32))])) (fun _ kt => XS.iload X0.here hx rfl (hb hby d6_121) rfl kt) ?_
      exact OFin.retZ X0 hx (t := .boolean) hret (by simp) hlk (hb hby d6_123) (Nat.zero_le _) (Nat.zero_le _) ⟨⟨0, by rw [own_nar0], Or.inr ⟨rfl, fun q => hc1 (by have h := q.2 2 (by decide); rw [show i + 1 - 4 + 2 = i - 1 by omega] at h; exact h.symm)⟩⟩, e0, rfl⟩
    refine OFin.to (s₁.setTop (mkF m 52 #[.val (.ref c'), .val (.int (Int32.ofNat i)), .val (.ref a), .val (.int (Int32.ofNat 4)), .val (.int (1 : Int32))] [])) (fun _ kt => XS.ifNo X0.here hx rfl (hb hby d6_49) rfl (XT.ll_ne_f hc1) kt) ?_
    refine OFin.to (s₁.setTop (mkF m 53 #[.val (.ref c'), .val (.int (Int32.ofNat i)), .val (.ref a), .val (.int (Int32.ofNat 4)), .val (.int (1 : Int32))] [(.int (1 : Int32))])) (fun _ kt => XS.iconst X0.here hx rfl (hb hby d6_52) kt) ?_
    refine OFin.to (s₁.setTop (mkF m 57 #[.val (.ref c'), .val (.int (Int32.ofNat i)), .val (.ref a), .val (.int (Int32.ofNat 4)), .val (.int (1 : Int32))] [(.int (1 : Int32))])) (fun _ kt => XS.goto X0.here hx rfl (pc0 := 53) (pc' := 57) rfl (hb hby d6_53) (by decide) (by decide) kt) ?_
    refine OFin.to (s₁.setTop (mkF m 59 #[.val (.ref c'), .val (.int (Int32.ofNat i)), .val (.ref a), .val (.int (Int32.ofNat 4)), .val (.int (1 : Int32))] [])) (fun _ kt => XS.istore X0.here hx rfl (hb hby d6_57) rfl (l' := #[.val (.ref c'), .val (.int (Int32.ofNat i)), .val (.ref a), .val (.int (Int32.ofNat 4)), .val (.int (1 : Int32))]) rfl kt) ?_
    refine OFin.to (s₁.setTop (mkF m 60 #[.val (.ref c'), .val (.int (Int32.ofNat i)), .val (.ref a), .val (.int (Int32.ofNat 4)), .val (.int (1 : Int32))] [(.int (Int32.ofNat 4))])) (fun _ kt => XS.iloadN X0.here hx rfl (hb hby d6_59) rfl kt) ?_
    refine OFin.to (s₁.setTop (mkF m 61 #[.val (.ref c'), .val (.int (Int32.ofNat i)), .val (.ref a), .val (.int (Int32.ofNat 4)), .val (.int (1 : Int32))] [(.int (3 : Int32)), (.int (Int32.ofNat 4))])) (fun _ kt => XS.iconst X0.here hx rfl (hb hby d6_60) kt) ?_
    refine OFin.to (s₁.setTop (mkF m 64 #[.val (.ref c'), .val (.int (Int32.ofNat i)), .val (.ref a), .val (.int (Int32.ofNat 4)), .val (.int (1 : Int32))] [])) (fun _ kt => XS.icmpNo X0.here hx rfl (hb hby d6_61) rfl (XT.ii_lt_f (by decide)) kt) ?_
    refine OFin.to (s₁.setTop (mkF m 66 #[.val (.ref c'), .val (.int (Int32.ofNat i)), .val (.ref a), .val (.int (Int32.ofNat 4)), .val (.int (1 : Int32))] [(.int (1 : Int32))])) (fun _ kt => XS.iload X0.here hx rfl (hb hby d6_64) rfl kt) ?_
    refine OFin.to (s₁.setTop (mkF m 69 #[.val (.ref c'), .val (.int (Int32.ofNat i)), .val (.ref a), .val (.int (Int32.ofNat 4)), .val (.int (1 : Int32))] [])) (fun _ kt => XS.ifNo X0.here hx rfl (hb hby d6_66) rfl (XT.i0_eq_f (by decide)) kt) ?_
    refine OFin.to (s₁.setTop (mkF m 70 #[.val (.ref c'), .val (.int (Int32.ofNat i)), .val (.ref a), .val (.int (Int32.ofNat 4)), .val (.int (1 : Int32))] [(.ref c')])) (fun _ kt => XS.aloadN X0.here hx rfl (hb hby d6_69) rfl rfl kt) ?_
    refine OFin.to (s₁.setTop (mkF m 71 #[.val (.ref c'), .val (.int (Int32.ofNat i)), .val (.ref a), .val (.int (Int32.ofNat 4)), .val (.int (1 : Int32))] [(.int (Int32.ofNat i)), (.ref c')])) (fun _ kt => XS.iloadN X0.here hx rfl (hb hby d6_70) rfl kt) ?_
    refine OFin.to (s₁.setTop (mkF m 72 #[.val (.ref c'), .val (.int (Int32.ofNat i)), .val (.ref a), .val (.int (Int32.ofNat 4)), .val (.int (1 : Int32))] [(.int (2 : Int32)), (.int (Int32.ofNat i)), (.ref c')])) (fun _ kt => XS.iconst X0.here hx rfl (hb hby d6_71) kt) ?_
    refine OFin.to (s₁.setTop (mkF m 73 #[.val (.ref c'), .val (.int (Int32.ofNat i)), .val (.ref a), .val (.int (Int32.ofNat 4)), .val (.int (1 : Int32))] [(.int ((Int32.ofNat i) - (2 : Int32))), (.ref c')])) (fun _ kt => XS.isub X0.here hx rfl (hb hby d6_72) rfl kt) ?_
    rw [show Int32.ofNat i - (2 : Int32) = Int32.ofNat (i - 2) from own_ofSubN i 2 (by omega) (by omega)]
    refine OFin.to (s₁.setTop (mkF m 74 #[.val (.ref c'), .val (.int (Int32.ofNat i)), .val (.ref a), .val (.int (Int32.ofNat 4)), .val (.int (1 : Int32))] [(.long (t (i - 2)))])) (fun _ kt => own_ldJ X0 hx hZ e0 Vt (j := (Int32.ofNat (i - 2))) (own_ix (i - 2) (by omega)).1 (by rw [(own_ix (i - 2) (by omega)).2, own_rat _ (by omega)]) (g := (mkF m 73 #[.val (.ref c'), .val (.int (Int32.ofNat i)), .val (.ref a), .val (.int (Int32.ofNat 4)), .val (.int (1 : Int32))] [(.int (Int32.ofNat (i - 2))), (.ref c')])) rfl rfl (hb hby d6_73) _ kt) ?_
    refine OFin.to (s₁.setTop (mkF m 75 #[.val (.ref c'), .val (.int (Int32.ofNat i)), .val (.ref a), .val (.int (Int32.ofNat 4)), .val (.int (1 : Int32))] [(.ref a), (.long (t (i - 2)))])) (fun _ kt => XS.aloadN X0.here hx rfl (hb hby d6_74) rfl rfl kt) ?_
    refine OFin.to (s₁.setTop (mkF m 76 #[.val (.ref c'), .val (.int (Int32.ofNat i)), .val (.ref a), .val (.int (Int32.ofNat 4)), .val (.int (1 : Int32))] [(.int (Int32.ofNat 4)), (.ref a), (.long (t (i - 2)))])) (fun _ kt => XS.iloadN X0.here hx rfl (hb hby d6_75) rfl kt) ?_
    refine OFin.to (s₁.setTop (mkF m 77 #[.val (.ref c'), .val (.int (Int32.ofNat i)), .val (.ref a), .val (.int (Int32.ofNat 4)), .val (.int (1 : Int32))] [(.int (3 : Int32)), (.int (Int32.ofNat 4)), (.ref a), (.long (t (i - 2)))])) (fun _ kt => XS.iconst X0.here hx rfl (hb hby d6_76) kt) ?_
    refine OFin.to (s₁.setTop (mkF m 78 #[.val (.ref c'), .val (.int (Int32.ofNat i)), .val (.ref a), .val (.int (Int32.ofNat 4)), .val (.int (1 : Int32))] [(.int ((Int32.ofNat 4) - (3 : Int32))), (.ref a), (.long (t (i - 2)))])) (fun _ kt => XS.isub X0.here hx rfl (hb hby d6_77) rfl kt) ?_
    rw [show Int32.ofNat 4 - (3 : Int32) = Int32.ofNat 1 from by decide]
    refine OFin.to (s₁.setTop (mkF m 79 #[.val (.ref c'), .val (.int (Int32.ofNat i)), .val (.ref a), .val (.int (Int32.ofNat 4)), .val (.int (1 : Int32))] [(.long (P 1)), (.long (t (i - 2)))])) (fun _ kt => own_ldJ X0 hx hZ e0 Va (j := (Int32.ofNat 1)) (own_ix (1) (by omega)).1 (by rw [(own_ix (1) (by omega)).2, own_rat _ (by decide)]) (g := (mkF m 78 #[.val (.ref c'), .val (.int (Int32.ofNat i)), .val (.ref a), .val (.int (Int32.ofNat 4)), .val (.int (1 : Int32))] [(.int (Int32.ofNat 1)), (.ref a), (.long (t (i - 2)))])) rfl rfl (hb hby d6_78) _ kt) ?_
    refine OFin.to (s₁.setTop (mkF m 80 #[.val (.ref c'), .val (.int (Int32.ofNat i)), .val (.ref a), .val (.int (Int32.ofNat 4)), .val (.int (1 : Int32))] [(.int (XT.cmpL (t (i - 2)) (P 1)))])) (fun _ kt => XT.lcmp X0.here hx rfl (hb hby d6_79) rfl kt) ?_
    by_cases hc2 : (t (i - 2)) = (P 1)
    case neg =>
      refine OFin.to (s₁.setTop (mkF m 87 #[.val (.ref c'), .val (.int (Int32.ofNat i)), .val (.ref a), .val (.int (Int32.ofNat 4)), .val (.int (1 : Int32))] [])) (fun _ kt => XS.ifYes X0.here hx rfl (pc0 := 80) (pc' := 87) rfl (hb hby d6_80) rfl (XT.ll_ne_t hc2) (by decide) (by decide) kt) ?_
      refine OFin.to (s₁.setTop (mkF m 88 #[.val (.ref c'), .val (.int (Int32.ofNat i)), .val (.ref a), .val (.int (Int32.ofNat 4)), .val (.int (1 : Int32))] [(.int (0 : Int32))])) (fun _ kt => XS.iconst X0.here hx rfl (hb hby d6_87) kt) ?_
      refine OFin.to (s₁.setTop (mkF m 90 #[.val (.ref c'), .val (.int (Int32.ofNat i)), .val (.ref a), .val (.int (Int32.ofNat 4)), .val (.int (0 : Int32))] [])) (fun _ kt => XS.istore X0.here hx rfl (hb hby d6_88) rfl (l' := #[.val (.ref c'), .val (.int (Int32.ofNat i)), .val (.ref a), .val (.int (Int32.ofNat 4)), .val (.int (0 : Int32))]) rfl kt) ?_
      refine OFin.to (s₁.setTop (mkF m 91 #[.val (.ref c'), .val (.int (Int32.ofNat i)), .val (.ref a), .val (.int (Int32.ofNat 4)), .val (.int (0 : Int32))] [(.int (Int32.ofNat 4))])) (fun _ kt => XS.iloadN X0.here hx rfl (hb hby d6_90) rfl kt) ?_
      refine OFin.to (s₁.setTop (mkF m 92 #[.val (.ref c'), .val (.int (Int32.ofNat i)), .val (.ref a), .val (.int (Int32.ofNat 4)), .val (.int (0 : Int32))] [(.int (4 : Int32)), (.int (Int32.ofNat 4))])) (fun _ kt => XS.iconst X0.here hx rfl (hb hby d6_91) kt) ?_
      refine OFin.to (s₁.setTop (mkF m 95 #[.val (.ref c'), .val (.int (Int32.ofNat i)), .val (.ref a), .val (.int (Int32.ofNat 4)), .val (.int (0 : Int32))] [])) (fun _ kt => XS.icmpNo X0.here hx rfl (hb hby d6_92) rfl (XT.ii_lt_f (by decide)) kt) ?_
      refine OFin.to (s₁.setTop (mkF m 97 #[.val (.ref c'), .val (.int (Int32.ofNat i)), .val (.ref a), .val (.int (Int32.ofNat 4)), .val (.int (0 : Int32))] [(.int (0 : Int32))])) (fun _ kt => XS.iload X0.here hx rfl (hb hby d6_95) rfl kt) ?_
      refine OFin.to (s₁.setTop (mkF m 118 #[.val (.ref c'), .val (.int (Int32.ofNat i)), .val (.ref a), .val (.int (Int32.ofNat 4)), .val (.int (0 : Int32))] [])) (fun _ kt => XS.ifYes X0.here hx rfl (pc0 := 97) (pc' := 118) rfl (hb hby d6_97) rfl (XT.i0_eq_t (by decide)) (by decide) (by decide) kt) ?_
      refine OFin.to (s₁.setTop (mkF m 119 #[.val (.ref c'), .val (.int (Int32.ofNat i)), .val (.ref a), .val (.int (Int32.ofNat 4)), .val (.int (0 : Int32))] [(.int (0 : Int32))])) (fun _ kt => XS.iconst X0.here hx rfl (hb hby d6_118) kt) ?_
      refine OFin.to (s₁.setTop (mkF m 121 #[.val (.ref c'), .val (.int (Int32.ofNat i)), .val (.ref a), .val (.int (Int32.ofNat 4)), .val (.int (0 : Int32))] [])) (fun _ kt => XS.istore X0.here hx rfl (hb hby d6_119) rfl (l' := #[.val (.ref c'), .val (.int (Int32.ofNat i)), .val (.ref a), .val (.int (Int32.ofNat 4)), .val (.int (0 : Int32))]) rfl kt) ?_
      refine OFin.to (s₁.setTop (mkF m 123 #[.val (.ref c'), .val (.int (Int32.ofNat i)), .val (.ref a), .val (.int (Int32.ofNat 4)), .val (.int (0 : Int32))] [(.int (0 : Int32))])) (fun _ kt => XS.iload X0.here hx rfl (hb hby d6_121) rfl kt) ?_
      exact OFin.retZ X0 hx (t := .boolean) hret (by simp) hlk (hb hby d6_123) (Nat.zero_le _) (Nat.zero_le _) ⟨⟨0, by rw [own_nar0], Or.inr ⟨rfl, fun q => hc2 (by have h := q.2 1 (by decide); rw [show i + 1 - 4 + 1 = i - 2 by omega] at h; exact h.symm)⟩⟩, e0, rfl⟩
    refine OFin.to (s₁.setTop (mkF m 83 #[.val (.ref c'), .val (.int (Int32.ofNat i)), .val (.ref a), .val (.int (Int32.ofNat 4)), .val (.int (1 : Int32))] [])) (fun _ kt => XS.ifNo X0.here hx rfl (hb hby d6_80) rfl (XT.ll_ne_f hc2) kt) ?_
    refine OFin.to (s₁.setTop (mkF m 84 #[.val (.ref c'), .val (.int (Int32.ofNat i)), .val (.ref a), .val (.int (Int32.ofNat 4)), .val (.int (1 : Int32))] [(.int (1 : Int32))])) (fun _ kt => XS.iconst X0.here hx rfl (hb hby d6_83) kt) ?_
    refine OFin.to (s₁.setTop (mkF m 88 #[.val (.ref c'), .val (.int (Int32.ofNat i)), .val (.ref a), .val (.int (Int32.ofNat 4)), .val (.int (1 : Int32))] [(.int (1 : Int32))])) (fun _ kt => XS.goto X0.here hx rfl (pc0 := 84) (pc' := 88) rfl (hb hby d6_84) (by decide) (by decide) kt) ?_
    refine OFin.to (s₁.setTop (mkF m 90 #[.val (.ref c'), .val (.int (Int32.ofNat i)), .val (.ref a), .val (.int (Int32.ofNat 4)), .val (.int (1 : Int32))] [])) (fun _ kt => XS.istore X0.here hx rfl (hb hby d6_88) rfl (l' := #[.val (.ref c'), .val (.int (Int32.ofNat i)), .val (.ref a), .val (.int (Int32.ofNat 4)), .val (.int (1 : Int32))]) rfl kt) ?_
    refine OFin.to (s₁.setTop (mkF m 91 #[.val (.ref c'), .val (.int (Int32.ofNat i)), .val (.ref a), .val (.int (Int32.ofNat 4)), .val (.int (1 : Int32))] [(.int (Int32.ofNat 4))])) (fun _ kt => XS.iloadN X0.here hx rfl (hb hby d6_90) rfl kt) ?_
    refine OFin.to (s₁.setTop (mkF m 92 #[.val (.ref c'), .val (.int (Int32.ofNat i)), .val (.ref a), .val (.int (Int32.ofNat 4)), .val (.int (1 : Int32))] [(.int (4 : Int32)), (.int (Int32.ofNat 4))])) (fun _ kt => XS.iconst X0.here hx rfl (hb hby d6_91) kt) ?_
    refine OFin.to (s₁.setTop (mkF m 95 #[.val (.ref c'), .val (.int (Int32.ofNat i)), .val (.ref a), .val (.int (Int32.ofNat 4)), .val (.int (1 : Int32))] [])) (fun _ kt => XS.icmpNo X0.here hx rfl (hb hby d6_92) rfl (XT.ii_lt_f (by decide)) kt) ?_
    refine OFin.to (s₁.setTop (mkF m 97 #[.val (.ref c'), .val (.int (Int32.ofNat i)), .val (.ref a), .val (.int (Int32.ofNat 4)), .val (.int (1 : Int32))] [(.int (1 : Int32))])) (fun _ kt => XS.iload X0.here hx rfl (hb hby d6_95) rfl kt) ?_
    refine OFin.to (s₁.setTop (mkF m 100 #[.val (.ref c'), .val (.int (Int32.ofNat i)), .val (.ref a), .val (.int (Int32.ofNat 4)), .val (.int (1 : Int32))] [])) (fun _ kt => XS.ifNo X0.here hx rfl (hb hby d6_97) rfl (XT.i0_eq_f (by decide)) kt) ?_
    refine OFin.to (s₁.setTop (mkF m 101 #[.val (.ref c'), .val (.int (Int32.ofNat i)), .val (.ref a), .val (.int (Int32.ofNat 4)), .val (.int (1 : Int32))] [(.ref c')])) (fun _ kt => XS.aloadN X0.here hx rfl (hb hby d6_100) rfl rfl kt) ?_
    refine OFin.to (s₁.setTop (mkF m 102 #[.val (.ref c'), .val (.int (Int32.ofNat i)), .val (.ref a), .val (.int (Int32.ofNat 4)), .val (.int (1 : Int32))] [(.int (Int32.ofNat i)), (.ref c')])) (fun _ kt => XS.iloadN X0.here hx rfl (hb hby d6_101) rfl kt) ?_
    refine OFin.to (s₁.setTop (mkF m 103 #[.val (.ref c'), .val (.int (Int32.ofNat i)), .val (.ref a), .val (.int (Int32.ofNat 4)), .val (.int (1 : Int32))] [(.int (3 : Int32)), (.int (Int32.ofNat i)), (.ref c')])) (fun _ kt => XS.iconst X0.here hx rfl (hb hby d6_102) kt) ?_
    refine OFin.to (s₁.setTop (mkF m 104 #[.val (.ref c'), .val (.int (Int32.ofNat i)), .val (.ref a), .val (.int (Int32.ofNat 4)), .val (.int (1 : Int32))] [(.int ((Int32.ofNat i) - (3 : Int32))), (.ref c')])) (fun _ kt => XS.isub X0.here hx rfl (hb hby d6_103) rfl kt) ?_
    rw [show Int32.ofNat i - (3 : Int32) = Int32.ofNat (i - 3) from own_ofSubN i 3 (by omega) (by omega)]
    refine OFin.to (s₁.setTop (mkF m 105 #[.val (.ref c'), .val (.int (Int32.ofNat i)), .val (.ref a), .val (.int (Int32.ofNat 4)), .val (.int (1 : Int32))] [(.long (t (i - 3)))])) (fun _ kt => own_ldJ X0 hx hZ e0 Vt (j := (Int32.ofNat (i - 3))) (own_ix (i - 3) (by omega)).1 (by rw [(own_ix (i - 3) (by omega)).2, own_rat _ (by omega)]) (g := (mkF m 104 #[.val (.ref c'), .val (.int (Int32.ofNat i)), .val (.ref a), .val (.int (Int32.ofNat 4)), .val (.int (1 : Int32))] [(.int (Int32.ofNat (i - 3))), (.ref c')])) rfl rfl (hb hby d6_104) _ kt) ?_
    refine OFin.to (s₁.setTop (mkF m 106 #[.val (.ref c'), .val (.int (Int32.ofNat i)), .val (.ref a), .val (.int (Int32.ofNat 4)), .val (.int (1 : Int32))] [(.ref a), (.long (t (i - 3)))])) (fun _ kt => XS.aloadN X0.here hx rfl (hb hby d6_105) rfl rfl kt) ?_
    refine OFin.to (s₁.setTop (mkF m 107 #[.val (.ref c'), .val (.int (Int32.ofNat i)), .val (.ref a), .val (.int (Int32.ofNat 4)), .val (.int (1 : Int32))] [(.int (Int32.ofNat 4)), (.ref a), (.long (t (i - 3)))])) (fun _ kt => XS.iloadN X0.here hx rfl (hb hby d6_106) rfl kt) ?_
    refine OFin.to (s₁.setTop (mkF m 108 #[.val (.ref c'), .val (.int (Int32.ofNat i)), .val (.ref a), .val (.int (Int32.ofNat 4)), .val (.int (1 : Int32))] [(.int (4 : Int32)), (.int (Int32.ofNat 4)), (.ref a), (.long (t (i - 3)))])) (fun _ kt => XS.iconst X0.here hx rfl (hb hby d6_107) kt) ?_
    refine OFin.to (s₁.setTop (mkF m 109 #[.val (.ref c'), .val (.int (Int32.ofNat i)), .val (.ref a), .val (.int (Int32.ofNat 4)), .val (.int (1 : Int32))] [(.int ((Int32.ofNat 4) - (4 : Int32))), (.ref a), (.long (t (i - 3)))])) (fun _ kt => XS.isub X0.here hx rfl (hb hby d6_108) rfl kt) ?_
    rw [show Int32.ofNat 4 - (4 : Int32) = Int32.ofNat 0 from by decide]
    refine OFin.to (s₁.setTop (mkF m 110 #[.val (.ref c'), .val (.int (Int32.ofNat i)), .val (.ref a), .val (.int (Int32.ofNat 4)), .val (.int (1 : Int32))] [(.long (P 0)), (.long (t (i - 3)))])) (fun _ kt => own_ldJ X0 hx hZ e0 Va (j := (Int32.ofNat 0)) (own_ix (0) (by omega)).1 (by rw [(own_ix (0) (by omega)).2, own_rat _ (by decide)]) (g := (mkF m 109 #[.val (.ref c'), .val (.int (Int32.ofNat i)), .val (.ref a), .val (.int (Int32.ofNat 4)), .val (.int (1 : Int32))] [(.int (Int32.ofNat 0)), (.ref a), (.long (t (i - 3)))])) rfl rfl (hb hby d6_109) _ kt) ?_
    refine OFin.to (s₁.setTop (mkF m 111 #[.val (.ref c'), .val (.int (Int32.ofNat i)), .val (.ref a), .val (.int (Int32.ofNat 4)), .val (.int (1 : Int32))] [(.int (XT.cmpL (t (i - 3)) (P 0)))])) (fun _ kt => XT.lcmp X0.here hx rfl (hb hby d6_110) rfl kt) ?_
    by_cases hc3 : (t (i - 3)) = (P 0)
    case neg =>
      refine OFin.to (s₁.setTop (mkF m 118 #[.val (.ref c'), .val (.int (Int32.ofNat i)), .val (.ref a), .val (.int (Int32.ofNat 4)), .val (.int (1 : Int32))] [])) (fun _ kt => XS.ifYes X0.here hx rfl (pc0 := 111) (pc' := 118) rfl (hb hby d6_111) rfl (XT.ll_ne_t hc3) (by decide) (by decide) kt) ?_
      refine OFin.to (s₁.setTop (mkF m 119 #[.val (.ref c'), .val (.int (Int32.ofNat i)), .val (.ref a), .val (.int (Int32.ofNat 4)), .val (.int (1 : Int32))] [(.int (0 : Int32))])) (fun _ kt => XS.iconst X0.here hx rfl (hb hby d6_118) kt) ?_
      refine OFin.to (s₁.setTop (mkF m 121 #[.val (.ref c'), .val (.int (Int32.ofNat i)), .val (.ref a), .val (.int (Int32.ofNat 4)), .val (.int (0 : Int32))] [])) (fun _ kt => XS.istore X0.here hx rfl (hb hby d6_119) rfl (l' := #[.val (.ref c'), .val (.int (Int32.ofNat i)), .val (.ref a), .val (.int (Int32.ofNat 4)), .val (.int (0 : Int32))]) rfl kt) ?_
      refine OFin.to (s₁.setTop (mkF m 123 #[.val (.ref c'), .val (.int (Int32.ofNat i)), .val (.ref a), .val (.int (Int32.ofNat 4)), .val (.int (0 : Int32))] [(.int (0 : Int32))])) (fun _ kt => XS.iload X0.here hx rfl (hb hby d6_121) rfl kt) ?_
      exact OFin.retZ X0 hx (t := .boolean) hret (by simp) hlk (hb hby d6_123) (Nat.zero_le _) (Nat.zero_le _) ⟨⟨0, by rw [own_nar0], Or.inr ⟨rfl, fun q => hc3 (by have h := q.2 0 (by decide); rw [show i + 1 - 4 + 0 = i - 3 by omega] at h; exact h.symm)⟩⟩, e0, rfl⟩
    refine OFin.to (s₁.setTop (mkF m 114 #[.val (.ref c'), .val (.int (Int32.ofNat i)), .val (.ref a), .val (.int (Int32.ofNat 4)), .val (.int (1 : Int32))] [])) (fun _ kt => XS.ifNo X0.here hx rfl (hb hby d6_111) rfl (XT.ll_ne_f hc3) kt) ?_
    refine OFin.to (s₁.setTop (mkF m 115 #[.val (.ref c'), .val (.int (Int32.ofNat i)), .val (.ref a), .val (.int (Int32.ofNat 4)), .val (.int (1 : Int32))] [(.int (1 : Int32))])) (fun _ kt => XS.iconst X0.here hx rfl (hb hby d6_114) kt) ?_
    refine OFin.to (s₁.setTop (mkF m 119 #[.val (.ref c'), .val (.int (Int32.ofNat i)), .val (.ref a), .val (.int (Int32.ofNat 4)), .val (.int (1 : Int32))] [(.int (1 : Int32))])) (fun _ kt => XS.goto X0.here hx rfl (pc0 := 115) (pc' := 119) rfl (hb hby d6_115) (by decide) (by decide) kt) ?_
    refine OFin.to (s₁.setTop (mkF m 121 #[.val (.ref c'), .val (.int (Int32.ofNat i)), .val (.ref a), .val (.int (Int32.ofNat 4)), .val (.int (1 : Int32))] [])) (fun _ kt => XS.istore X0.here hx rfl (hb hby d6_119) rfl (l' := #[.val (.ref c'), .val (.int (Int32.ofNat i)), .val (.ref a), .val (.int (Int32.ofNat 4)), .val (.int (1 : Int32))]) rfl kt) ?_
    refine OFin.to (s₁.setTop (mkF m 123 #[.val (.ref c'), .val (.int (Int32.ofNat i)), .val (.ref a), .val (.int (Int32.ofNat 4)), .val (.int (1 : Int32))] [(.int (1 : Int32))])) (fun _ kt => XS.iload X0.here hx rfl (hb hby d6_121) rfl kt) ?_
    have hM : Mt P t (i + 1) 4 := ⟨by omega, fun x hx => by
        obtain rfl | rfl | rfl | rfl : x = 0 ∨ x = 1 ∨ x = 2 ∨ x = 3 := by omega
        · rw [show i + 1 - 4 + 0 = i - 3 by omega]; exact hc3.symm
        · rw [show i + 1 - 4 + 1 = i - 2 by omega]; exact hc2.symm
        · rw [show i + 1 - 4 + 2 = i - 1 by omega]; exact hc1.symm
        · rw [show i + 1 - 4 + 3 = i by omega]; exact hc0.symm⟩
    exact OFin.retZ X0 hx (t := .boolean) hret (by simp) hlk (hb hby d6_123) (Nat.zero_le _) (Nat.zero_le _) ⟨⟨1, by rw [own_nar1], Or.inl ⟨rfl, hM⟩⟩, e0, rfl⟩
theorem pn_0 : plainName "com/example/sarana/sarana/functions/collation/MatchedPrefixReadPinLaw" = true := by first | (simp [plainName, overriddenIn]; done) | decide +kernel
theorem ef_0 (m : MethodId) (q0 : Int64) (q1 : Int64) (q2 : Int64) (p3 : Int32) (p4 : Int32) : entryFrame m #[(.long q0), (.long q1), (.long q2), (.int p3), (.int p4)] maxLocals = mkF m 0 #[.val (.long q0), .second, .val (.long q1), .second, .val (.long q2), .second, .val (.int p3), .val (.int p4), .unset, .unset, .unset, .unset, .unset] [] := by first | (simp [entryFrame, mkF, argsToLocals, Value.category, maxLocals]; done) | rfl
set_option maxRecDepth 65536 in
set_option maxHeartbeats 40000000 in
theorem rm0 (l : Launch) (Z : State) (a0 : Array Value) (hw : ∀ d ∈ tables_1, d.before a0 Z = true) (ws : List Jvm.Cond) (q0 : Int64) (q1 : Int64) (q2 : Int64) (p3 : Int32) (p4 : Int32) (h0 : Heap) :
    MetFree l x (head1 (Jvm.Cond.code x code maxLocals ret :: ws) (room_1)) (fun a_ U => a_ = #[(.long q0), (.long q1), (.long q2), (.int p3), (.int p4)] ∧ Z.Warmed39 U.vm ∧ U.heap = h0) (fun _ _ _ _ _ => True) (fun _ U o_ U' => ∃ v L, o_ = .returned v ∧ OQ (fun v h L => v = some (.int (1 : Int32)) ∧ Fr h0.size L) v U'.heap L ∧ FrameEnd U o_ U' L (room_1).cells (room_1).slots) := by
  refine MetFree.of_bodySF (plainFor_of_name pn_0) hisR ?_
  intro p e s m args below meth c s₁ Bd hml0 hP hK
  obtain ⟨rfl, hZ, hh⟩ := hP
  have hx := Bd.exec
  have hby := Bd.bytes
  have hml : c.maxLocals = 13 := hml0
  have hown : s.vm.findClass "com/example/sarana/sarana/functions/collation/MatchedPrefixReadPinLaw" = some m.cls := findClass_of_methodNamed Bd.named
  have hnm := (name_of_methodNamed Bd.named Bd.method).1
  have hret := Bd.returns
  have hlk : meth.locks = false := Bd.notSynchronized
  have X0 : Stand p l e (room_1) s m #[(.long q0), (.long q1), (.long q2), (.int p3), (.int p4)] below meth c s₁ [] 0 0 := Stand.of_body Bd
  have e0 : s₁.heap = h0 := by rw [← hh, Bd.state]; rfl
  refine OFin.start (Q := fun v h L => v = some (.int (1 : Int32)) ∧ Fr h0.size L) (s := s) (fun t kt => castTop (ef_0 m q0 q1 q2 p3 p4) kt) ?_
  have J94 : ∀ (T : State) (h : Heap) (L : List Loc) (bp : Addr) (mm : Nat) (P : Nat → Int64), 1 ≤ mm → mm ≤ 4 → Stand p l e room_1 s m #[(.long q0), (.long q1), (.long q2), (.int p3), (.int p4)] below meth c T L 1 4 → T.heap = h → OFn Z h bp .long mm (fun j => .long (P j)) → Fr h0.size L → h0.size ≤ h.size → h0.size ≤ bp → OFin p e below s (room_1).cells (room_1).slots (fun v h L => v = some (.int (1 : Int32)) ∧ Fr h0.size L) (T.setTop (mkF m 94 #[.val (.long q0), .second, .val (.long q1), .second, .val (.long q2), .second, .val (.int p3), .val (.int p4), .val (.int (Int32.ofNat mm)), .val (.ref bp), .unset, .unset, .unset] [])) := by
    intro T h L bp mm P hm1 hm4 X eT Vp N Zh g_bp
    refine OFin.to (T.setTop (mkF m 96 #[.val (.long q0), .second, .val (.long q1), .second, .val (.long q2), .second, .val (.int p3), .val (.int p4), .val (.int (Int32.ofNat mm)), .val (.ref bp), .unset, .unset, .unset] [(.int (6 : Int32))])) (fun _ kt => XS.bipush X.here hx rfl (hb hby at_94) kt) ?_
    obtain ⟨T1, h1, X1, e1, E1, V1, st1⟩ := own_newP X hx hZ (hw _ (List.mem_of_getElem? (i := 0) rfl)) eT (g := (mkF m 96 #[.val (.long q0), .second, .val (.long q1), .second, .val (.long q2), .second, .val (.int p3), .val (.int p4), .val (.int (Int32.ofNat mm)), .val (.ref bp), .unset, .unset, .unset] [(.int (6 : Int32))])) rfl (hb hby at_96) rfl (by decide) 6 rfl (cap := 6) (Nat.le_refl _) (by decide) (by decide) (by decide)
    obtain ⟨b1, g1⟩ : ∃ z, z = h.size := ⟨_, rfl⟩
    rw [← g1] at V1 st1
    have g_b1 : h0.size ≤ b1 := by rw [g1]; exact Zh
    have ne_bp_b1 : bp ≠ b1 := by rw [g1]; exact Nat.ne_of_lt Vp.lt
    have Vp_1 := Vp.ext E1
    have Z1 := Nat.le_trans Zh E1.1
    have V_b1 : OArr Z h1 b1 .long [(.long (0 : Int64)), (.long (0 : Int64)), (.long (0 : Int64)), (.long (0 : Int64)), (.long (0 : Int64)), (.long (0 : Int64))] := V1
    refine OFin.to (T1.setTop (mkF m 98 #[.val (.long q0), .second, .val (.long q1), .second, .val (.long q2), .second, .val (.int p3), .val (.int p4), .val (.int (Int32.ofNat mm)), .val (.ref bp), .unset, .unset, .unset] [(.ref b1)])) st1 ?_
    refine OFin.to (T1.setTop (mkF m 100 #[.val (.long q0), .second, .val (.long q1), .second, .val (.long q2), .second, .val (.int p3), .val (.int p4), .val (.int (Int32.ofNat mm)), .val (.ref bp), .val (.ref b1), .unset, .unset] [])) (fun _ kt => XS.astore X1.here hx rfl (hb hby at_98) rfl rfl (l' := #[.val (.long q0), .second, .val (.long q1), .second, .val (.long q2), .second, .val (.int p3), .val (.int p4), .val (.int (Int32.ofNat mm)), .val (.ref bp), .val (.ref b1), .unset, .unset]) rfl kt) ?_
    refine OFin.to (T1.setTop (mkF m 102 #[.val (.long q0), .second, .val (.long q1), .second, .val (.long q2), .second, .val (.int p3), .val (.int p4), .val (.int (Int32.ofNat mm)), .val (.ref bp), .val (.ref b1), .unset, .unset] [(.ref b1)])) (fun _ kt => XS.aload X1.here hx rfl (hb hby at_100) rfl rfl kt) ?_
    refine OFin.to (T1.setTop (mkF m 103 #[.val (.long q0), .second, .val (.long q1), .second, .val (.long q2), .second, .val (.int p3), .val (.int p4), .val (.int (Int32.ofNat mm)), .val (.ref bp), .val (.ref b1), .unset, .unset] [(.int (0 : Int32)), (.ref b1)])) (fun _ kt => XS.iconst X1.here hx rfl (hb hby at_102) kt) ?_
    refine OFin.to (T1.setTop (mkF m 105 #[.val (.long q0), .second, .val (.long q1), .second, .val (.long q2), .second, .val (.int p3), .val (.int p4), .val (.int (Int32.ofNat mm)), .val (.ref bp), .val (.ref b1), .unset, .unset] [(.int p4), (.int (0 : Int32)), (.ref b1)])) (fun _ kt => XS.iload X1.here hx rfl (hb hby at_103) rfl kt) ?_
    refine OFin.to (T1.setTop (mkF m 106 #[.val (.long q0), .second, .val (.long q1), .second, .val (.long q2), .second, .val (.int p3), .val (.int p4), .val (.int (Int32.ofNat mm)), .val (.ref bp), .val (.ref b1), .unset, .unset] [(.long q0), (.int p4), (.int (0 : Int32)), (.ref b1)])) (fun _ kt => XS.lloadN X1.here hx rfl (hb hby at_105) rfl kt) ?_
    refine OFin.to (T1.setTop (mkF m 107 #[.val (.long q0), .second, .val (.long q1), .second, .val (.long q2), .second, .val (.int p3), .val (.int p4), .val (.int (Int32.ofNat mm)), .val (.ref bp), .val (.ref b1), .unset, .unset] [(.long q1), (.long q0), (.int p4), (.int (0 : Int32)), (.ref b1)])) (fun _ kt => XS.lloadN X1.here hx rfl (hb hby at_106) rfl kt) ?_
    refine OFin.to (T1.setTop (mkF m 109 #[.val (.long q0), .second, .val (.long q1), .second, .val (.long q2), .second, .val (.int p3), .val (.int p4), .val (.int (Int32.ofNat mm)), .val (.ref bp), .val (.ref b1), .unset, .unset] [(.long q2), (.long q1), (.long q0), (.int p4), (.int (0 : Int32)), (.ref b1)])) (fun _ kt => XS.lload X1.here hx rfl (hb hby at_107) rfl kt) ?_
    obtain ⟨v2, T2, L2, hQ2, X2, st2⟩ := own_callS X1 hx hZ hown (hw _ (List.mem_of_getElem? (i := 1) rfl)) (hw _ (List.mem_of_getElem? (i := 2) rfl)) (hw _ (List.mem_of_getElem? (i := 3) rfl)) (hw _ (List.mem_of_getElem? (i := 4) rfl)) (by decide) e1 (rm1 l Z a0 hw [] p4 q0 q1 q2 h1) 2 (by decide) (by decide) (by decide) (by decide) (g := (mkF m 109 #[.val (.long q0), .second, .val (.long q1), .second, .val (.long q2), .second, .val (.int p3), .val (.int p4), .val (.int (Int32.ofNat mm)), .val (.ref bp), .val (.ref b1), .unset, .unset] [(.long q2), (.long q1), (.long q0), (.int p4), (.int (0 : Int32)), (.ref b1)])) rfl (by rw [hml]; rfl) (rest := [(.int (0 : Int32)), (.ref b1)]) (lenOf pd_1 rfl) rfl (by show 2 * 0 + _ ≤ _; exact Nat.le_of_eq rfl) (hb hby at_109)
    obtain ⟨rfl, e2, rfl⟩ := hQ2
    rw [List.append_nil] at X2
    refine OFin.to (T2.setTop (mkF m 112 #[.val (.long q0), .second, .val (.long q1), .second, .val (.long q2), .second, .val (.int p3), .val (.int p4), .val (.int (Int32.ofNat mm)), .val (.ref bp), .val (.ref b1), .unset, .unset] [(.long (f1_0 p4 q0 q1 q2)), (.int (0 : Int32)), (.ref b1)])) st2 ?_
    obtain ⟨T3, h3, X3, e3, W3, V3, st3⟩ := own_stJ X2 hx hZ e2 V_b1 0 (by decide) rfl (Nat.le_of_ble_eq_true rfl) (g := (mkF m 112 #[.val (.long q0), .second, .val (.long q1), .second, .val (.long q2), .second, .val (.int p3), .val (.int p4), .val (.int (Int32.ofNat mm)), .val (.ref bp), .val (.ref b1), .unset, .unset] [(.long (f1_0 p4 q0 q1 q2)), (.int (0 : Int32)), (.ref b1)])) rfl rfl (hb hby at_112)
    have Vp_3 := Vp_1.other W3 ne_bp_b1
    have Z3 := Nat.le_trans Z1 (Keep.of_wr W3).1
    have V_b1_3 : OArr Z h3 b1 .long [(.long (f1_0 p4 q0 q1 q2)), (.long (0 : Int64)), (.long (0 : Int64)), (.long (0 : Int64)), (.long (0 : Int64)), (.long (0 : Int64))] := V3
    have N3 := Fr.snoc X3 N g_b1
    refine OFin.to (T3.setTop (mkF m 113 #[.val (.long q0), .second, .val (.long q1), .second, .val (.long q2), .second, .val (.int p3), .val (.int p4), .val (.int (Int32.ofNat mm)), .val (.ref bp), .val (.ref b1), .unset, .unset] [])) st3 ?_
    refine OFin.to (T3.setTop (mkF m 115 #[.val (.long q0), .second, .val (.long q1), .second, .val (.long q2), .second, .val (.int p3), .val (.int p4), .val (.int (Int32.ofNat mm)), .val (.ref bp), .val (.ref b1), .unset, .unset] [(.ref b1)])) (fun _ kt => XS.aload X3.here hx rfl (hb hby at_113) rfl rfl kt) ?_
    refine OFin.to (T3.setTop (mkF m 116 #[.val (.long q0), .second, .val (.long q1), .second, .val (.long q2), .second, .val (.int p3), .val (.int p4), .val (.int (Int32.ofNat mm)), .val (.ref bp), .val (.ref b1), .unset, .unset] [(.int (1 : Int32)), (.ref b1)])) (fun _ kt => XS.iconst X3.here hx rfl (hb hby at_115) kt) ?_
    refine OFin.to (T3.setTop (mkF m 118 #[.val (.long q0), .second, .val (.long q1), .second, .val (.long q2), .second, .val (.int p3), .val (.int p4), .val (.int (Int32.ofNat mm)), .val (.ref bp), .val (.ref b1), .unset, .unset] [(.int p4), (.int (1 : Int32)), (.ref b1)])) (fun _ kt => XS.iload X3.here hx rfl (hb hby at_116) rfl kt) ?_
    refine OFin.to (T3.setTop (mkF m 119 #[.val (.long q0), .second, .val (.long q1), .second, .val (.long q2), .second, .val (.int p3), .val (.int p4), .val (.int (Int32.ofNat mm)), .val (.ref bp), .val (.ref b1), .unset, .unset] [(.int (2 : Int32)), (.int p4), (.int (1 : Int32)), (.ref b1)])) (fun _ kt => XS.iconst X3.here hx rfl (hb hby at_118) kt) ?_
    refine OFin.to (T3.setTop (mkF m 120 #[.val (.long q0), .second, .val (.long q1), .second, .val (.long q2), .second, .val (.int p3), .val (.int p4), .val (.int (Int32.ofNat mm)), .val (.ref bp), .val (.ref b1), .unset, .unset] [(.int ((p4.toUInt32 >>> ((2 : Int32) &&& 31).toUInt32).toInt32)), (.int (1 : Int32)), (.ref b1)])) (fun _ kt => XS.iushr X3.here hx rfl (hb hby at_119) rfl kt) ?_
    refine OFin.to (T3.setTop (mkF m 121 #[.val (.long q0), .second, .val (.long q1), .second, .val (.long q2), .second, .val (.int p3), .val (.int p4), .val (.int (Int32.ofNat mm)), .val (.ref bp), .val (.ref b1), .unset, .unset] [(.long q0), (.int ((p4.toUInt32 >>> ((2 : Int32) &&& 31).toUInt32).toInt32)), (.int (1 : Int32)), (.ref b1)])) (fun _ kt => XS.lloadN X3.here hx rfl (hb hby at_120) rfl kt) ?_
    refine OFin.to (T3.setTop (mkF m 122 #[.val (.long q0), .second, .val (.long q1), .second, .val (.long q2), .second, .val (.int p3), .val (.int p4), .val (.int (Int32.ofNat mm)), .val (.ref bp), .val (.ref b1), .unset, .unset] [(.long q1), (.long q0), (.int ((p4.toUInt32 >>> ((2 : Int32) &&& 31).toUInt32).toInt32)), (.int (1 : Int32)), (.ref b1)])) (fun _ kt => XS.lloadN X3.here hx rfl (hb hby at_121) rfl kt) ?_
    refine OFin.to (T3.setTop (mkF m 124 #[.val (.long q0), .second, .val (.long q1), .second, .val (.long q2), .second, .val (.int p3), .val (.int p4), .val (.int (Int32.ofNat mm)), .val (.ref bp), .val (.ref b1), .unset, .unset] [(.long q2), (.long q1), (.long q0), (.int ((p4.toUInt32 >>> ((2 : Int32) &&& 31).toUInt32).toInt32)), (.int (1 : Int32)), (.ref b1)])) (fun _ kt => XS.lload X3.here hx rfl (hb hby at_122) rfl kt) ?_
    obtain ⟨v4, T4, L4, hQ4, X4, st4⟩ := own_callS X3 hx hZ hown (hw _ (List.mem_of_getElem? (i := 1) rfl)) (hw _ (List.mem_of_getElem? (i := 2) rfl)) (hw _ (List.mem_of_getElem? (i := 3) rfl)) (hw _ (List.mem_of_getElem? (i := 4) rfl)) (by decide) e3 (rm1 l Z a0 hw [] ((p4.toUInt32 >>> ((2 : Int32) &&& 31).toUInt32).toInt32) q0 q1 q2 h3) 2 (by decide) (by decide) (by decide) (by decide) (g := (mkF m 124 #[.val (.long q0), .second, .val (.long q1), .second, .val (.long q2), .second, .val (.int p3), .val (.int p4), .val (.int (Int32.ofNat mm)), .val (.ref bp), .val (.ref b1), .unset, .unset] [(.long q2), (.long q1), (.long q0), (.int ((p4.toUInt32 >>> ((2 : Int32) &&& 31).toUInt32).toInt32)), (.int (1 : Int32)), (.ref b1)])) rfl (by rw [hml]; rfl) (rest := [(.int (1 : Int32)), (.ref b1)]) (lenOf pd_1 rfl) rfl (by show 2 * 0 + _ ≤ _; exact Nat.le_of_eq rfl) (hb hby at_124)
    obtain ⟨rfl, e4, rfl⟩ := hQ4
    rw [List.append_nil] at X4
    refine OFin.to (T4.setTop (mkF m 127 #[.val (.long q0), .second, .val (.long q1), .second, .val (.long q2), .second, .val (.int p3), .val (.int p4), .val (.int (Int32.ofNat mm)), .val (.ref bp), .val (.ref b1), .unset, .unset] [(.long (f1_0 ((p4.toUInt32 >>> ((2 : Int32) &&& 31).toUInt32).toInt32) q0 q1 q2)), (.int (1 : Int32)), (.ref b1)])) st4 ?_
    obtain ⟨T5, h5, X5, e5, W5, V5, st5⟩ := own_stJ X4 hx hZ e4 V_b1_3 1 (by decide) rfl (Nat.le_of_ble_eq_true rfl) (g := (mkF m 127 #[.val (.long q0), .second, .val (.long q1), .second, .val (.long q2), .second, .val (.int p3), .val (.int p4), .val (.int (Int32.ofNat mm)), .val (.ref bp), .val (.ref b1), .unset, .unset] [(.long (f1_0 ((p4.toUInt32 >>> ((2 : Int32) &&& 31).toUInt32).toInt32) q0 q1 q2)), (.int (1 : Int32)), (.ref b1)])) rfl rfl (hb hby at_127)
    have Vp_5 := Vp_3.other W5 ne_bp_b1
    have Z5 := Nat.le_trans Z3 (Keep.of_wr W5).1
    have V_b1_5 : OArr Z h5 b1 .long [(.long (f1_0 p4 q0 q1 q2)), (.long (f1_0 ((p4.toUInt32 >>> ((2 : Int32) &&& 31).toUInt32).toInt32) q0 q1 q2)), (.long (0 : Int64)), (.long (0 : Int64)), (.long (0 : Int64)), (.long (0 : Int64))] := V5
    have N5 := Fr.snoc X5 N3 g_b1
    refine OFin.to (T5.setTop (mkF m 128 #[.val (.long q0), .second, .val (.long q1), .second, .val (.long q2), .second, .val (.int p3), .val (.int p4), .val (.int (Int32.ofNat mm)), .val (.ref bp), .val (.ref b1), .unset, .unset] [])) st5 ?_
    refine OFin.to (T5.setTop (mkF m 130 #[.val (.long q0), .second, .val (.long q1), .second, .val (.long q2), .second, .val (.int p3), .val (.int p4), .val (.int (Int32.ofNat mm)), .val (.ref bp), .val (.ref b1), .unset, .unset] [(.ref b1)])) (fun _ kt => XS.aload X5.here hx rfl (hb hby at_128) rfl rfl kt) ?_
    refine OFin.to (T5.setTop (mkF m 131 #[.val (.long q0), .second, .val (.long q1), .second, .val (.long q2), .second, .val (.int p3), .val (.int p4), .val (.int (Int32.ofNat mm)), .val (.ref bp), .val (.ref b1), .unset, .unset] [(.int (2 : Int32)), (.ref b1)])) (fun _ kt => XS.iconst X5.here hx rfl (hb hby at_130) kt) ?_
    refine OFin.to (T5.setTop (mkF m 133 #[.val (.long q0), .second, .val (.long q1), .second, .val (.long q2), .second, .val (.int p3), .val (.int p4), .val (.int (Int32.ofNat mm)), .val (.ref bp), .val (.ref b1), .unset, .unset] [(.int p4), (.int (2 : Int32)), (.ref b1)])) (fun _ kt => XS.iload X5.here hx rfl (hb hby at_131) rfl kt) ?_
    refine OFin.to (T5.setTop (mkF m 134 #[.val (.long q0), .second, .val (.long q1), .second, .val (.long q2), .second, .val (.int p3), .val (.int p4), .val (.int (Int32.ofNat mm)), .val (.ref bp), .val (.ref b1), .unset, .unset] [(.int (4 : Int32)), (.int p4), (.int (2 : Int32)), (.ref b1)])) (fun _ kt => XS.iconst X5.here hx rfl (hb hby at_133) kt) ?_
    refine OFin.to (T5.setTop (mkF m 135 #[.val (.long q0), .second, .val (.long q1), .second, .val (.long q2), .second, .val (.int p3), .val (.int p4), .val (.int (Int32.ofNat mm)), .val (.ref bp), .val (.ref b1), .unset, .unset] [(.int ((p4.toUInt32 >>> ((4 : Int32) &&& 31).toUInt32).toInt32)), (.int (2 : Int32)), (.ref b1)])) (fun _ kt => XS.iushr X5.here hx rfl (hb hby at_134) rfl kt) ?_
    refine OFin.to (T5.setTop (mkF m 136 #[.val (.long q0), .second, .val (.long q1), .second, .val (.long q2), .second, .val (.int p3), .val (.int p4), .val (.int (Int32.ofNat mm)), .val (.ref bp), .val (.ref b1), .unset, .unset] [(.long q0), (.int ((p4.toUInt32 >>> ((4 : Int32) &&& 31).toUInt32).toInt32)), (.int (2 : Int32)), (.ref b1)])) (fun _ kt => XS.lloadN X5.here hx rfl (hb hby at_135) rfl kt) ?_
    refine OFin.to (T5.setTop (mkF m 137 #[.val (.long q0), .second, .val (.long q1), .second, .val (.long q2), .second, .val (.int p3), .val (.int p4), .val (.int (Int32.ofNat mm)), .val (.ref bp), .val (.ref b1), .unset, .unset] [(.long q1), (.long q0), (.int ((p4.toUInt32 >>> ((4 : Int32) &&& 31).toUInt32).toInt32)), (.int (2 : Int32)), (.ref b1)])) (fun _ kt => XS.lloadN X5.here hx rfl (hb hby at_136) rfl kt) ?_
    refine OFin.to (T5.setTop (mkF m 139 #[.val (.long q0), .second, .val (.long q1), .second, .val (.long q2), .second, .val (.int p3), .val (.int p4), .val (.int (Int32.ofNat mm)), .val (.ref bp), .val (.ref b1), .unset, .unset] [(.long q2), (.long q1), (.long q0), (.int ((p4.toUInt32 >>> ((4 : Int32) &&& 31).toUInt32).toInt32)), (.int (2 : Int32)), (.ref b1)])) (fun _ kt => XS.lload X5.here hx rfl (hb hby at_137) rfl kt) ?_
    obtain ⟨v6, T6, L6, hQ6, X6, st6⟩ := own_callS X5 hx hZ hown (hw _ (List.mem_of_getElem? (i := 1) rfl)) (hw _ (List.mem_of_getElem? (i := 2) rfl)) (hw _ (List.mem_of_getElem? (i := 3) rfl)) (hw _ (List.mem_of_getElem? (i := 4) rfl)) (by decide) e5 (rm1 l Z a0 hw [] ((p4.toUInt32 >>> ((4 : Int32) &&& 31).toUInt32).toInt32) q0 q1 q2 h5) 2 (by decide) (by decide) (by decide) (by decide) (g := (mkF m 139 #[.val (.long q0), .second, .val (.long q1), .second, .val (.long q2), .second, .val (.int p3), .val (.int p4), .val (.int (Int32.ofNat mm)), .val (.ref bp), .val (.ref b1), .unset, .unset] [(.long q2), (.long q1), (.long q0), (.int ((p4.toUInt32 >>> ((4 : Int32) &&& 31).toUInt32).toInt32)), (.int (2 : Int32)), (.ref b1)])) rfl (by rw [hml]; rfl) (rest := [(.int (2 : Int32)), (.ref b1)]) (lenOf pd_1 rfl) rfl (by show 2 * 0 + _ ≤ _; exact Nat.le_of_eq rfl) (hb hby at_139)
    obtain ⟨rfl, e6, rfl⟩ := hQ6
    rw [List.append_nil] at X6
    refine OFin.to (T6.setTop (mkF m 142 #[.val (.long q0), .second, .val (.long q1), .second, .val (.long q2), .second, .val (.int p3), .val (.int p4), .val (.int (Int32.ofNat mm)), .val (.ref bp), .val (.ref b1), .unset, .unset] [(.long (f1_0 ((p4.toUInt32 >>> ((4 : Int32) &&& 31).toUInt32).toInt32) q0 q1 q2)), (.int (2 : Int32)), (.ref b1)])) st6 ?_
    obtain ⟨T7, h7, X7, e7, W7, V7, st7⟩ := own_stJ X6 hx hZ e6 V_b1_5 2 (by decide) rfl (Nat.le_of_ble_eq_true rfl) (g := (mkF m 142 #[.val (.long q0), .second, .val (.long q1), .second, .val (.long q2), .second, .val (.int p3), .val (.int p4), .val (.int (Int32.ofNat mm)), .val (.ref bp), .val (.ref b1), .unset, .unset] [(.long (f1_0 ((p4.toUInt32 >>> ((4 : Int32) &&& 31).toUInt32).toInt32) q0 q1 q2)), (.int (2 : Int32)), (.ref b1)])) rfl rfl (hb hby at_142)
    have Vp_7 := Vp_5.other W7 ne_bp_b1
    have Z7 := Nat.le_trans Z5 (Keep.of_wr W7).1
    have V_b1_7 : OArr Z h7 b1 .long [(.long (f1_0 p4 q0 q1 q2)), (.long (f1_0 ((p4.toUInt32 >>> ((2 : Int32) &&& 31).toUInt32).toInt32) q0 q1 q2)), (.long (f1_0 ((p4.toUInt32 >>> ((4 : Int32) &&& 31).toUInt32).toInt32) q0 q1 q2)), (.long (0 : Int64)), (.long (0 : Int64)), (.long (0 : Int64))] := V7
    have N7 := Fr.snoc X7 N5 g_b1
    refine OFin.to (T7.setTop (mkF m 143 #[.val (.long q0), .second, .val (.long q1), .second, .val (.long q2), .second, .val (.int p3), .val (.int p4), .val (.int (Int32.ofNat mm)), .val (.ref bp), .val (.ref b1), .unset, .unset] [])) st7 ?_
    refine OFin.to (T7.setTop (mkF m 145 #[.val (.long q0), .second, .val (.long q1), .second, .val (.long q2), .second, .val (.int p3), .val (.int p4), .val (.int (Int32.ofNat mm)), .val (.ref bp), .val (.ref b1), .unset, .unset] [(.ref b1)])) (fun _ kt => XS.aload X7.here hx rfl (hb hby at_143) rfl rfl kt) ?_
    refine OFin.to (T7.setTop (mkF m 146 #[.val (.long q0), .second, .val (.long q1), .second, .val (.long q2), .second, .val (.int p3), .val (.int p4), .val (.int (Int32.ofNat mm)), .val (.ref bp), .val (.ref b1), .unset, .unset] [(.int (3 : Int32)), (.ref b1)])) (fun _ kt => XS.iconst X7.here hx rfl (hb hby at_145) kt) ?_
    refine OFin.to (T7.setTop (mkF m 148 #[.val (.long q0), .second, .val (.long q1), .second, .val (.long q2), .second, .val (.int p3), .val (.int p4), .val (.int (Int32.ofNat mm)), .val (.ref bp), .val (.ref b1), .unset, .unset] [(.int p4), (.int (3 : Int32)), (.ref b1)])) (fun _ kt => XS.iload X7.here hx rfl (hb hby at_146) rfl kt) ?_
    refine OFin.to (T7.setTop (mkF m 150 #[.val (.long q0), .second, .val (.long q1), .second, .val (.long q2), .second, .val (.int p3), .val (.int p4), .val (.int (Int32.ofNat mm)), .val (.ref bp), .val (.ref b1), .unset, .unset] [(.int (6 : Int32)), (.int p4), (.int (3 : Int32)), (.ref b1)])) (fun _ kt => XS.bipush X7.here hx rfl (hb hby at_148) kt) ?_
    refine OFin.to (T7.setTop (mkF m 151 #[.val (.long q0), .second, .val (.long q1), .second, .val (.long q2), .second, .val (.int p3), .val (.int p4), .val (.int (Int32.ofNat mm)), .val (.ref bp), .val (.ref b1), .unset, .unset] [(.int ((p4.toUInt32 >>> ((6 : Int32) &&& 31).toUInt32).toInt32)), (.int (3 : Int32)), (.ref b1)])) (fun _ kt => XS.iushr X7.here hx rfl (hb hby at_150) rfl kt) ?_
    refine OFin.to (T7.setTop (mkF m 152 #[.val (.long q0), .second, .val (.long q1), .second, .val (.long q2), .second, .val (.int p3), .val (.int p4), .val (.int (Int32.ofNat mm)), .val (.ref bp), .val (.ref b1), .unset, .unset] [(.long q0), (.int ((p4.toUInt32 >>> ((6 : Int32) &&& 31).toUInt32).toInt32)), (.int (3 : Int32)), (.ref b1)])) (fun _ kt => XS.lloadN X7.here hx rfl (hb hby at_151) rfl kt) ?_
    refine OFin.to (T7.setTop (mkF m 153 #[.val (.long q0), .second, .val (.long q1), .second, .val (.long q2), .second, .val (.int p3), .val (.int p4), .val (.int (Int32.ofNat mm)), .val (.ref bp), .val (.ref b1), .unset, .unset] [(.long q1), (.long q0), (.int ((p4.toUInt32 >>> ((6 : Int32) &&& 31).toUInt32).toInt32)), (.int (3 : Int32)), (.ref b1)])) (fun _ kt => XS.lloadN X7.here hx rfl (hb hby at_152) rfl kt) ?_
    refine OFin.to (T7.setTop (mkF m 155 #[.val (.long q0), .second, .val (.long q1), .second, .val (.long q2), .second, .val (.int p3), .val (.int p4), .val (.int (Int32.ofNat mm)), .val (.ref bp), .val (.ref b1), .unset, .unset] [(.long q2), (.long q1), (.long q0), (.int ((p4.toUInt32 >>> ((6 : Int32) &&& 31).toUInt32).toInt32)), (.int (3 : Int32)), (.ref b1)])) (fun _ kt => XS.lload X7.here hx rfl (hb hby at_153) rfl kt) ?_
    obtain ⟨v8, T8, L8, hQ8, X8, st8⟩ := own_callS X7 hx hZ hown (hw _ (List.mem_of_getElem? (i := 1) rfl)) (hw _ (List.mem_of_getElem? (i := 2) rfl)) (hw _ (List.mem_of_getElem? (i := 3) rfl)) (hw _ (List.mem_of_getElem? (i := 4) rfl)) (by decide) e7 (rm1 l Z a0 hw [] ((p4.toUInt32 >>> ((6 : Int32) &&& 31).toUInt32).toInt32) q0 q1 q2 h7) 2 (by decide) (by decide) (by decide) (by decide) (g := (mkF m 155 #[.val (.long q0), .second, .val (.long q1), .second, .val (.long q2), .second, .val (.int p3), .val (.int p4), .val (.int (Int32.ofNat mm)), .val (.ref bp), .val (.ref b1), .unset, .unset] [(.long q2), (.long q1), (.long q0), (.int ((p4.toUInt32 >>> ((6 : Int32) &&& 31).toUInt32).toInt32)), (.int (3 : Int32)), (.ref b1)])) rfl (by rw [hml]; rfl) (rest := [(.int (3 : Int32)), (.ref b1)]) (lenOf pd_1 rfl) rfl (by show 2 * 0 + _ ≤ _; exact Nat.le_of_eq rfl) (hb hby at_155)
    obtain ⟨rfl, e8, rfl⟩ := hQ8
    rw [List.append_nil] at X8
    refine OFin.to (T8.setTop (mkF m 158 #[.val (.long q0), .second, .val (.long q1), .second, .val (.long q2), .second, .val (.int p3), .val (.int p4), .val (.int (Int32.ofNat mm)), .val (.ref bp), .val (.ref b1), .unset, .unset] [(.long (f1_0 ((p4.toUInt32 >>> ((6 : Int32) &&& 31).toUInt32).toInt32) q0 q1 q2)), (.int (3 : Int32)), (.ref b1)])) st8 ?_
    obtain ⟨T9, h9, X9, e9, W9, V9, st9⟩ := own_stJ X8 hx hZ e8 V_b1_7 3 (by decide) rfl (Nat.le_of_ble_eq_true rfl) (g := (mkF m 158 #[.val (.long q0), .second, .val (.long q1), .second, .val (.long q2), .second, .val (.int p3), .val (.int p4), .val (.int (Int32.ofNat mm)), .val (.ref bp), .val (.ref b1), .unset, .unset] [(.long (f1_0 ((p4.toUInt32 >>> ((6 : Int32) &&& 31).toUInt32).toInt32) q0 q1 q2)), (.int (3 : Int32)), (.ref b1)])) rfl rfl (hb hby at_158)
    have Vp_9 := Vp_7.other W9 ne_bp_b1
    have Z9 := Nat.le_trans Z7 (Keep.of_wr W9).1
    have V_b1_9 : OArr Z h9 b1 .long [(.long (f1_0 p4 q0 q1 q2)), (.long (f1_0 ((p4.toUInt32 >>> ((2 : Int32) &&& 31).toUInt32).toInt32) q0 q1 q2)), (.long (f1_0 ((p4.toUInt32 >>> ((4 : Int32) &&& 31).toUInt32).toInt32) q0 q1 q2)), (.long (f1_0 ((p4.toUInt32 >>> ((6 : Int32) &&& 31).toUInt32).toInt32) q0 q1 q2)), (.long (0 : Int64)), (.long (0 : Int64))] := V9
    have N9 := Fr.snoc X9 N7 g_b1
    refine OFin.to (T9.setTop (mkF m 159 #[.val (.long q0), .second, .val (.long q1), .second, .val (.long q2), .second, .val (.int p3), .val (.int p4), .val (.int (Int32.ofNat mm)), .val (.ref bp), .val (.ref b1), .unset, .unset] [])) st9 ?_
    refine OFin.to (T9.setTop (mkF m 161 #[.val (.long q0), .second, .val (.long q1), .second, .val (.long q2), .second, .val (.int p3), .val (.int p4), .val (.int (Int32.ofNat mm)), .val (.ref bp), .val (.ref b1), .unset, .unset] [(.ref b1)])) (fun _ kt => XS.aload X9.here hx rfl (hb hby at_159) rfl rfl kt) ?_
    refine OFin.to (T9.setTop (mkF m 162 #[.val (.long q0), .second, .val (.long q1), .second, .val (.long q2), .second, .val (.int p3), .val (.int p4), .val (.int (Int32.ofNat mm)), .val (.ref bp), .val (.ref b1), .unset, .unset] [(.int (4 : Int32)), (.ref b1)])) (fun _ kt => XS.iconst X9.here hx rfl (hb hby at_161) kt) ?_
    refine OFin.to (T9.setTop (mkF m 164 #[.val (.long q0), .second, .val (.long q1), .second, .val (.long q2), .second, .val (.int p3), .val (.int p4), .val (.int (Int32.ofNat mm)), .val (.ref bp), .val (.ref b1), .unset, .unset] [(.int p4), (.int (4 : Int32)), (.ref b1)])) (fun _ kt => XS.iload X9.here hx rfl (hb hby at_162) rfl kt) ?_
    refine OFin.to (T9.setTop (mkF m 166 #[.val (.long q0), .second, .val (.long q1), .second, .val (.long q2), .second, .val (.int p3), .val (.int p4), .val (.int (Int32.ofNat mm)), .val (.ref bp), .val (.ref b1), .unset, .unset] [(.int (8 : Int32)), (.int p4), (.int (4 : Int32)), (.ref b1)])) (fun _ kt => XS.bipush X9.here hx rfl (hb hby at_164) kt) ?_
    refine OFin.to (T9.setTop (mkF m 167 #[.val (.long q0), .second, .val (.long q1), .second, .val (.long q2), .second, .val (.int p3), .val (.int p4), .val (.int (Int32.ofNat mm)), .val (.ref bp), .val (.ref b1), .unset, .unset] [(.int ((p4.toUInt32 >>> ((8 : Int32) &&& 31).toUInt32).toInt32)), (.int (4 : Int32)), (.ref b1)])) (fun _ kt => XS.iushr X9.here hx rfl (hb hby at_166) rfl kt) ?_
    refine OFin.to (T9.setTop (mkF m 168 #[.val (.long q0), .second, .val (.long q1), .second, .val (.long q2), .second, .val (.int p3), .val (.int p4), .val (.int (Int32.ofNat mm)), .val (.ref bp), .val (.ref b1), .unset, .unset] [(.long q0), (.int ((p4.toUInt32 >>> ((8 : Int32) &&& 31).toUInt32).toInt32)), (.int (4 : Int32)), (.ref b1)])) (fun _ kt => XS.lloadN X9.here hx rfl (hb hby at_167) rfl kt) ?_
    refine OFin.to (T9.setTop (mkF m 169 #[.val (.long q0), .second, .val (.long q1), .second, .val (.long q2), .second, .val (.int p3), .val (.int p4), .val (.int (Int32.ofNat mm)), .val (.ref bp), .val (.ref b1), .unset, .unset] [(.long q1), (.long q0), (.int ((p4.toUInt32 >>> ((8 : Int32) &&& 31).toUInt32).toInt32)), (.int (4 : Int32)), (.ref b1)])) (fun _ kt => XS.lloadN X9.here hx rfl (hb hby at_168) rfl kt) ?_
    refine OFin.to (T9.setTop (mkF m 171 #[.val (.long q0), .second, .val (.long q1), .second, .val (.long q2), .second, .val (.int p3), .val (.int p4), .val (.int (Int32.ofNat mm)), .val (.ref bp), .val (.ref b1), .unset, .unset] [(.long q2), (.long q1), (.long q0), (.int ((p4.toUInt32 >>> ((8 : Int32) &&& 31).toUInt32).toInt32)), (.int (4 : Int32)), (.ref b1)])) (fun _ kt => XS.lload X9.here hx rfl (hb hby at_169) rfl kt) ?_
    obtain ⟨v10, T10, L10, hQ10, X10, st10⟩ := own_callS X9 hx hZ hown (hw _ (List.mem_of_getElem? (i := 1) rfl)) (hw _ (List.mem_of_getElem? (i := 2) rfl)) (hw _ (List.mem_of_getElem? (i := 3) rfl)) (hw _ (List.mem_of_getElem? (i := 4) rfl)) (by decide) e9 (rm1 l Z a0 hw [] ((p4.toUInt32 >>> ((8 : Int32) &&& 31).toUInt32).toInt32) q0 q1 q2 h9) 2 (by decide) (by decide) (by decide) (by decide) (g := (mkF m 171 #[.val (.long q0), .second, .val (.long q1), .second, .val (.long q2), .second, .val (.int p3), .val (.int p4), .val (.int (Int32.ofNat mm)), .val (.ref bp), .val (.ref b1), .unset, .unset] [(.long q2), (.long q1), (.long q0), (.int ((p4.toUInt32 >>> ((8 : Int32) &&& 31).toUInt32).toInt32)), (.int (4 : Int32)), (.ref b1)])) rfl (by rw [hml]; rfl) (rest := [(.int (4 : Int32)), (.ref b1)]) (lenOf pd_1 rfl) rfl (by show 2 * 0 + _ ≤ _; exact Nat.le_of_eq rfl) (hb hby at_171)
    obtain ⟨rfl, e10, rfl⟩ := hQ10
    rw [List.append_nil] at X10
    refine OFin.to (T10.setTop (mkF m 174 #[.val (.long q0), .second, .val (.long q1), .second, .val (.long q2), .second, .val (.int p3), .val (.int p4), .val (.int (Int32.ofNat mm)), .val (.ref bp), .val (.ref b1), .unset, .unset] [(.long (f1_0 ((p4.toUInt32 >>> ((8 : Int32) &&& 31).toUInt32).toInt32) q0 q1 q2)), (.int (4 : Int32)), (.ref b1)])) st10 ?_
    obtain ⟨T11, h11, X11, e11, W11, V11, st11⟩ := own_stJ X10 hx hZ e10 V_b1_9 4 (by decide) rfl (Nat.le_of_ble_eq_true rfl) (g := (mkF m 174 #[.val (.long q0), .second, .val (.long q1), .second, .val (.long q2), .second, .val (.int p3), .val (.int p4), .val (.int (Int32.ofNat mm)), .val (.ref bp), .val (.ref b1), .unset, .unset] [(.long (f1_0 ((p4.toUInt32 >>> ((8 : Int32) &&& 31).toUInt32).toInt32) q0 q1 q2)), (.int (4 : Int32)), (.ref b1)])) rfl rfl (hb hby at_174)
    have Vp_11 := Vp_9.other W11 ne_bp_b1
    have Z11 := Nat.le_trans Z9 (Keep.of_wr W11).1
    have V_b1_11 : OArr Z h11 b1 .long [(.long (f1_0 p4 q0 q1 q2)), (.long (f1_0 ((p4.toUInt32 >>> ((2 : Int32) &&& 31).toUInt32).toInt32) q0 q1 q2)), (.long (f1_0 ((p4.toUInt32 >>> ((4 : Int32) &&& 31).toUInt32).toInt32) q0 q1 q2)), (.long (f1_0 ((p4.toUInt32 >>> ((6 : Int32) &&& 31).toUInt32).toInt32) q0 q1 q2)), (.long (f1_0 ((p4.toUInt32 >>> ((8 : Int32) &&& 31).toUInt32).toInt32) q0 q1 q2)), (.long (0 : Int64))] := V11
    have N11 := Fr.snoc X11 N9 g_b1
    refine OFin.to (T11.setTop (mkF m 175 #[.val (.long q0), .second, .val (.long q1), .second, .val (.long q2), .second, .val (.int p3), .val (.int p4), .val (.int (Int32.ofNat mm)), .val (.ref bp), .val (.ref b1), .unset, .unset] [])) st11 ?_
    refine OFin.to (T11.setTop (mkF m 177 #[.val (.long q0), .second, .val (.long q1), .second, .val (.long q2), .second, .val (.int p3), .val (.int p4), .val (.int (Int32.ofNat mm)), .val (.ref bp), .val (.ref b1), .unset, .unset] [(.ref b1)])) (fun _ kt => XS.aload X11.here hx rfl (hb hby at_175) rfl rfl kt) ?_
    refine OFin.to (T11.setTop (mkF m 178 #[.val (.long q0), .second, .val (.long q1), .second, .val (.long q2), .second, .val (.int p3), .val (.int p4), .val (.int (Int32.ofNat mm)), .val (.ref bp), .val (.ref b1), .unset, .unset] [(.int (5 : Int32)), (.ref b1)])) (fun _ kt => XS.iconst X11.here hx rfl (hb hby at_177) kt) ?_
    refine OFin.to (T11.setTop (mkF m 180 #[.val (.long q0), .second, .val (.long q1), .second, .val (.long q2), .second, .val (.int p3), .val (.int p4), .val (.int (Int32.ofNat mm)), .val (.ref bp), .val (.ref b1), .unset, .unset] [(.int p4), (.int (5 : Int32)), (.ref b1)])) (fun _ kt => XS.iload X11.here hx rfl (hb hby at_178) rfl kt) ?_
    refine OFin.to (T11.setTop (mkF m 182 #[.val (.long q0), .second, .val (.long q1), .second, .val (.long q2), .second, .val (.int p3), .val (.int p4), .val (.int (Int32.ofNat mm)), .val (.ref bp), .val (.ref b1), .unset, .unset] [(.int (10 : Int32)), (.int p4), (.int (5 : Int32)), (.ref b1)])) (fun _ kt => XS.bipush X11.here hx rfl (hb hby at_180) kt) ?_
    refine OFin.to (T11.setTop (mkF m 183 #[.val (.long q0), .second, .val (.long q1), .second, .val (.long q2), .second, .val (.int p3), .val (.int p4), .val (.int (Int32.ofNat mm)), .val (.ref bp), .val (.ref b1), .unset, .unset] [(.int ((p4.toUInt32 >>> ((10 : Int32) &&& 31).toUInt32).toInt32)), (.int (5 : Int32)), (.ref b1)])) (fun _ kt => XS.iushr X11.here hx rfl (hb hby at_182) rfl kt) ?_
    refine OFin.to (T11.setTop (mkF m 184 #[.val (.long q0), .second, .val (.long q1), .second, .val (.long q2), .second, .val (.int p3), .val (.int p4), .val (.int (Int32.ofNat mm)), .val (.ref bp), .val (.ref b1), .unset, .unset] [(.long q0), (.int ((p4.toUInt32 >>> ((10 : Int32) &&& 31).toUInt32).toInt32)), (.int (5 : Int32)), (.ref b1)])) (fun _ kt => XS.lloadN X11.here hx rfl (hb hby at_183) rfl kt) ?_
    refine OFin.to (T11.setTop (mkF m 185 #[.val (.long q0), .second, .val (.long q1), .second, .val (.long q2), .second, .val (.int p3), .val (.int p4), .val (.int (Int32.ofNat mm)), .val (.ref bp), .val (.ref b1), .unset, .unset] [(.long q1), (.long q0), (.int ((p4.toUInt32 >>> ((10 : Int32) &&& 31).toUInt32).toInt32)), (.int (5 : Int32)), (.ref b1)])) (fun _ kt => XS.lloadN X11.here hx rfl (hb hby at_184) rfl kt) ?_
    refine OFin.to (T11.setTop (mkF m 187 #[.val (.long q0), .second, .val (.long q1), .second, .val (.long q2), .second, .val (.int p3), .val (.int p4), .val (.int (Int32.ofNat mm)), .val (.ref bp), .val (.ref b1), .unset, .unset] [(.long q2), (.long q1), (.long q0), (.int ((p4.toUInt32 >>> ((10 : Int32) &&& 31).toUInt32).toInt32)), (.int (5 : Int32)), (.ref b1)])) (fun _ kt => XS.lload X11.here hx rfl (hb hby at_185) rfl kt) ?_
    obtain ⟨v12, T12, L12, hQ12, X12, st12⟩ := own_callS X11 hx hZ hown (hw _ (List.mem_of_getElem? (i := 1) rfl)) (hw _ (List.mem_of_getElem? (i := 2) rfl)) (hw _ (List.mem_of_getElem? (i := 3) rfl)) (hw _ (List.mem_of_getElem? (i := 4) rfl)) (by decide) e11 (rm1 l Z a0 hw [] ((p4.toUInt32 >>> ((10 : Int32) &&& 31).toUInt32).toInt32) q0 q1 q2 h11) 2 (by decide) (by decide) (by decide) (by decide) (g := (mkF m 187 #[.val (.long q0), .second, .val (.long q1), .second, .val (.long q2), .second, .val (.int p3), .val (.int p4), .val (.int (Int32.ofNat mm)), .val (.ref bp), .val (.ref b1), .unset, .unset] [(.long q2), (.long q1), (.long q0), (.int ((p4.toUInt32 >>> ((10 : Int32) &&& 31).toUInt32).toInt32)), (.int (5 : Int32)), (.ref b1)])) rfl (by rw [hml]; rfl) (rest := [(.int (5 : Int32)), (.ref b1)]) (lenOf pd_1 rfl) rfl (by show 2 * 0 + _ ≤ _; exact Nat.le_of_eq rfl) (hb hby at_187)
    obtain ⟨rfl, e12, rfl⟩ := hQ12
    rw [List.append_nil] at X12
    refine OFin.to (T12.setTop (mkF m 190 #[.val (.long q0), .second, .val (.long q1), .second, .val (.long q2), .second, .val (.int p3), .val (.int p4), .val (.int (Int32.ofNat mm)), .val (.ref bp), .val (.ref b1), .unset, .unset] [(.long (f1_0 ((p4.toUInt32 >>> ((10 : Int32) &&& 31).toUInt32).toInt32) q0 q1 q2)), (.int (5 : Int32)), (.ref b1)])) st12 ?_
    obtain ⟨T13, h13, X13, e13, W13, V13, st13⟩ := own_stJ X12 hx hZ e12 V_b1_11 5 (by decide) rfl (Nat.le_of_ble_eq_true rfl) (g := (mkF m 190 #[.val (.long q0), .second, .val (.long q1), .second, .val (.long q2), .second, .val (.int p3), .val (.int p4), .val (.int (Int32.ofNat mm)), .val (.ref bp), .val (.ref b1), .unset, .unset] [(.long (f1_0 ((p4.toUInt32 >>> ((10 : Int32) &&& 31).toUInt32).toInt32) q0 q1 q2)), (.int (5 : Int32)), (.ref b1)])) rfl rfl (hb hby at_190)
    have Vp_13 := Vp_11.other W13 ne_bp_b1
    have Z13 := Nat.le_trans Z11 (Keep.of_wr W13).1
    have V_b1_13 : OArr Z h13 b1 .long [(.long (f1_0 p4 q0 q1 q2)), (.long (f1_0 ((p4.toUInt32 >>> ((2 : Int32) &&& 31).toUInt32).toInt32) q0 q1 q2)), (.long (f1_0 ((p4.toUInt32 >>> ((4 : Int32) &&& 31).toUInt32).toInt32) q0 q1 q2)), (.long (f1_0 ((p4.toUInt32 >>> ((6 : Int32) &&& 31).toUInt32).toInt32) q0 q1 q2)), (.long (f1_0 ((p4.toUInt32 >>> ((8 : Int32) &&& 31).toUInt32).toInt32) q0 q1 q2)), (.long (f1_0 ((p4.toUInt32 >>> ((10 : Int32) &&& 31).toUInt32).toInt32) q0 q1 q2))] := V13
    have N13 := Fr.snoc X13 N11 g_b1
    refine OFin.to (T13.setTop (mkF m 191 #[.val (.long q0), .second, .val (.long q1), .second, .val (.long q2), .second, .val (.int p3), .val (.int p4), .val (.int (Int32.ofNat mm)), .val (.ref bp), .val (.ref b1), .unset, .unset] [])) st13 ?_
    have Vt0 : OFn Z h13 b1 .long 6 (fun j => .long (own_t6 (f1_0 p4 q0 q1 q2) (f1_0 ((p4.toUInt32 >>> ((2 : Int32) &&& 31).toUInt32).toInt32) q0 q1 q2) (f1_0 ((p4.toUInt32 >>> ((4 : Int32) &&& 31).toUInt32).toInt32) q0 q1 q2) (f1_0 ((p4.toUInt32 >>> ((6 : Int32) &&& 31).toUInt32).toInt32) q0 q1 q2) (f1_0 ((p4.toUInt32 >>> ((8 : Int32) &&& 31).toUInt32).toInt32) q0 q1 q2) (f1_0 ((p4.toUInt32 >>> ((10 : Int32) &&& 31).toUInt32).toInt32) q0 q1 q2) j)) := V_b1_13
    obtain ⟨t, ht⟩ : ∃ t : Nat → Int64, t = own_t6 (f1_0 p4 q0 q1 q2) (f1_0 ((p4.toUInt32 >>> ((2 : Int32) &&& 31).toUInt32).toInt32) q0 q1 q2) (f1_0 ((p4.toUInt32 >>> ((4 : Int32) &&& 31).toUInt32).toInt32) q0 q1 q2) (f1_0 ((p4.toUInt32 >>> ((6 : Int32) &&& 31).toUInt32).toInt32) q0 q1 q2) (f1_0 ((p4.toUInt32 >>> ((8 : Int32) &&& 31).toUInt32).toInt32) q0 q1 q2) (f1_0 ((p4.toUInt32 >>> ((10 : Int32) &&& 31).toUInt32).toInt32) q0 q1 q2) := ⟨_, rfl⟩
    rw [← ht] at Vt0
    obtain ⟨T14, h14, X14, e14, E14, A14, D14, -, st14⟩ := newO X13 hx hZ hown (hw _ (List.mem_of_getElem? (i := 5) rfl)) (hw _ (List.mem_of_getElem? (i := 6) rfl)) (hw _ (List.mem_of_getElem? (i := 7) rfl)) e13 (g := (mkF m 191 #[.val (.long q0), .second, .val (.long q1), .second, .val (.long q2), .second, .val (.int p3), .val (.int p4), .val (.int (Int32.ofNat mm)), .val (.ref bp), .val (.ref b1), .unset, .unset] [])) rfl (hb hby at_191) (by decide) (by decide)
    obtain ⟨b14, g14⟩ : ∃ z, z = h13.size := ⟨_, rfl⟩
    rw [← g14] at A14 D14 st14
    have g_b14 : h0.size ≤ b14 := by rw [g14]; exact Z13
    have ne_b1_b14 : b1 ≠ b14 := by rw [g14]; exact Nat.ne_of_lt Vt0.lt
    have ne_bp_b14 : bp ≠ b14 := by rw [g14]; exact Nat.ne_of_lt Vp_13.lt
    have Vp_14 := Vp_13.ext E14
    have Vt0_14 := Vt0.ext E14
    have Z14 := Nat.le_trans Z13 E14.1
    have E_b14 := A14
    have F_part_b14 : Fld Z h14 b14 "com/example/sarana/sarana/functions/collation/MatchedPrefix" "part" "[J" .null := D14 (Or.inr (hw _ (List.mem_of_getElem? (i := 15) rfl))) (ty := (.array .long)) (by decide)
    have F_borders_b14 : Fld Z h14 b14 "com/example/sarana/sarana/functions/collation/MatchedPrefix" "borders" "[I" .null := D14 (Or.inr (hw _ (List.mem_of_getElem? (i := 21) rfl))) (ty := (.array .int)) (by decide)
    have F_length_b14 : Fld Z h14 b14 "com/example/sarana/sarana/functions/collation/MatchedPrefix" "length" "I" (.int (0 : Int32)) := D14 (Or.inl (hw _ (List.mem_of_getElem? (i := 28) rfl))) (ty := .int) (by decide)
    refine OFin.to (T14.setTop (mkF m 194 #[.val (.long q0), .second, .val (.long q1), .second, .val (.long q2), .second, .val (.int p3), .val (.int p4), .val (.int (Int32.ofNat mm)), .val (.ref bp), .val (.ref b1), .unset, .unset] [(.ref b14)])) st14 ?_
    refine OFin.to (T14.setTop (mkF m 195 #[.val (.long q0), .second, .val (.long q1), .second, .val (.long q2), .second, .val (.int p3), .val (.int p4), .val (.int (Int32.ofNat mm)), .val (.ref bp), .val (.ref b1), .unset, .unset] [(.ref b14), (.ref b14)])) (fun _ kt => XS.dup X14.here hx rfl (hb hby at_194) rfl rfl kt) ?_
    refine OFin.to (T14.setTop (mkF m 197 #[.val (.long q0), .second, .val (.long q1), .second, .val (.long q2), .second, .val (.int p3), .val (.int p4), .val (.int (Int32.ofNat mm)), .val (.ref bp), .val (.ref b1), .unset, .unset] [(.ref bp), (.ref b14), (.ref b14)])) (fun _ kt => XS.aload X14.here hx rfl (hb hby at_195) rfl rfl kt) ?_
    obtain ⟨v15, T15, L15, hQ15, X15, st15⟩ := own_callN X14 hx hZ hown rfl (hw _ (List.mem_of_getElem? (i := 8) rfl)) (hw _ (List.mem_of_getElem? (i := 9) rfl)) (hw _ (List.mem_of_getElem? (i := 10) rfl)) (hw _ (List.mem_of_getElem? (i := 7) rfl)) (by decide) e14 (rm2 l Z a0 hw [] b14 bp mm hm1 hm4 P h14 h0.size Z14 g_b14 E_b14 F_part_b14 F_borders_b14 F_length_b14 Vp_14) 1 (by decide) (by decide) (by decide) (by decide) (g := (mkF m 197 #[.val (.long q0), .second, .val (.long q1), .second, .val (.long q2), .second, .val (.int p3), .val (.int p4), .val (.int (Int32.ofNat mm)), .val (.ref bp), .val (.ref b1), .unset, .unset] [(.ref bp), (.ref b14), (.ref b14)])) rfl (by rw [hml]; rfl) (rest := [(.ref b14)]) (lenOf pd_2 rfl) rfl (by show 2 * 0 + _ ≤ _; exact Nat.le_of_eq rfl) (hb hby at_197)
    obtain ⟨rfl, bb, B, gbb, E1, F1, F2, F3, Vb, hB, K1, M1⟩ := hQ15
    refine OFin.to (T15.setTop (mkF m 200 #[.val (.long q0), .second, .val (.long q1), .second, .val (.long q2), .second, .val (.int p3), .val (.int p4), .val (.int (Int32.ofNat mm)), .val (.ref bp), .val (.ref b1), .unset, .unset] [(.ref b14)])) st15 ?_
    have Vp1 := Vp_14.keep K1 (ninS ne_bp_b14 nin0)
    have Vt1 := Vt0_14.keep K1 (ninS ne_b1_b14 nin0)
    have HO0 : Exa Z T15.heap b14 "com/example/sarana/sarana/functions/collation/MatchedPrefix" ∧ Fld Z T15.heap b14 "com/example/sarana/sarana/functions/collation/MatchedPrefix" "part" "[J" (.ref bp) ∧ Fld Z T15.heap b14 "com/example/sarana/sarana/functions/collation/MatchedPrefix" "borders" "[I" (.ref bb) ∧ Fld Z T15.heap b14 "com/example/sarana/sarana/functions/collation/MatchedPrefix" "length" "I" (.int (Int32.ofNat 0)) := ⟨E1, F1, F2, F3⟩
    have N1q := Fr.app N13 M1
    have neb : bb ≠ b14 := own_neVO E1 (hw _ (List.mem_of_getElem? (i := 6) rfl)) Vb
    have hM0 : Mx P t 0 mm 0 := Mx.start (by omega)
    refine OFin.to (T15.setTop (mkF m 202 #[.val (.long q0), .second, .val (.long q1), .second, .val (.long q2), .second, .val (.int p3), .val (.int p4), .val (.int (Int32.ofNat mm)), .val (.ref bp), .val (.ref b1), .val (.ref b14), .unset] [])) (fun _ kt => XS.astore X15.here hx rfl (hb hby at_200) rfl rfl (l' := #[.val (.long q0), .second, .val (.long q1), .second, .val (.long q2), .second, .val (.int p3), .val (.int p4), .val (.int (Int32.ofNat mm)), .val (.ref bp), .val (.ref b1), .val (.ref b14), .unset]) rfl kt) ?_
    refine OFin.to (T15.setTop (mkF m 203 #[.val (.long q0), .second, .val (.long q1), .second, .val (.long q2), .second, .val (.int p3), .val (.int p4), .val (.int (Int32.ofNat mm)), .val (.ref bp), .val (.ref b1), .val (.ref b14), .unset] [(.int (1 : Int32))])) (fun _ kt => XS.iconst X15.here hx rfl (hb hby at_202) kt) ?_
    refine OFin.to (T15.setTop (mkF m 205 #[.val (.long q0), .second, .val (.long q1), .second, .val (.long q2), .second, .val (.int p3), .val (.int p4), .val (.int (Int32.ofNat mm)), .val (.ref bp), .val (.ref b1), .val (.ref b14), .val (.int (1 : Int32))] [])) (fun _ kt => XS.istore X15.here hx rfl (hb hby at_203) rfl (l' := #[.val (.long q0), .second, .val (.long q1), .second, .val (.long q2), .second, .val (.int p3), .val (.int p4), .val (.int (Int32.ofNat mm)), .val (.ref bp), .val (.ref b1), .val (.ref b14), .val (.int (1 : Int32))]) rfl kt) ?_
    refine OFin.to (T15.setTop (mkF m 207 #[.val (.long q0), .second, .val (.long q1), .second, .val (.long q2), .second, .val (.int p3), .val (.int p4), .val (.int (Int32.ofNat mm)), .val (.ref bp), .val (.ref b1), .val (.ref b14), .val (.int (1 : Int32))] [(.ref b14)])) (fun _ kt => XS.aload X15.here hx rfl (hb hby at_205) rfl rfl kt) ?_
    refine OFin.to (T15.setTop (mkF m 209 #[.val (.long q0), .second, .val (.long q1), .second, .val (.long q2), .second, .val (.int p3), .val (.int p4), .val (.int (Int32.ofNat mm)), .val (.ref bp), .val (.ref b1), .val (.ref b14), .val (.int (1 : Int32))] [(.ref b1), (.ref b14)])) (fun _ kt => XS.aload X15.here hx rfl (hb hby at_207) rfl rfl kt) ?_
    refine OFin.to (T15.setTop (mkF m 210 #[.val (.long q0), .second, .val (.long q1), .second, .val (.long q2), .second, .val (.int p3), .val (.int p4), .val (.int (Int32.ofNat mm)), .val (.ref bp), .val (.ref b1), .val (.ref b14), .val (.int (1 : Int32))] [(.int (0 : Int32)), (.ref b1), (.ref b14)])) (fun _ kt => XS.iconst X15.here hx rfl (hb hby at_209) kt) ?_
    refine OFin.to (T15.setTop (mkF m 211 #[.val (.long q0), .second, .val (.long q1), .second, .val (.long q2), .second, .val (.int p3), .val (.int p4), .val (.int (Int32.ofNat mm)), .val (.ref bp), .val (.ref b1), .val (.ref b14), .val (.int (1 : Int32))] [(.long (t 0)), (.ref b14)])) (fun _ kt => own_ldJ X15 hx hZ rfl Vt1 (j := (0 : Int32)) (by decide) (own_rat _ (by decide)) (g := (mkF m 210 #[.val (.long q0), .second, .val (.long q1), .second, .val (.long q2), .second, .val (.int p3), .val (.int p4), .val (.int (Int32.ofNat mm)), .val (.ref bp), .val (.ref b1), .val (.ref b14), .val (.int (1 : Int32))] [(.int (0 : Int32)), (.ref b1), (.ref b14)])) rfl rfl (hb hby at_210) _ kt) ?_
    obtain ⟨v16, T16, L16, hQ16, X16, st16⟩ := own_callV X15 hx hZ hown (hw _ (List.mem_of_getElem? (i := 22) rfl)) (hw _ (List.mem_of_getElem? (i := 23) rfl)) (hw _ (List.mem_of_getElem? (i := 25) rfl)) (hw _ (List.mem_of_getElem? (i := 24) rfl)) (hw _ (List.mem_of_getElem? (i := 26) rfl)) (hw _ (List.mem_of_getElem? (i := 7) rfl)) (by decide) rfl HO0.1 (rm5 l Z a0 hw [] b14 bp bb mm hm1 hm4 P t B 0 0 (t 0) rfl hB hM0 T15.heap h0.size g_b14 HO0 Vp1 Vb) 0 (by decide) (by decide) (by decide) (by decide) (g := (mkF m 211 #[.val (.long q0), .second, .val (.long q1), .second, .val (.long q2), .second, .val (.int p3), .val (.int p4), .val (.int (Int32.ofNat mm)), .val (.ref bp), .val (.ref b1), .val (.ref b14), .val (.int (1 : Int32))] [(.long (t 0)), (.ref b14)])) rfl (by rw [hml]; rfl) (rest := []) (lenOf pd_3 rfl) rfl (by show 2 * 0 + _ ≤ _; exact Nat.le_of_eq rfl) (hb hby at_211)
    obtain ⟨rk0, qk0, rfl, Sk0, Mk0, HOk0, Kk0, Nk0⟩ := hQ16
    refine OFin.to (T16.setTop (mkF m 214 #[.val (.long q0), .second, .val (.long q1), .second, .val (.long q2), .second, .val (.int p3), .val (.int p4), .val (.int (Int32.ofNat mm)), .val (.ref bp), .val (.ref b1), .val (.ref b14), .val (.int (1 : Int32))] [(.int rk0)])) st16 ?_
    have Vpk0 := Vp1.keep Kk0 (ninS ne_bp_b14 nin0)
    have Vtk0 := Vt1.keep Kk0 (ninS ne_b1_b14 nin0)
    have Vbk0 := Vb.keep Kk0 (ninS neb nin0)
    have Nqk0 := Fr.app N1q Nk0
    refine OFin.to (T16.setTop (mkF m 216 #[.val (.long q0), .second, .val (.long q1), .second, .val (.long q2), .second, .val (.int p3), .val (.int p4), .val (.int (Int32.ofNat mm)), .val (.ref bp), .val (.ref b1), .val (.ref b14), .val (.int (1 : Int32))] [(.ref b1), (.int rk0)])) (fun _ kt => XS.aload X16.here hx rfl (hb hby at_214) rfl rfl kt) ?_
    refine OFin.to (T16.setTop (mkF m 217 #[.val (.long q0), .second, .val (.long q1), .second, .val (.long q2), .second, .val (.int p3), .val (.int p4), .val (.int (Int32.ofNat mm)), .val (.ref bp), .val (.ref b1), .val (.ref b14), .val (.int (1 : Int32))] [(.int (0 : Int32)), (.ref b1), (.int rk0)])) (fun _ kt => XS.iconst X16.here hx rfl (hb hby at_216) kt) ?_
    refine OFin.to (T16.setTop (mkF m 219 #[.val (.long q0), .second, .val (.long q1), .second, .val (.long q2), .second, .val (.int p3), .val (.int p4), .val (.int (Int32.ofNat mm)), .val (.ref bp), .val (.ref b1), .val (.ref b14), .val (.int (1 : Int32))] [(.ref bp), (.int (0 : Int32)), (.ref b1), (.int rk0)])) (fun _ kt => XS.aload X16.here hx rfl (hb hby at_217) rfl rfl kt) ?_
    refine OFin.to (T16.setTop (mkF m 221 #[.val (.long q0), .second, .val (.long q1), .second, .val (.long q2), .second, .val (.int p3), .val (.int p4), .val (.int (Int32.ofNat mm)), .val (.ref bp), .val (.ref b1), .val (.ref b14), .val (.int (1 : Int32))] [(.int (Int32.ofNat mm)), (.ref bp), (.int (0 : Int32)), (.ref b1), (.int rk0)])) (fun _ kt => XS.iload X16.here hx rfl (hb hby at_219) rfl kt) ?_
    refine OFin.to (T16.setTop (mkF m 221 #[.val (.long q0), .second, .val (.long q1), .second, .val (.long q2), .second, .val (.int p3), .val (.int p4), .val (.int (Int32.ofNat mm)), .val (.ref bp), .val (.ref b1), .val (.ref b14), .val (.int (1 : Int32))] [(.int (Int32.ofNat mm)), (.ref bp), (.int (Int32.ofNat 0)), (.ref b1), (.int rk0)])) (fun _ kt => kt) ?_
    obtain ⟨v17, T17, L17, hQ17, X17, st17⟩ := own_callS X16 hx hZ hown (hw _ (List.mem_of_getElem? (i := 29) rfl)) (hw _ (List.mem_of_getElem? (i := 30) rfl)) (hw _ (List.mem_of_getElem? (i := 3) rfl)) (hw _ (List.mem_of_getElem? (i := 31) rfl)) (by decide) rfl (rm6 l Z a0 hw [] b1 bp 0 mm (by decide) hm1 hm4 P t T16.heap Vtk0 Vpk0) 1 (by decide) (by decide) (by decide) (by decide) (g := (mkF m 221 #[.val (.long q0), .second, .val (.long q1), .second, .val (.long q2), .second, .val (.int p3), .val (.int p4), .val (.int (Int32.ofNat mm)), .val (.ref bp), .val (.ref b1), .val (.ref b14), .val (.int (1 : Int32))] [(.int (Int32.ofNat mm)), (.ref bp), (.int (Int32.ofNat 0)), (.ref b1), (.int rk0)])) rfl (by rw [hml]; rfl) (rest := [(.int rk0)]) (lenOf pd_4 rfl) rfl (by show 2 * 0 + _ ≤ _; exact Nat.le_of_eq rfl) (hb hby at_221)
    obtain ⟨⟨sk0, rfl, Rk0⟩, e17, rfl⟩ := hQ17
    rw [List.append_nil] at X17
    refine OFin.to (T17.setTop (mkF m 224 #[.val (.long q0), .second, .val (.long q1), .second, .val (.long q2), .second, .val (.int p3), .val (.int p4), .val (.int (Int32.ofNat mm)), .val (.ref bp), .val (.ref b1), .val (.ref b14), .val (.int (1 : Int32))] [(.int sk0), (.int rk0)])) st17 ?_
    refine OFin.to (T17.setTop (mkF m 227 #[.val (.long q0), .second, .val (.long q1), .second, .val (.long q2), .second, .val (.int p3), .val (.int p4), .val (.int (Int32.ofNat mm)), .val (.ref bp), .val (.ref b1), .val (.ref b14), .val (.int (1 : Int32))] [])) (fun _ kt => XS.icmpNo X17.here hx rfl (hb hby at_224) rfl (XT.ii_ne_f (own_same Sk0 Rk0)) kt) ?_
    refine OFin.to (T17.setTop (mkF m 229 #[.val (.long q0), .second, .val (.long q1), .second, .val (.long q2), .second, .val (.int p3), .val (.int p4), .val (.int (Int32.ofNat mm)), .val (.ref bp), .val (.ref b1), .val (.ref b14), .val (.int (1 : Int32))] [(.int (1 : Int32))])) (fun _ kt => XS.iload X17.here hx rfl (hb hby at_227) rfl kt) ?_
    refine OFin.to (T17.setTop (mkF m 232 #[.val (.long q0), .second, .val (.long q1), .second, .val (.long q2), .second, .val (.int p3), .val (.int p4), .val (.int (Int32.ofNat mm)), .val (.ref bp), .val (.ref b1), .val (.ref b14), .val (.int (1 : Int32))] [])) (fun _ kt => XS.ifNo X17.here hx rfl (hb hby at_229) rfl (XT.i0_eq_f (by decide)) kt) ?_
    refine OFin.to (T17.setTop (mkF m 233 #[.val (.long q0), .second, .val (.long q1), .second, .val (.long q2), .second, .val (.int p3), .val (.int p4), .val (.int (Int32.ofNat mm)), .val (.ref bp), .val (.ref b1), .val (.ref b14), .val (.int (1 : Int32))] [(.int (1 : Int32))])) (fun _ kt => XS.iconst X17.here hx rfl (hb hby at_232) kt) ?_
    refine OFin.to (T17.setTop (mkF m 237 #[.val (.long q0), .second, .val (.long q1), .second, .val (.long q2), .second, .val (.int p3), .val (.int p4), .val (.int (Int32.ofNat mm)), .val (.ref bp), .val (.ref b1), .val (.ref b14), .val (.int (1 : Int32))] [(.int (1 : Int32))])) (fun _ kt => XS.goto X17.here hx rfl (pc0 := 233) (pc' := 237) rfl (hb hby at_233) (by decide) (by decide) kt) ?_
    refine OFin.to (T17.setTop (mkF m 239 #[.val (.long q0), .second, .val (.long q1), .second, .val (.long q2), .second, .val (.int p3), .val (.int p4), .val (.int (Int32.ofNat mm)), .val (.ref bp), .val (.ref b1), .val (.ref b14), .val (.int (1 : Int32))] [])) (fun _ kt => XS.istore X17.here hx rfl (hb hby at_237) rfl (l' := #[.val (.long q0), .second, .val (.long q1), .second, .val (.long q2), .second, .val (.int p3), .val (.int p4), .val (.int (Int32.ofNat mm)), .val (.ref bp), .val (.ref b1), .val (.ref b14), .val (.int (1 : Int32))]) rfl kt) ?_
    refine OFin.to (T17.setTop (mkF m 241 #[.val (.long q0), .second, .val (.long q1), .second, .val (.long q2), .second, .val (.int p3), .val (.int p4), .val (.int (Int32.ofNat mm)), .val (.ref bp), .val (.ref b1), .val (.ref b14), .val (.int (1 : Int32))] [(.ref b14)])) (fun _ kt => XS.aload X17.here hx rfl (hb hby at_239) rfl rfl kt) ?_
    refine OFin.to (T17.setTop (mkF m 243 #[.val (.long q0), .second, .val (.long q1), .second, .val (.long q2), .second, .val (.int p3), .val (.int p4), .val (.int (Int32.ofNat mm)), .val (.ref bp), .val (.ref b1), .val (.ref b14), .val (.int (1 : Int32))] [(.ref b1), (.ref b14)])) (fun _ kt => XS.aload X17.here hx rfl (hb hby at_241) rfl rfl kt) ?_
    refine OFin.to (T17.setTop (mkF m 244 #[.val (.long q0), .second, .val (.long q1), .second, .val (.long q2), .second, .val (.int p3), .val (.int p4), .val (.int (Int32.ofNat mm)), .val (.ref bp), .val (.ref b1), .val (.ref b14), .val (.int (1 : Int32))] [(.int (1 : Int32)), (.ref b1), (.ref b14)])) (fun _ kt => XS.iconst X17.here hx rfl (hb hby at_243) kt) ?_
    refine OFin.to (T17.setTop (mkF m 245 #[.val (.long q0), .second, .val (.long q1), .second, .val (.long q2), .second, .val (.int p3), .val (.int p4), .val (.int (Int32.ofNat mm)), .val (.ref bp), .val (.ref b1), .val (.ref b14), .val (.int (1 : Int32))] [(.long (t 1)), (.ref b14)])) (fun _ kt => own_ldJ X17 hx hZ e17 Vtk0 (j := (1 : Int32)) (by decide) (own_rat _ (by decide)) (g := (mkF m 244 #[.val (.long q0), .second, .val (.long q1), .second, .val (.long q2), .second, .val (.int p3), .val (.int p4), .val (.int (Int32.ofNat mm)), .val (.ref bp), .val (.ref b1), .val (.ref b14), .val (.int (1 : Int32))] [(.int (1 : Int32)), (.ref b1), (.ref b14)])) rfl rfl (hb hby at_244) _ kt) ?_
    obtain ⟨v18, T18, L18, hQ18, X18, st18⟩ := own_callV X17 hx hZ hown (hw _ (List.mem_of_getElem? (i := 22) rfl)) (hw _ (List.mem_of_getElem? (i := 23) rfl)) (hw _ (List.mem_of_getElem? (i := 25) rfl)) (hw _ (List.mem_of_getElem? (i := 24) rfl)) (hw _ (List.mem_of_getElem? (i := 26) rfl)) (hw _ (List.mem_of_getElem? (i := 7) rfl)) (by decide) e17 HOk0.1 (rm5 l Z a0 hw [] b14 bp bb mm hm1 hm4 P t B 1 qk0 (t 1) rfl hB Mk0 T16.heap h0.size g_b14 HOk0 Vpk0 Vbk0) 0 (by decide) (by decide) (by decide) (by decide) (g := (mkF m 245 #[.val (.long q0), .second, .val (.long q1), .second, .val (.long q2), .second, .val (.int p3), .val (.int p4), .val (.int (Int32.ofNat mm)), .val (.ref bp), .val (.ref b1), .val (.ref b14), .val (.int (1 : Int32))] [(.long (t 1)), (.ref b14)])) rfl (by rw [hml]; rfl) (rest := []) (lenOf pd_3 rfl) rfl (by show 2 * 0 + _ ≤ _; exact Nat.le_of_eq rfl) (hb hby at_245)
    obtain ⟨rk1, qk1, rfl, Sk1, Mk1, HOk1, Kk1, Nk1⟩ := hQ18
    refine OFin.to (T18.setTop (mkF m 248 #[.val (.long q0), .second, .val (.long q1), .second, .val (.long q2), .second, .val (.int p3), .val (.int p4), .val (.int (Int32.ofNat mm)), .val (.ref bp), .val (.ref b1), .val (.ref b14), .val (.int (1 : Int32))] [(.int rk1)])) st18 ?_
    have Vpk1 := Vpk0.keep Kk1 (ninS ne_bp_b14 nin0)
    have Vtk1 := Vtk0.keep Kk1 (ninS ne_b1_b14 nin0)
    have Vbk1 := Vbk0.keep Kk1 (ninS neb nin0)
    have Nqk1 := Fr.app Nqk0 Nk1
    refine OFin.to (T18.setTop (mkF m 250 #[.val (.long q0), .second, .val (.long q1), .second, .val (.long q2), .second, .val (.int p3), .val (.int p4), .val (.int (Int32.ofNat mm)), .val (.ref bp), .val (.ref b1), .val (.ref b14), .val (.int (1 : Int32))] [(.ref b1), (.int rk1)])) (fun _ kt => XS.aload X18.here hx rfl (hb hby at_248) rfl rfl kt) ?_
    refine OFin.to (T18.setTop (mkF m 251 #[.val (.long q0), .second, .val (.long q1), .second, .val (.long q2), .second, .val (.int p3), .val (.int p4), .val (.int (Int32.ofNat mm)), .val (.ref bp), .val (.ref b1), .val (.ref b14), .val (.int (1 : Int32))] [(.int (1 : Int32)), (.ref b1), (.int rk1)])) (fun _ kt => XS.iconst X18.here hx rfl (hb hby at_250) kt) ?_
    refine OFin.to (T18.setTop (mkF m 253 #[.val (.long q0), .second, .val (.long q1), .second, .val (.long q2), .second, .val (.int p3), .val (.int p4), .val (.int (Int32.ofNat mm)), .val (.ref bp), .val (.ref b1), .val (.ref b14), .val (.int (1 : Int32))] [(.ref bp), (.int (1 : Int32)), (.ref b1), (.int rk1)])) (fun _ kt => XS.aload X18.here hx rfl (hb hby at_251) rfl rfl kt) ?_
    refine OFin.to (T18.setTop (mkF m 255 #[.val (.long q0), .second, .val (.long q1), .second, .val (.long q2), .second, .val (.int p3), .val (.int p4), .val (.int (Int32.ofNat mm)), .val (.ref bp), .val (.ref b1), .val (.ref b14), .val (.int (1 : Int32))] [(.int (Int32.ofNat mm)), (.ref bp), (.int (1 : Int32)), (.ref b1), (.int rk1)])) (fun _ kt => XS.iload X18.here hx rfl (hb hby at_253) rfl kt) ?_
    refine OFin.to (T18.setTop (mkF m 255 #[.val (.long q0), .second, .val (.long q1), .second, .val (.long q2), .second, .val (.int p3), .val (.int p4), .val (.int (Int32.ofNat mm)), .val (.ref bp), .val (.ref b1), .val (.ref b14), .val (.int (1 : Int32))] [(.int (Int32.ofNat mm)), (.ref bp), (.int (Int32.ofNat 1)), (.ref b1), (.int rk1)])) (fun _ kt => kt) ?_
    obtain ⟨v19, T19, L19, hQ19, X19, st19⟩ := own_callS X18 hx hZ hown (hw _ (List.mem_of_getElem? (i := 29) rfl)) (hw _ (List.mem_of_getElem? (i := 30) rfl)) (hw _ (List.mem_of_getElem? (i := 3) rfl)) (hw _ (List.mem_of_getElem? (i := 31) rfl)) (by decide) rfl (rm6 l Z a0 hw [] b1 bp 1 mm (by decide) hm1 hm4 P t T18.heap Vtk1 Vpk1) 1 (by decide) (by decide) (by decide) (by decide) (g := (mkF m 255 #[.val (.long q0), .second, .val (.long q1), .second, .val (.long q2), .second, .val (.int p3), .val (.int p4), .val (.int (Int32.ofNat mm)), .val (.ref bp), .val (.ref b1), .val (.ref b14), .val (.int (1 : Int32))] [(.int (Int32.ofNat mm)), (.ref bp), (.int (Int32.ofNat 1)), (.ref b1), (.int rk1)])) rfl (by rw [hml]; rfl) (rest := [(.int rk1)]) (lenOf pd_4 rfl) rfl (by show 2 * 0 + _ ≤ _; exact Nat.le_of_eq rfl) (hb hby at_255)
    obtain ⟨⟨sk1, rfl, Rk1⟩, e19, rfl⟩ := hQ19
    rw [List.append_nil] at X19
    refine OFin.to (T19.setTop (mkF m 258 #[.val (.long q0), .second, .val (.long q1), .second, .val (.long q2), .second, .val (.int p3), .val (.int p4), .val (.int (Int32.ofNat mm)), .val (.ref bp), .val (.ref b1), .val (.ref b14), .val (.int (1 : Int32))] [(.int sk1), (.int rk1)])) st19 ?_
    refine OFin.to (T19.setTop (mkF m 261 #[.val (.long q0), .second, .val (.long q1), .second, .val (.long q2), .second, .val (.int p3), .val (.int p4), .val (.int (Int32.ofNat mm)), .val (.ref bp), .val (.ref b1), .val (.ref b14), .val (.int (1 : Int32))] [])) (fun _ kt => XS.icmpNo X19.here hx rfl (hb hby at_258) rfl (XT.ii_ne_f (own_same Sk1 Rk1)) kt) ?_
    refine OFin.to (T19.setTop (mkF m 263 #[.val (.long q0), .second, .val (.long q1), .second, .val (.long q2), .second, .val (.int p3), .val (.int p4), .val (.int (Int32.ofNat mm)), .val (.ref bp), .val (.ref b1), .val (.ref b14), .val (.int (1 : Int32))] [(.int (1 : Int32))])) (fun _ kt => XS.iload X19.here hx rfl (hb hby at_261) rfl kt) ?_
    refine OFin.to (T19.setTop (mkF m 266 #[.val (.long q0), .second, .val (.long q1), .second, .val (.long q2), .second, .val (.int p3), .val (.int p4), .val (.int (Int32.ofNat mm)), .val (.ref bp), .val (.ref b1), .val (.ref b14), .val (.int (1 : Int32))] [])) (fun _ kt => XS.ifNo X19.here hx rfl (hb hby at_263) rfl (XT.i0_eq_f (by decide)) kt) ?_
    refine OFin.to (T19.setTop (mkF m 267 #[.val (.long q0), .second, .val (.long q1), .second, .val (.long q2), .second, .val (.int p3), .val (.int p4), .val (.int (Int32.ofNat mm)), .val (.ref bp), .val (.ref b1), .val (.ref b14), .val (.int (1 : Int32))] [(.int (1 : Int32))])) (fun _ kt => XS.iconst X19.here hx rfl (hb hby at_266) kt) ?_
    refine OFin.to (T19.setTop (mkF m 271 #[.val (.long q0), .second, .val (.long q1), .second, .val (.long q2), .second, .val (.int p3), .val (.int p4), .val (.int (Int32.ofNat mm)), .val (.ref bp), .val (.ref b1), .val (.ref b14), .val (.int (1 : Int32))] [(.int (1 : Int32))])) (fun _ kt => XS.goto X19.here hx rfl (pc0 := 267) (pc' := 271) rfl (hb hby at_267) (by decide) (by decide) kt) ?_
    refine OFin.to (T19.setTop (mkF m 273 #[.val (.long q0), .second, .val (.long q1), .second, .val (.long q2), .second, .val (.int p3), .val (.int p4), .val (.int (Int32.ofNat mm)), .val (.ref bp), .val (.ref b1), .val (.ref b14), .val (.int (1 : Int32))] [])) (fun _ kt => XS.istore X19.here hx rfl (hb hby at_271) rfl (l' := #[.val (.long q0), .second, .val (.long q1), .second, .val (.long q2), .second, .val (.int p3), .val (.int p4), .val (.int (Int32.ofNat mm)), .val (.ref bp), .val (.ref b1), .val (.ref b14), .val (.int (1 : Int32))]) rfl kt) ?_
    refine OFin.to (T19.setTop (mkF m 275 #[.val (.long q0), .second, .val (.long q1), .second, .val (.long q2), .second, .val (.int p3), .val (.int p4), .val (.int (Int32.ofNat mm)), .val (.ref bp), .val (.ref b1), .val (.ref b14), .val (.int (1 : Int32))] [(.ref b14)])) (fun _ kt => XS.aload X19.here hx rfl (hb hby at_273) rfl rfl kt) ?_
    refine OFin.to (T19.setTop (mkF m 277 #[.val (.long q0), .second, .val (.long q1), .second, .val (.long q2), .second, .val (.int p3), .val (.int p4), .val (.int (Int32.ofNat mm)), .val (.ref bp), .val (.ref b1), .val (.ref b14), .val (.int (1 : Int32))] [(.ref b1), (.ref b14)])) (fun _ kt => XS.aload X19.here hx rfl (hb hby at_275) rfl rfl kt) ?_
    refine OFin.to (T19.setTop (mkF m 278 #[.val (.long q0), .second, .val (.long q1), .second, .val (.long q2), .second, .val (.int p3), .val (.int p4), .val (.int (Int32.ofNat mm)), .val (.ref bp), .val (.ref b1), .val (.ref b14), .val (.int (1 : Int32))] [(.int (2 : Int32)), (.ref b1), (.ref b14)])) (fun _ kt => XS.iconst X19.here hx rfl (hb hby at_277) kt) ?_
    refine OFin.to (T19.setTop (mkF m 279 #[.val (.long q0), .second, .val (.long q1), .second, .val (.long q2), .second, .val (.int p3), .val (.int p4), .val (.int (Int32.ofNat mm)), .val (.ref bp), .val (.ref b1), .val (.ref b14), .val (.int (1 : Int32))] [(.long (t 2)), (.ref b14)])) (fun _ kt => own_ldJ X19 hx hZ e19 Vtk1 (j := (2 : Int32)) (by decide) (own_rat _ (by decide)) (g := (mkF m 278 #[.val (.long q0), .second, .val (.long q1), .second, .val (.long q2), .second, .val (.int p3), .val (.int p4), .val (.int (Int32.ofNat mm)), .val (.ref bp), .val (.ref b1), .val (.ref b14), .val (.int (1 : Int32))] [(.int (2 : Int32)), (.ref b1), (.ref b14)])) rfl rfl (hb hby at_278) _ kt) ?_
    obtain ⟨v20, T20, L20, hQ20, X20, st20⟩ := own_callV X19 hx hZ hown (hw _ (List.mem_of_getElem? (i := 22) rfl)) (hw _ (List.mem_of_getElem? (i := 23) rfl)) (hw _ (List.mem_of_getElem? (i := 25) rfl)) (hw _ (List.mem_of_getElem? (i := 24) rfl)) (hw _ (List.mem_of_getElem? (i := 26) rfl)) (hw _ (List.mem_of_getElem? (i := 7) rfl)) (by decide) e19 HOk1.1 (rm5 l Z a0 hw [] b14 bp bb mm hm1 hm4 P t B 2 qk1 (t 2) rfl hB Mk1 T18.heap h0.size g_b14 HOk1 Vpk1 Vbk1) 0 (by decide) (by decide) (by decide) (by decide) (g := (mkF m 279 #[.val (.long q0), .second, .val (.long q1), .second, .val (.long q2), .second, .val (.int p3), .val (.int p4), .val (.int (Int32.ofNat mm)), .val (.ref bp), .val (.ref b1), .val (.ref b14), .val (.int (1 : Int32))] [(.long (t 2)), (.ref b14)])) rfl (by rw [hml]; rfl) (rest := []) (lenOf pd_3 rfl) rfl (by show 2 * 0 + _ ≤ _; exact Nat.le_of_eq rfl) (hb hby at_279)
    obtain ⟨rk2, qk2, rfl, Sk2, Mk2, HOk2, Kk2, Nk2⟩ := hQ20
    refine OFin.to (T20.setTop (mkF m 282 #[.val (.long q0), .second, .val (.long q1), .second, .val (.long q2), .second, .val (.int p3), .val (.int p4), .val (.int (Int32.ofNat mm)), .val (.ref bp), .val (.ref b1), .val (.ref b14), .val (.int (1 : Int32))] [(.int rk2)])) st20 ?_
    have Vpk2 := Vpk1.keep Kk2 (ninS ne_bp_b14 nin0)
    have Vtk2 := Vtk1.keep Kk2 (ninS ne_b1_b14 nin0)
    have Vbk2 := Vbk1.keep Kk2 (ninS neb nin0)
    have Nqk2 := Fr.app Nqk1 Nk2
    refine OFin.to (T20.setTop (mkF m 284 #[.val (.long q0), .second, .val (.long q1), .second, .val (.long q2), .second, .val (.int p3), .val (.int p4), .val (.int (Int32.ofNat mm)), .val (.ref bp), .val (.ref b1), .val (.ref b14), .val (.int (1 : Int32))] [(.ref b1), (.int rk2)])) (fun _ kt => XS.aload X20.here hx rfl (hb hby at_282) rfl rfl kt) ?_
    refine OFin.to (T20.setTop (mkF m 285 #[.val (.long q0), .second, .val (.long q1), .second, .val (.long q2), .second, .val (.int p3), .val (.int p4), .val (.int (Int32.ofNat mm)), .val (.ref bp), .val (.ref b1), .val (.ref b14), .val (.int (1 : Int32))] [(.int (2 : Int32)), (.ref b1), (.int rk2)])) (fun _ kt => XS.iconst X20.here hx rfl (hb hby at_284) kt) ?_
    refine OFin.to (T20.setTop (mkF m 287 #[.val (.long q0), .second, .val (.long q1), .second, .val (.long q2), .second, .val (.int p3), .val (.int p4), .val (.int (Int32.ofNat mm)), .val (.ref bp), .val (.ref b1), .val (.ref b14), .val (.int (1 : Int32))] [(.ref bp), (.int (2 : Int32)), (.ref b1), (.int rk2)])) (fun _ kt => XS.aload X20.here hx rfl (hb hby at_285) rfl rfl kt) ?_
    refine OFin.to (T20.setTop (mkF m 289 #[.val (.long q0), .second, .val (.long q1), .second, .val (.long q2), .second, .val (.int p3), .val (.int p4), .val (.int (Int32.ofNat mm)), .val (.ref bp), .val (.ref b1), .val (.ref b14), .val (.int (1 : Int32))] [(.int (Int32.ofNat mm)), (.ref bp), (.int (2 : Int32)), (.ref b1), (.int rk2)])) (fun _ kt => XS.iload X20.here hx rfl (hb hby at_287) rfl kt) ?_
    refine OFin.to (T20.setTop (mkF m 289 #[.val (.long q0), .second, .val (.long q1), .second, .val (.long q2), .second, .val (.int p3), .val (.int p4), .val (.int (Int32.ofNat mm)), .val (.ref bp), .val (.ref b1), .val (.ref b14), .val (.int (1 : Int32))] [(.int (Int32.ofNat mm)), (.ref bp), (.int (Int32.ofNat 2)), (.ref b1), (.int rk2)])) (fun _ kt => kt) ?_
    obtain ⟨v21, T21, L21, hQ21, X21, st21⟩ := own_callS X20 hx hZ hown (hw _ (List.mem_of_getElem? (i := 29) rfl)) (hw _ (List.mem_of_getElem? (i := 30) rfl)) (hw _ (List.mem_of_getElem? (i := 3) rfl)) (hw _ (List.mem_of_getElem? (i := 31) rfl)) (by decide) rfl (rm6 l Z a0 hw [] b1 bp 2 mm (by decide) hm1 hm4 P t T20.heap Vtk2 Vpk2) 1 (by decide) (by decide) (by decide) (by decide) (g := (mkF m 289 #[.val (.long q0), .second, .val (.long q1), .second, .val (.long q2), .second, .val (.int p3), .val (.int p4), .val (.int (Int32.ofNat mm)), .val (.ref bp), .val (.ref b1), .val (.ref b14), .val (.int (1 : Int32))] [(.int (Int32.ofNat mm)), (.ref bp), (.int (Int32.ofNat 2)), (.ref b1), (.int rk2)])) rfl (by rw [hml]; rfl) (rest := [(.int rk2)]) (lenOf pd_4 rfl) rfl (by show 2 * 0 + _ ≤ _; exact Nat.le_of_eq rfl) (hb hby at_289)
    obtain ⟨⟨sk2, rfl, Rk2⟩, e21, rfl⟩ := hQ21
    rw [List.append_nil] at X21
    refine OFin.to (T21.setTop (mkF m 292 #[.val (.long q0), .second, .val (.long q1), .second, .val (.long q2), .second, .val (.int p3), .val (.int p4), .val (.int (Int32.ofNat mm)), .val (.ref bp), .val (.ref b1), .val (.ref b14), .val (.int (1 : Int32))] [(.int sk2), (.int rk2)])) st21 ?_
    refine OFin.to (T21.setTop (mkF m 295 #[.val (.long q0), .second, .val (.long q1), .second, .val (.long q2), .second, .val (.int p3), .val (.int p4), .val (.int (Int32.ofNat mm)), .val (.ref bp), .val (.ref b1), .val (.ref b14), .val (.int (1 : Int32))] [])) (fun _ kt => XS.icmpNo X21.here hx rfl (hb hby at_292) rfl (XT.ii_ne_f (own_same Sk2 Rk2)) kt) ?_
    refine OFin.to (T21.setTop (mkF m 297 #[.val (.long q0), .second, .val (.long q1), .second, .val (.long q2), .second, .val (.int p3), .val (.int p4), .val (.int (Int32.ofNat mm)), .val (.ref bp), .val (.ref b1), .val (.ref b14), .val (.int (1 : Int32))] [(.int (1 : Int32))])) (fun _ kt => XS.iload X21.here hx rfl (hb hby at_295) rfl kt) ?_
    refine OFin.to (T21.setTop (mkF m 300 #[.val (.long q0), .second, .val (.long q1), .second, .val (.long q2), .second, .val (.int p3), .val (.int p4), .val (.int (Int32.ofNat mm)), .val (.ref bp), .val (.ref b1), .val (.ref b14), .val (.int (1 : Int32))] [])) (fun _ kt => XS.ifNo X21.here hx rfl (hb hby at_297) rfl (XT.i0_eq_f (by decide)) kt) ?_
    refine OFin.to (T21.setTop (mkF m 301 #[.val (.long q0), .second, .val (.long q1), .second, .val (.long q2), .second, .val (.int p3), .val (.int p4), .val (.int (Int32.ofNat mm)), .val (.ref bp), .val (.ref b1), .val (.ref b14), .val (.int (1 : Int32))] [(.int (1 : Int32))])) (fun _ kt => XS.iconst X21.here hx rfl (hb hby at_300) kt) ?_
    refine OFin.to (T21.setTop (mkF m 305 #[.val (.long q0), .second, .val (.long q1), .second, .val (.long q2), .second, .val (.int p3), .val (.int p4), .val (.int (Int32.ofNat mm)), .val (.ref bp), .val (.ref b1), .val (.ref b14), .val (.int (1 : Int32))] [(.int (1 : Int32))])) (fun _ kt => XS.goto X21.here hx rfl (pc0 := 301) (pc' := 305) rfl (hb hby at_301) (by decide) (by decide) kt) ?_
    refine OFin.to (T21.setTop (mkF m 307 #[.val (.long q0), .second, .val (.long q1), .second, .val (.long q2), .second, .val (.int p3), .val (.int p4), .val (.int (Int32.ofNat mm)), .val (.ref bp), .val (.ref b1), .val (.ref b14), .val (.int (1 : Int32))] [])) (fun _ kt => XS.istore X21.here hx rfl (hb hby at_305) rfl (l' := #[.val (.long q0), .second, .val (.long q1), .second, .val (.long q2), .second, .val (.int p3), .val (.int p4), .val (.int (Int32.ofNat mm)), .val (.ref bp), .val (.ref b1), .val (.ref b14), .val (.int (1 : Int32))]) rfl kt) ?_
    refine OFin.to (T21.setTop (mkF m 309 #[.val (.long q0), .second, .val (.long q1), .second, .val (.long q2), .second, .val (.int p3), .val (.int p4), .val (.int (Int32.ofNat mm)), .val (.ref bp), .val (.ref b1), .val (.ref b14), .val (.int (1 : Int32))] [(.ref b14)])) (fun _ kt => XS.aload X21.here hx rfl (hb hby at_307) rfl rfl kt) ?_
    refine OFin.to (T21.setTop (mkF m 311 #[.val (.long q0), .second, .val (.long q1), .second, .val (.long q2), .second, .val (.int p3), .val (.int p4), .val (.int (Int32.ofNat mm)), .val (.ref bp), .val (.ref b1), .val (.ref b14), .val (.int (1 : Int32))] [(.ref b1), (.ref b14)])) (fun _ kt => XS.aload X21.here hx rfl (hb hby at_309) rfl rfl kt) ?_
    refine OFin.to (T21.setTop (mkF m 312 #[.val (.long q0), .second, .val (.long q1), .second, .val (.long q2), .second, .val (.int p3), .val (.int p4), .val (.int (Int32.ofNat mm)), .val (.ref bp), .val (.ref b1), .val (.ref b14), .val (.int (1 : Int32))] [(.int (3 : Int32)), (.ref b1), (.ref b14)])) (fun _ kt => XS.iconst X21.here hx rfl (hb hby at_311) kt) ?_
    refine OFin.to (T21.setTop (mkF m 313 #[.val (.long q0), .second, .val (.long q1), .second, .val (.long q2), .second, .val (.int p3), .val (.int p4), .val (.int (Int32.ofNat mm)), .val (.ref bp), .val (.ref b1), .val (.ref b14), .val (.int (1 : Int32))] [(.long (t 3)), (.ref b14)])) (fun _ kt => own_ldJ X21 hx hZ e21 Vtk2 (j := (3 : Int32)) (by decide) (own_rat _ (by decide)) (g := (mkF m 312 #[.val (.long q0), .second, .val (.long q1), .second, .val (.long q2), .second, .val (.int p3), .val (.int p4), .val (.int (Int32.ofNat mm)), .val (.ref bp), .val (.ref b1), .val (.ref b14), .val (.int (1 : Int32))] [(.int (3 : Int32)), (.ref b1), (.ref b14)])) rfl rfl (hb hby at_312) _ kt) ?_
    obtain ⟨v22, T22, L22, hQ22, X22, st22⟩ := own_callV X21 hx hZ hown (hw _ (List.mem_of_getElem? (i := 22) rfl)) (hw _ (List.mem_of_getElem? (i := 23) rfl)) (hw _ (List.mem_of_getElem? (i := 25) rfl)) (hw _ (List.mem_of_getElem? (i := 24) rfl)) (hw _ (List.mem_of_getElem? (i := 26) rfl)) (hw _ (List.mem_of_getElem? (i := 7) rfl)) (by decide) e21 HOk2.1 (rm5 l Z a0 hw [] b14 bp bb mm hm1 hm4 P t B 3 qk2 (t 3) rfl hB Mk2 T20.heap h0.size g_b14 HOk2 Vpk2 Vbk2) 0 (by decide) (by decide) (by decide) (by decide) (g := (mkF m 313 #[.val (.long q0), .second, .val (.long q1), .second, .val (.long q2), .second, .val (.int p3), .val (.int p4), .val (.int (Int32.ofNat mm)), .val (.ref bp), .val (.ref b1), .val (.ref b14), .val (.int (1 : Int32))] [(.long (t 3)), (.ref b14)])) rfl (by rw [hml]; rfl) (rest := []) (lenOf pd_3 rfl) rfl (by show 2 * 0 + _ ≤ _; exact Nat.le_of_eq rfl) (hb hby at_313)
    obtain ⟨rk3, qk3, rfl, Sk3, Mk3, HOk3, Kk3, Nk3⟩ := hQ22
    refine OFin.to (T22.setTop (mkF m 316 #[.val (.long q0), .second, .val (.long q1), .second, .val (.long q2), .second, .val (.int p3), .val (.int p4), .val (.int (Int32.ofNat mm)), .val (.ref bp), .val (.ref b1), .val (.ref b14), .val (.int (1 : Int32))] [(.int rk3)])) st22 ?_
    have Vpk3 := Vpk2.keep Kk3 (ninS ne_bp_b14 nin0)
    have Vtk3 := Vtk2.keep Kk3 (ninS ne_b1_b14 nin0)
    have Vbk3 := Vbk2.keep Kk3 (ninS neb nin0)
    have Nqk3 := Fr.app Nqk2 Nk3
    refine OFin.to (T22.setTop (mkF m 318 #[.val (.long q0), .second, .val (.long q1), .second, .val (.long q2), .second, .val (.int p3), .val (.int p4), .val (.int (Int32.ofNat mm)), .val (.ref bp), .val (.ref b1), .val (.ref b14), .val (.int (1 : Int32))] [(.ref b1), (.int rk3)])) (fun _ kt => XS.aload X22.here hx rfl (hb hby at_316) rfl rfl kt) ?_
    refine OFin.to (T22.setTop (mkF m 319 #[.val (.long q0), .second, .val (.long q1), .second, .val (.long q2), .second, .val (.int p3), .val (.int p4), .val (.int (Int32.ofNat mm)), .val (.ref bp), .val (.ref b1), .val (.ref b14), .val (.int (1 : Int32))] [(.int (3 : Int32)), (.ref b1), (.int rk3)])) (fun _ kt => XS.iconst X22.here hx rfl (hb hby at_318) kt) ?_
    refine OFin.to (T22.setTop (mkF m 321 #[.val (.long q0), .second, .val (.long q1), .second, .val (.long q2), .second, .val (.int p3), .val (.int p4), .val (.int (Int32.ofNat mm)), .val (.ref bp), .val (.ref b1), .val (.ref b14), .val (.int (1 : Int32))] [(.ref bp), (.int (3 : Int32)), (.ref b1), (.int rk3)])) (fun _ kt => XS.aload X22.here hx rfl (hb hby at_319) rfl rfl kt) ?_
    refine OFin.to (T22.setTop (mkF m 323 #[.val (.long q0), .second, .val (.long q1), .second, .val (.long q2), .second, .val (.int p3), .val (.int p4), .val (.int (Int32.ofNat mm)), .val (.ref bp), .val (.ref b1), .val (.ref b14), .val (.int (1 : Int32))] [(.int (Int32.ofNat mm)), (.ref bp), (.int (3 : Int32)), (.ref b1), (.int rk3)])) (fun _ kt => XS.iload X22.here hx rfl (hb hby at_321) rfl kt) ?_
    refine OFin.to (T22.setTop (mkF m 323 #[.val (.long q0), .second, .val (.long q1), .second, .val (.long q2), .second, .val (.int p3), .val (.int p4), .val (.int (Int32.ofNat mm)), .val (.ref bp), .val (.ref b1), .val (.ref b14), .val (.int (1 : Int32))] [(.int (Int32.ofNat mm)), (.ref bp), (.int (Int32.ofNat 3)), (.ref b1), (.int rk3)])) (fun _ kt => kt) ?_
    obtain ⟨v23, T23, L23, hQ23, X23, st23⟩ := own_callS X22 hx hZ hown (hw _ (List.mem_of_getElem? (i := 29) rfl)) (hw _ (List.mem_of_getElem? (i := 30) rfl)) (hw _ (List.mem_of_getElem? (i := 3) rfl)) (hw _ (List.mem_of_getElem? (i := 31) rfl)) (by decide) rfl (rm6 l Z a0 hw [] b1 bp 3 mm (by decide) hm1 hm4 P t T22.heap Vtk3 Vpk3) 1 (by decide) (by decide) (by decide) (by decide) (g := (mkF m 323 #[.val (.long q0), .second, .val (.long q1), .second, .val (.long q2), .second, .val (.int p3), .val (.int p4), .val (.int (Int32.ofNat mm)), .val (.ref bp), .val (.ref b1), .val (.ref b14), .val (.int (1 : Int32))] [(.int (Int32.ofNat mm)), (.ref bp), (.int (Int32.ofNat 3)), (.ref b1), (.int rk3)])) rfl (by rw [hml]; rfl) (rest := [(.int rk3)]) (lenOf pd_4 rfl) rfl (by show 2 * 0 + _ ≤ _; exact Nat.le_of_eq rfl) (hb hby at_323)
    obtain ⟨⟨sk3, rfl, Rk3⟩, e23, rfl⟩ := hQ23
    rw [List.append_nil] at X23
    refine OFin.to (T23.setTop (mkF m 326 #[.val (.long q0), .second, .val (.long q1), .second, .val (.long q2), .second, .val (.int p3), .val (.int p4), .val (.int (Int32.ofNat mm)), .val (.ref bp), .val (.ref b1), .val (.ref b14), .val (.int (1 : Int32))] [(.int sk3), (.int rk3)])) st23 ?_
    refine OFin.to (T23.setTop (mkF m 329 #[.val (.long q0), .second, .val (.long q1), .second, .val (.long q2), .second, .val (.int p3), .val (.int p4), .val (.int (Int32.ofNat mm)), .val (.ref bp), .val (.ref b1), .val (.ref b14), .val (.int (1 : Int32))] [])) (fun _ kt => XS.icmpNo X23.here hx rfl (hb hby at_326) rfl (XT.ii_ne_f (own_same Sk3 Rk3)) kt) ?_
    refine OFin.to (T23.setTop (mkF m 331 #[.val (.long q0), .second, .val (.long q1), .second, .val (.long q2), .second, .val (.int p3), .val (.int p4), .val (.int (Int32.ofNat mm)), .val (.ref bp), .val (.ref b1), .val (.ref b14), .val (.int (1 : Int32))] [(.int (1 : Int32))])) (fun _ kt => XS.iload X23.here hx rfl (hb hby at_329) rfl kt) ?_
    refine OFin.to (T23.setTop (mkF m 334 #[.val (.long q0), .second, .val (.long q1), .second, .val (.long q2), .second, .val (.int p3), .val (.int p4), .val (.int (Int32.ofNat mm)), .val (.ref bp), .val (.ref b1), .val (.ref b14), .val (.int (1 : Int32))] [])) (fun _ kt => XS.ifNo X23.here hx rfl (hb hby at_331) rfl (XT.i0_eq_f (by decide)) kt) ?_
    refine OFin.to (T23.setTop (mkF m 335 #[.val (.long q0), .second, .val (.long q1), .second, .val (.long q2), .second, .val (.int p3), .val (.int p4), .val (.int (Int32.ofNat mm)), .val (.ref bp), .val (.ref b1), .val (.ref b14), .val (.int (1 : Int32))] [(.int (1 : Int32))])) (fun _ kt => XS.iconst X23.here hx rfl (hb hby at_334) kt) ?_
    refine OFin.to (T23.setTop (mkF m 339 #[.val (.long q0), .second, .val (.long q1), .second, .val (.long q2), .second, .val (.int p3), .val (.int p4), .val (.int (Int32.ofNat mm)), .val (.ref bp), .val (.ref b1), .val (.ref b14), .val (.int (1 : Int32))] [(.int (1 : Int32))])) (fun _ kt => XS.goto X23.here hx rfl (pc0 := 335) (pc' := 339) rfl (hb hby at_335) (by decide) (by decide) kt) ?_
    refine OFin.to (T23.setTop (mkF m 341 #[.val (.long q0), .second, .val (.long q1), .second, .val (.long q2), .second, .val (.int p3), .val (.int p4), .val (.int (Int32.ofNat mm)), .val (.ref bp), .val (.ref b1), .val (.ref b14), .val (.int (1 : Int32))] [])) (fun _ kt => XS.istore X23.here hx rfl (hb hby at_339) rfl (l' := #[.val (.long q0), .second, .val (.long q1), .second, .val (.long q2), .second, .val (.int p3), .val (.int p4), .val (.int (Int32.ofNat mm)), .val (.ref bp), .val (.ref b1), .val (.ref b14), .val (.int (1 : Int32))]) rfl kt) ?_
    refine OFin.to (T23.setTop (mkF m 343 #[.val (.long q0), .second, .val (.long q1), .second, .val (.long q2), .second, .val (.int p3), .val (.int p4), .val (.int (Int32.ofNat mm)), .val (.ref bp), .val (.ref b1), .val (.ref b14), .val (.int (1 : Int32))] [(.ref b14)])) (fun _ kt => XS.aload X23.here hx rfl (hb hby at_341) rfl rfl kt) ?_
    refine OFin.to (T23.setTop (mkF m 345 #[.val (.long q0), .second, .val (.long q1), .second, .val (.long q2), .second, .val (.int p3), .val (.int p4), .val (.int (Int32.ofNat mm)), .val (.ref bp), .val (.ref b1), .val (.ref b14), .val (.int (1 : Int32))] [(.ref b1), (.ref b14)])) (fun _ kt => XS.aload X23.here hx rfl (hb hby at_343) rfl rfl kt) ?_
    refine OFin.to (T23.setTop (mkF m 346 #[.val (.long q0), .second, .val (.long q1), .second, .val (.long q2), .second, .val (.int p3), .val (.int p4), .val (.int (Int32.ofNat mm)), .val (.ref bp), .val (.ref b1), .val (.ref b14), .val (.int (1 : Int32))] [(.int (4 : Int32)), (.ref b1), (.ref b14)])) (fun _ kt => XS.iconst X23.here hx rfl (hb hby at_345) kt) ?_
    refine OFin.to (T23.setTop (mkF m 347 #[.val (.long q0), .second, .val (.long q1), .second, .val (.long q2), .second, .val (.int p3), .val (.int p4), .val (.int (Int32.ofNat mm)), .val (.ref bp), .val (.ref b1), .val (.ref b14), .val (.int (1 : Int32))] [(.long (t 4)), (.ref b14)])) (fun _ kt => own_ldJ X23 hx hZ e23 Vtk3 (j := (4 : Int32)) (by decide) (own_rat _ (by decide)) (g := (mkF m 346 #[.val (.long q0), .second, .val (.long q1), .second, .val (.long q2), .second, .val (.int p3), .val (.int p4), .val (.int (Int32.ofNat mm)), .val (.ref bp), .val (.ref b1), .val (.ref b14), .val (.int (1 : Int32))] [(.int (4 : Int32)), (.ref b1), (.ref b14)])) rfl rfl (hb hby at_346) _ kt) ?_
    obtain ⟨v24, T24, L24, hQ24, X24, st24⟩ := own_callV X23 hx hZ hown (hw _ (List.mem_of_getElem? (i := 22) rfl)) (hw _ (List.mem_of_getElem? (i := 23) rfl)) (hw _ (List.mem_of_getElem? (i := 25) rfl)) (hw _ (List.mem_of_getElem? (i := 24) rfl)) (hw _ (List.mem_of_getElem? (i := 26) rfl)) (hw _ (List.mem_of_getElem? (i := 7) rfl)) (by decide) e23 HOk3.1 (rm5 l Z a0 hw [] b14 bp bb mm hm1 hm4 P t B 4 qk3 (t 4) rfl hB Mk3 T22.heap h0.size g_b14 HOk3 Vpk3 Vbk3) 0 (by decide) (by decide) (by decide) (by decide) (g := (mkF m 347 #[.val (.long q0), .second, .val (.long q1), .second, .val (.long q2), .second, .val (.int p3), .val (.int p4), .val (.int (Int32.ofNat mm)), .val (.ref bp), .val (.ref b1), .val (.ref b14), .val (.int (1 : Int32))] [(.long (t 4)), (.ref b14)])) rfl (by rw [hml]; rfl) (rest := []) (lenOf pd_3 rfl) rfl (by show 2 * 0 + _ ≤ _; exact Nat.le_of_eq rfl) (hb hby at_347)
    obtain ⟨rk4, qk4, rfl, Sk4, Mk4, HOk4, Kk4, Nk4⟩ := hQ24
    refine OFin.to (T24.setTop (mkF m 350 #[.val (.long q0), .second, .val (.long q1), .second, .val (.long q2), .second, .val (.int p3), .val (.int p4), .val (.int (Int32.ofNat mm)), .val (.ref bp), .val (.ref b1), .val (.ref b14), .val (.int (1 : Int32))] [(.int rk4)])) st24 ?_
    have Vpk4 := Vpk3.keep Kk4 (ninS ne_bp_b14 nin0)
    have Vtk4 := Vtk3.keep Kk4 (ninS ne_b1_b14 nin0)
    have Vbk4 := Vbk3.keep Kk4 (ninS neb nin0)
    have Nqk4 := Fr.app Nqk3 Nk4
    refine OFin.to (T24.setTop (mkF m 352 #[.val (.long q0), .second, .val (.long q1), .second, .val (.long q2), .second, .val (.int p3), .val (.int p4), .val (.int (Int32.ofNat mm)), .val (.ref bp), .val (.ref b1), .val (.ref b14), .val (.int (1 : Int32))] [(.ref b1), (.int rk4)])) (fun _ kt => XS.aload X24.here hx rfl (hb hby at_350) rfl rfl kt) ?_
    refine OFin.to (T24.setTop (mkF m 353 #[.val (.long q0), .second, .val (.long q1), .second, .val (.long q2), .second, .val (.int p3), .val (.int p4), .val (.int (Int32.ofNat mm)), .val (.ref bp), .val (.ref b1), .val (.ref b14), .val (.int (1 : Int32))] [(.int (4 : Int32)), (.ref b1), (.int rk4)])) (fun _ kt => XS.iconst X24.here hx rfl (hb hby at_352) kt) ?_
    refine OFin.to (T24.setTop (mkF m 355 #[.val (.long q0), .second, .val (.long q1), .second, .val (.long q2), .second, .val (.int p3), .val (.int p4), .val (.int (Int32.ofNat mm)), .val (.ref bp), .val (.ref b1), .val (.ref b14), .val (.int (1 : Int32))] [(.ref bp), (.int (4 : Int32)), (.ref b1), (.int rk4)])) (fun _ kt => XS.aload X24.here hx rfl (hb hby at_353) rfl rfl kt) ?_
    refine OFin.to (T24.setTop (mkF m 357 #[.val (.long q0), .second, .val (.long q1), .second, .val (.long q2), .second, .val (.int p3), .val (.int p4), .val (.int (Int32.ofNat mm)), .val (.ref bp), .val (.ref b1), .val (.ref b14), .val (.int (1 : Int32))] [(.int (Int32.ofNat mm)), (.ref bp), (.int (4 : Int32)), (.ref b1), (.int rk4)])) (fun _ kt => XS.iload X24.here hx rfl (hb hby at_355) rfl kt) ?_
    refine OFin.to (T24.setTop (mkF m 357 #[.val (.long q0), .second, .val (.long q1), .second, .val (.long q2), .second, .val (.int p3), .val (.int p4), .val (.int (Int32.ofNat mm)), .val (.ref bp), .val (.ref b1), .val (.ref b14), .val (.int (1 : Int32))] [(.int (Int32.ofNat mm)), (.ref bp), (.int (Int32.ofNat 4)), (.ref b1), (.int rk4)])) (fun _ kt => kt) ?_
    obtain ⟨v25, T25, L25, hQ25, X25, st25⟩ := own_callS X24 hx hZ hown (hw _ (List.mem_of_getElem? (i := 29) rfl)) (hw _ (List.mem_of_getElem? (i := 30) rfl)) (hw _ (List.mem_of_getElem? (i := 3) rfl)) (hw _ (List.mem_of_getElem? (i := 31) rfl)) (by decide) rfl (rm6 l Z a0 hw [] b1 bp 4 mm (by decide) hm1 hm4 P t T24.heap Vtk4 Vpk4) 1 (by decide) (by decide) (by decide) (by decide) (g := (mkF m 357 #[.val (.long q0), .second, .val (.long q1), .second, .val (.long q2), .second, .val (.int p3), .val (.int p4), .val (.int (Int32.ofNat mm)), .val (.ref bp), .val (.ref b1), .val (.ref b14), .val (.int (1 : Int32))] [(.int (Int32.ofNat mm)), (.ref bp), (.int (Int32.ofNat 4)), (.ref b1), (.int rk4)])) rfl (by rw [hml]; rfl) (rest := [(.int rk4)]) (lenOf pd_4 rfl) rfl (by show 2 * 0 + _ ≤ _; exact Nat.le_of_eq rfl) (hb hby at_357)
    obtain ⟨⟨sk4, rfl, Rk4⟩, e25, rfl⟩ := hQ25
    rw [List.append_nil] at X25
    refine OFin.to (T25.setTop (mkF m 360 #[.val (.long q0), .second, .val (.long q1), .second, .val (.long q2), .second, .val (.int p3), .val (.int p4), .val (.int (Int32.ofNat mm)), .val (.ref bp), .val (.ref b1), .val (.ref b14), .val (.int (1 : Int32))] [(.int sk4), (.int rk4)])) st25 ?_
    refine OFin.to (T25.setTop (mkF m 363 #[.val (.long q0), .second, .val (.long q1), .second, .val (.long q2), .second, .val (.int p3), .val (.int p4), .val (.int (Int32.ofNat mm)), .val (.ref bp), .val (.ref b1), .val (.ref b14), .val (.int (1 : Int32))] [])) (fun _ kt => XS.icmpNo X25.here hx rfl (hb hby at_360) rfl (XT.ii_ne_f (own_same Sk4 Rk4)) kt) ?_
    refine OFin.to (T25.setTop (mkF m 365 #[.val (.long q0), .second, .val (.long q1), .second, .val (.long q2), .second, .val (.int p3), .val (.int p4), .val (.int (Int32.ofNat mm)), .val (.ref bp), .val (.ref b1), .val (.ref b14), .val (.int (1 : Int32))] [(.int (1 : Int32))])) (fun _ kt => XS.iload X25.here hx rfl (hb hby at_363) rfl kt) ?_
    refine OFin.to (T25.setTop (mkF m 368 #[.val (.long q0), .second, .val (.long q1), .second, .val (.long q2), .second, .val (.int p3), .val (.int p4), .val (.int (Int32.ofNat mm)), .val (.ref bp), .val (.ref b1), .val (.ref b14), .val (.int (1 : Int32))] [])) (fun _ kt => XS.ifNo X25.here hx rfl (hb hby at_365) rfl (XT.i0_eq_f (by decide)) kt) ?_
    refine OFin.to (T25.setTop (mkF m 369 #[.val (.long q0), .second, .val (.long q1), .second, .val (.long q2), .second, .val (.int p3), .val (.int p4), .val (.int (Int32.ofNat mm)), .val (.ref bp), .val (.ref b1), .val (.ref b14), .val (.int (1 : Int32))] [(.int (1 : Int32))])) (fun _ kt => XS.iconst X25.here hx rfl (hb hby at_368) kt) ?_
    refine OFin.to (T25.setTop (mkF m 373 #[.val (.long q0), .second, .val (.long q1), .second, .val (.long q2), .second, .val (.int p3), .val (.int p4), .val (.int (Int32.ofNat mm)), .val (.ref bp), .val (.ref b1), .val (.ref b14), .val (.int (1 : Int32))] [(.int (1 : Int32))])) (fun _ kt => XS.goto X25.here hx rfl (pc0 := 369) (pc' := 373) rfl (hb hby at_369) (by decide) (by decide) kt) ?_
    refine OFin.to (T25.setTop (mkF m 375 #[.val (.long q0), .second, .val (.long q1), .second, .val (.long q2), .second, .val (.int p3), .val (.int p4), .val (.int (Int32.ofNat mm)), .val (.ref bp), .val (.ref b1), .val (.ref b14), .val (.int (1 : Int32))] [])) (fun _ kt => XS.istore X25.here hx rfl (hb hby at_373) rfl (l' := #[.val (.long q0), .second, .val (.long q1), .second, .val (.long q2), .second, .val (.int p3), .val (.int p4), .val (.int (Int32.ofNat mm)), .val (.ref bp), .val (.ref b1), .val (.ref b14), .val (.int (1 : Int32))]) rfl kt) ?_
    refine OFin.to (T25.setTop (mkF m 377 #[.val (.long q0), .second, .val (.long q1), .second, .val (.long q2), .second, .val (.int p3), .val (.int p4), .val (.int (Int32.ofNat mm)), .val (.ref bp), .val (.ref b1), .val (.ref b14), .val (.int (1 : Int32))] [(.ref b14)])) (fun _ kt => XS.aload X25.here hx rfl (hb hby at_375) rfl rfl kt) ?_
    refine OFin.to (T25.setTop (mkF m 379 #[.val (.long q0), .second, .val (.long q1), .second, .val (.long q2), .second, .val (.int p3), .val (.int p4), .val (.int (Int32.ofNat mm)), .val (.ref bp), .val (.ref b1), .val (.ref b14), .val (.int (1 : Int32))] [(.ref b1), (.ref b14)])) (fun _ kt => XS.aload X25.here hx rfl (hb hby at_377) rfl rfl kt) ?_
    refine OFin.to (T25.setTop (mkF m 380 #[.val (.long q0), .second, .val (.long q1), .second, .val (.long q2), .second, .val (.int p3), .val (.int p4), .val (.int (Int32.ofNat mm)), .val (.ref bp), .val (.ref b1), .val (.ref b14), .val (.int (1 : Int32))] [(.int (5 : Int32)), (.ref b1), (.ref b14)])) (fun _ kt => XS.iconst X25.here hx rfl (hb hby at_379) kt) ?_
    refine OFin.to (T25.setTop (mkF m 381 #[.val (.long q0), .second, .val (.long q1), .second, .val (.long q2), .second, .val (.int p3), .val (.int p4), .val (.int (Int32.ofNat mm)), .val (.ref bp), .val (.ref b1), .val (.ref b14), .val (.int (1 : Int32))] [(.long (t 5)), (.ref b14)])) (fun _ kt => own_ldJ X25 hx hZ e25 Vtk4 (j := (5 : Int32)) (by decide) (own_rat _ (by decide)) (g := (mkF m 380 #[.val (.long q0), .second, .val (.long q1), .second, .val (.long q2), .second, .val (.int p3), .val (.int p4), .val (.int (Int32.ofNat mm)), .val (.ref bp), .val (.ref b1), .val (.ref b14), .val (.int (1 : Int32))] [(.int (5 : Int32)), (.ref b1), (.ref b14)])) rfl rfl (hb hby at_380) _ kt) ?_
    obtain ⟨v26, T26, L26, hQ26, X26, st26⟩ := own_callV X25 hx hZ hown (hw _ (List.mem_of_getElem? (i := 22) rfl)) (hw _ (List.mem_of_getElem? (i := 23) rfl)) (hw _ (List.mem_of_getElem? (i := 25) rfl)) (hw _ (List.mem_of_getElem? (i := 24) rfl)) (hw _ (List.mem_of_getElem? (i := 26) rfl)) (hw _ (List.mem_of_getElem? (i := 7) rfl)) (by decide) e25 HOk4.1 (rm5 l Z a0 hw [] b14 bp bb mm hm1 hm4 P t B 5 qk4 (t 5) rfl hB Mk4 T24.heap h0.size g_b14 HOk4 Vpk4 Vbk4) 0 (by decide) (by decide) (by decide) (by decide) (g := (mkF m 381 #[.val (.long q0), .second, .val (.long q1), .second, .val (.long q2), .second, .val (.int p3), .val (.int p4), .val (.int (Int32.ofNat mm)), .val (.ref bp), .val (.ref b1), .val (.ref b14), .val (.int (1 : Int32))] [(.long (t 5)), (.ref b14)])) rfl (by rw [hml]; rfl) (rest := []) (lenOf pd_3 rfl) rfl (by show 2 * 0 + _ ≤ _; exact Nat.le_of_eq rfl) (hb hby at_381)
    obtain ⟨rk5, qk5, rfl, Sk5, Mk5, HOk5, Kk5, Nk5⟩ := hQ26
    refine OFin.to (T26.setTop (mkF m 384 #[.val (.long q0), .second, .val (.long q1), .second, .val (.long q2), .second, .val (.int p3), .val (.int p4), .val (.int (Int32.ofNat mm)), .val (.ref bp), .val (.ref b1), .val (.ref b14), .val (.int (1 : Int32))] [(.int rk5)])) st26 ?_
    have Vpk5 := Vpk4.keep Kk5 (ninS ne_bp_b14 nin0)
    have Vtk5 := Vtk4.keep Kk5 (ninS ne_b1_b14 nin0)
    have Vbk5 := Vbk4.keep Kk5 (ninS neb nin0)
    have Nqk5 := Fr.app Nqk4 Nk5
    refine OFin.to (T26.setTop (mkF m 386 #[.val (.long q0), .second, .val (.long q1), .second, .val (.long q2), .second, .val (.int p3), .val (.int p4), .val (.int (Int32.ofNat mm)), .val (.ref bp), .val (.ref b1), .val (.ref b14), .val (.int (1 : Int32))] [(.ref b1), (.int rk5)])) (fun _ kt => XS.aload X26.here hx rfl (hb hby at_384) rfl rfl kt) ?_
    refine OFin.to (T26.setTop (mkF m 387 #[.val (.long q0), .second, .val (.long q1), .second, .val (.long q2), .second, .val (.int p3), .val (.int p4), .val (.int (Int32.ofNat mm)), .val (.ref bp), .val (.ref b1), .val (.ref b14), .val (.int (1 : Int32))] [(.int (5 : Int32)), (.ref b1), (.int rk5)])) (fun _ kt => XS.iconst X26.here hx rfl (hb hby at_386) kt) ?_
    refine OFin.to (T26.setTop (mkF m 389 #[.val (.long q0), .second, .val (.long q1), .second, .val (.long q2), .second, .val (.int p3), .val (.int p4), .val (.int (Int32.ofNat mm)), .val (.ref bp), .val (.ref b1), .val (.ref b14), .val (.int (1 : Int32))] [(.ref bp), (.int (5 : Int32)), (.ref b1), (.int rk5)])) (fun _ kt => XS.aload X26.here hx rfl (hb hby at_387) rfl rfl kt) ?_
    refine OFin.to (T26.setTop (mkF m 391 #[.val (.long q0), .second, .val (.long q1), .second, .val (.long q2), .second, .val (.int p3), .val (.int p4), .val (.int (Int32.ofNat mm)), .val (.ref bp), .val (.ref b1), .val (.ref b14), .val (.int (1 : Int32))] [(.int (Int32.ofNat mm)), (.ref bp), (.int (5 : Int32)), (.ref b1), (.int rk5)])) (fun _ kt => XS.iload X26.here hx rfl (hb hby at_389) rfl kt) ?_
    refine OFin.to (T26.setTop (mkF m 391 #[.val (.long q0), .second, .val (.long q1), .second, .val (.long q2), .second, .val (.int p3), .val (.int p4), .val (.int (Int32.ofNat mm)), .val (.ref bp), .val (.ref b1), .val (.ref b14), .val (.int (1 : Int32))] [(.int (Int32.ofNat mm)), (.ref bp), (.int (Int32.ofNat 5)), (.ref b1), (.int rk5)])) (fun _ kt => kt) ?_
    obtain ⟨v27, T27, L27, hQ27, X27, st27⟩ := own_callS X26 hx hZ hown (hw _ (List.mem_of_getElem? (i := 29) rfl)) (hw _ (List.mem_of_getElem? (i := 30) rfl)) (hw _ (List.mem_of_getElem? (i := 3) rfl)) (hw _ (List.mem_of_getElem? (i := 31) rfl)) (by decide) rfl (rm6 l Z a0 hw [] b1 bp 5 mm (by decide) hm1 hm4 P t T26.heap Vtk5 Vpk5) 1 (by decide) (by decide) (by decide) (by decide) (g := (mkF m 391 #[.val (.long q0), .second, .val (.long q1), .second, .val (.long q2), .second, .val (.int p3), .val (.int p4), .val (.int (Int32.ofNat mm)), .val (.ref bp), .val (.ref b1), .val (.ref b14), .val (.int (1 : Int32))] [(.int (Int32.ofNat mm)), (.ref bp), (.int (Int32.ofNat 5)), (.ref b1), (.int rk5)])) rfl (by rw [hml]; rfl) (rest := [(.int rk5)]) (lenOf pd_4 rfl) rfl (by show 2 * 0 + _ ≤ _; exact Nat.le_of_eq rfl) (hb hby at_391)
    obtain ⟨⟨sk5, rfl, Rk5⟩, e27, rfl⟩ := hQ27
    rw [List.append_nil] at X27
    refine OFin.to (T27.setTop (mkF m 394 #[.val (.long q0), .second, .val (.long q1), .second, .val (.long q2), .second, .val (.int p3), .val (.int p4), .val (.int (Int32.ofNat mm)), .val (.ref bp), .val (.ref b1), .val (.ref b14), .val (.int (1 : Int32))] [(.int sk5), (.int rk5)])) st27 ?_
    refine OFin.to (T27.setTop (mkF m 397 #[.val (.long q0), .second, .val (.long q1), .second, .val (.long q2), .second, .val (.int p3), .val (.int p4), .val (.int (Int32.ofNat mm)), .val (.ref bp), .val (.ref b1), .val (.ref b14), .val (.int (1 : Int32))] [])) (fun _ kt => XS.icmpNo X27.here hx rfl (hb hby at_394) rfl (XT.ii_ne_f (own_same Sk5 Rk5)) kt) ?_
    refine OFin.to (T27.setTop (mkF m 399 #[.val (.long q0), .second, .val (.long q1), .second, .val (.long q2), .second, .val (.int p3), .val (.int p4), .val (.int (Int32.ofNat mm)), .val (.ref bp), .val (.ref b1), .val (.ref b14), .val (.int (1 : Int32))] [(.int (1 : Int32))])) (fun _ kt => XS.iload X27.here hx rfl (hb hby at_397) rfl kt) ?_
    refine OFin.to (T27.setTop (mkF m 402 #[.val (.long q0), .second, .val (.long q1), .second, .val (.long q2), .second, .val (.int p3), .val (.int p4), .val (.int (Int32.ofNat mm)), .val (.ref bp), .val (.ref b1), .val (.ref b14), .val (.int (1 : Int32))] [])) (fun _ kt => XS.ifNo X27.here hx rfl (hb hby at_399) rfl (XT.i0_eq_f (by decide)) kt) ?_
    refine OFin.to (T27.setTop (mkF m 403 #[.val (.long q0), .second, .val (.long q1), .second, .val (.long q2), .second, .val (.int p3), .val (.int p4), .val (.int (Int32.ofNat mm)), .val (.ref bp), .val (.ref b1), .val (.ref b14), .val (.int (1 : Int32))] [(.int (1 : Int32))])) (fun _ kt => XS.iconst X27.here hx rfl (hb hby at_402) kt) ?_
    refine OFin.to (T27.setTop (mkF m 407 #[.val (.long q0), .second, .val (.long q1), .second, .val (.long q2), .second, .val (.int p3), .val (.int p4), .val (.int (Int32.ofNat mm)), .val (.ref bp), .val (.ref b1), .val (.ref b14), .val (.int (1 : Int32))] [(.int (1 : Int32))])) (fun _ kt => XS.goto X27.here hx rfl (pc0 := 403) (pc' := 407) rfl (hb hby at_403) (by decide) (by decide) kt) ?_
    refine OFin.to (T27.setTop (mkF m 409 #[.val (.long q0), .second, .val (.long q1), .second, .val (.long q2), .second, .val (.int p3), .val (.int p4), .val (.int (Int32.ofNat mm)), .val (.ref bp), .val (.ref b1), .val (.ref b14), .val (.int (1 : Int32))] [])) (fun _ kt => XS.istore X27.here hx rfl (hb hby at_407) rfl (l' := #[.val (.long q0), .second, .val (.long q1), .second, .val (.long q2), .second, .val (.int p3), .val (.int p4), .val (.int (Int32.ofNat mm)), .val (.ref bp), .val (.ref b1), .val (.ref b14), .val (.int (1 : Int32))]) rfl kt) ?_
    refine OFin.to (T27.setTop (mkF m 411 #[.val (.long q0), .second, .val (.long q1), .second, .val (.long q2), .second, .val (.int p3), .val (.int p4), .val (.int (Int32.ofNat mm)), .val (.ref bp), .val (.ref b1), .val (.ref b14), .val (.int (1 : Int32))] [(.int (1 : Int32))])) (fun _ kt => XS.iload X27.here hx rfl (hb hby at_409) rfl kt) ?_
    exact OFin.retZ X27 hx (t := .boolean) hret (by simp) hlk (hb hby at_411) (by decide) (by decide) ⟨by rw [own_nar1], Nqk5⟩
  rcases own_and3 p3 with hn | hn | hn | hn
  · have N0 := Fr.nil h0.size
    refine OFin.to (s₁.setTop (mkF m 2 #[.val (.long q0), .second, .val (.long q1), .second, .val (.long q2), .second, .val (.int p3), .val (.int p4), .unset, .unset, .unset, .unset, .unset] [(.int p3)])) (fun _ kt => XS.iload X0.here hx rfl (hb hby at_0) rfl kt) ?_
    refine OFin.to (s₁.setTop (mkF m 3 #[.val (.long q0), .second, .val (.long q1), .second, .val (.long q2), .second, .val (.int p3), .val (.int p4), .unset, .unset, .unset, .unset, .unset] [(.int (3 : Int32)), (.int p3)])) (fun _ kt => XS.iconst X0.here hx rfl (hb hby at_2) kt) ?_
    refine OFin.to (s₁.setTop (mkF m 4 #[.val (.long q0), .second, .val (.long q1), .second, .val (.long q2), .second, .val (.int p3), .val (.int p4), .unset, .unset, .unset, .unset, .unset] [(.int (p3 &&& (3 : Int32)))])) (fun _ kt => XS.iand X0.here hx rfl (hb hby at_3) rfl kt) ?_
    refine OFin.to (s₁.setTop (mkF m 5 #[.val (.long q0), .second, .val (.long q1), .second, .val (.long q2), .second, .val (.int p3), .val (.int p4), .unset, .unset, .unset, .unset, .unset] [(.int (1 : Int32)), (.int (p3 &&& (3 : Int32)))])) (fun _ kt => XS.iconst X0.here hx rfl (hb hby at_4) kt) ?_
    refine OFin.to (s₁.setTop (mkF m 6 #[.val (.long q0), .second, .val (.long q1), .second, .val (.long q2), .second, .val (.int p3), .val (.int p4), .unset, .unset, .unset, .unset, .unset] [(.int ((p3 &&& (3 : Int32)) + (1 : Int32)))])) (fun _ kt => XS.iadd X0.here hx rfl (hb hby at_5) rfl kt) ?_
    rw [show (p3 &&& (3 : Int32)) + (1 : Int32) = (1 : Int32) from by rw [hn]; decide]
    refine OFin.to (s₁.setTop (mkF m 8 #[.val (.long q0), .second, .val (.long q1), .second, .val (.long q2), .second, .val (.int p3), .val (.int p4), .val (.int (1 : Int32)), .unset, .unset, .unset, .unset] [])) (fun _ kt => XS.istore X0.here hx rfl (hb hby at_6) rfl (l' := #[.val (.long q0), .second, .val (.long q1), .second, .val (.long q2), .second, .val (.int p3), .val (.int p4), .val (.int (1 : Int32)), .unset, .unset, .unset, .unset]) rfl kt) ?_
    refine OFin.to (s₁.setTop (mkF m 10 #[.val (.long q0), .second, .val (.long q1), .second, .val (.long q2), .second, .val (.int p3), .val (.int p4), .val (.int (1 : Int32)), .unset, .unset, .unset, .unset] [(.int (1 : Int32))])) (fun _ kt => XS.iload X0.here hx rfl (hb hby at_8) rfl kt) ?_
    obtain ⟨T28, h28, X28, e28, E28, V28, st28⟩ := own_newP X0 hx hZ (hw _ (List.mem_of_getElem? (i := 0) rfl)) e0 (g := (mkF m 10 #[.val (.long q0), .second, .val (.long q1), .second, .val (.long q2), .second, .val (.int p3), .val (.int p4), .val (.int (1 : Int32)), .unset, .unset, .unset, .unset] [(.int (1 : Int32))])) rfl (hb hby at_10) rfl (by decide) 1 rfl (cap := 4) (by decide) (by decide) (by decide) (by decide)
    obtain ⟨b28, g28⟩ : ∃ z, z = h0.size := ⟨_, rfl⟩
    rw [← g28] at V28 st28
    have g_b28 : h0.size ≤ b28 := by rw [g28]; exact Nat.le_refl _
    have Z28 := E28.1
    have V_b28 : OArr Z h28 b28 .long [(.long (0 : Int64))] := V28
    refine OFin.to (T28.setTop (mkF m 12 #[.val (.long q0), .second, .val (.long q1), .second, .val (.long q2), .second, .val (.int p3), .val (.int p4), .val (.int (1 : Int32)), .unset, .unset, .unset, .unset] [(.ref b28)])) st28 ?_
    refine OFin.to (T28.setTop (mkF m 14 #[.val (.long q0), .second, .val (.long q1), .second, .val (.long q2), .second, .val (.int p3), .val (.int p4), .val (.int (1 : Int32)), .val (.ref b28), .unset, .unset, .unset] [])) (fun _ kt => XS.astore X28.here hx rfl (hb hby at_12) rfl rfl (l' := #[.val (.long q0), .second, .val (.long q1), .second, .val (.long q2), .second, .val (.int p3), .val (.int p4), .val (.int (1 : Int32)), .val (.ref b28), .unset, .unset, .unset]) rfl kt) ?_
    refine OFin.to (T28.setTop (mkF m 16 #[.val (.long q0), .second, .val (.long q1), .second, .val (.long q2), .second, .val (.int p3), .val (.int p4), .val (.int (1 : Int32)), .val (.ref b28), .unset, .unset, .unset] [(.ref b28)])) (fun _ kt => XS.aload X28.here hx rfl (hb hby at_14) rfl rfl kt) ?_
    refine OFin.to (T28.setTop (mkF m 17 #[.val (.long q0), .second, .val (.long q1), .second, .val (.long q2), .second, .val (.int p3), .val (.int p4), .val (.int (1 : Int32)), .val (.ref b28), .unset, .unset, .unset] [(.int (0 : Int32)), (.ref b28)])) (fun _ kt => XS.iconst X28.here hx rfl (hb hby at_16) kt) ?_
    refine OFin.to (T28.setTop (mkF m 19 #[.val (.long q0), .second, .val (.long q1), .second, .val (.long q2), .second, .val (.int p3), .val (.int p4), .val (.int (1 : Int32)), .val (.ref b28), .unset, .unset, .unset] [(.int p3), (.int (0 : Int32)), (.ref b28)])) (fun _ kt => XS.iload X28.here hx rfl (hb hby at_17) rfl kt) ?_
    refine OFin.to (T28.setTop (mkF m 20 #[.val (.long q0), .second, .val (.long q1), .second, .val (.long q2), .second, .val (.int p3), .val (.int p4), .val (.int (1 : Int32)), .val (.ref b28), .unset, .unset, .unset] [(.int (2 : Int32)), (.int p3), (.int (0 : Int32)), (.ref b28)])) (fun _ kt => XS.iconst X28.here hx rfl (hb hby at_19) kt) ?_
    refine OFin.to (T28.setTop (mkF m 21 #[.val (.long q0), .second, .val (.long q1), .second, .val (.long q2), .second, .val (.int p3), .val (.int p4), .val (.int (1 : Int32)), .val (.ref b28), .unset, .unset, .unset] [(.int ((p3.toUInt32 >>> ((2 : Int32) &&& 31).toUInt32).toInt32)), (.int (0 : Int32)), (.ref b28)])) (fun _ kt => XS.iushr X28.here hx rfl (hb hby at_20) rfl kt) ?_
    refine OFin.to (T28.setTop (mkF m 22 #[.val (.long q0), .second, .val (.long q1), .second, .val (.long q2), .second, .val (.int p3), .val (.int p4), .val (.int (1 : Int32)), .val (.ref b28), .unset, .unset, .unset] [(.long q0), (.int ((p3.toUInt32 >>> ((2 : Int32) &&& 31).toUInt32).toInt32)), (.int (0 : Int32)), (.ref b28)])) (fun _ kt => XS.lloadN X28.here hx rfl (hb hby at_21) rfl kt) ?_
    refine OFin.to (T28.setTop (mkF m 23 #[.val (.long q0), .second, .val (.long q1), .second, .val (.long q2), .second, .val (.int p3), .val (.int p4), .val (.int (1 : Int32)), .val (.ref b28), .unset, .unset, .unset] [(.long q1), (.long q0), (.int ((p3.toUInt32 >>> ((2 : Int32) &&& 31).toUInt32).toInt32)), (.int (0 : Int32)), (.ref b28)])) (fun _ kt => XS.lloadN X28.here hx rfl (hb hby at_22) rfl kt) ?_
    refine OFin.to (T28.setTop (mkF m 25 #[.val (.long q0), .second, .val (.long q1), .second, .val (.long q2), .second, .val (.int p3), .val (.int p4), .val (.int (1 : Int32)), .val (.ref b28), .unset, .unset, .unset] [(.long q2), (.long q1), (.long q0), (.int ((p3.toUInt32 >>> ((2 : Int32) &&& 31).toUInt32).toInt32)), (.int (0 : Int32)), (.ref b28)])) (fun _ kt => XS.lload X28.here hx rfl (hb hby at_23) rfl kt) ?_
    obtain ⟨v29, T29, L29, hQ29, X29, st29⟩ := own_callS X28 hx hZ hown (hw _ (List.mem_of_getElem? (i := 1) rfl)) (hw _ (List.mem_of_getElem? (i := 2) rfl)) (hw _ (List.mem_of_getElem? (i := 3) rfl)) (hw _ (List.mem_of_getElem? (i := 4) rfl)) (by decide) e28 (rm1 l Z a0 hw [] ((p3.toUInt32 >>> ((2 : Int32) &&& 31).toUInt32).toInt32) q0 q1 q2 h28) 2 (by decide) (by decide) (by decide) (by decide) (g := (mkF m 25 #[.val (.long q0), .second, .val (.long q1), .second, .val (.long q2), .second, .val (.int p3), .val (.int p4), .val (.int (1 : Int32)), .val (.ref b28), .unset, .unset, .unset] [(.long q2), (.long q1), (.long q0), (.int ((p3.toUInt32 >>> ((2 : Int32) &&& 31).toUInt32).toInt32)), (.int (0 : Int32)), (.ref b28)])) rfl (by rw [hml]; rfl) (rest := [(.int (0 : Int32)), (.ref b28)]) (lenOf pd_1 rfl) rfl (by show 2 * 0 + _ ≤ _; exact Nat.le_of_eq rfl) (hb hby at_25)
    obtain ⟨rfl, e29, rfl⟩ := hQ29
    rw [List.append_nil] at X29
    refine OFin.to (T29.setTop (mkF m 28 #[.val (.long q0), .second, .val (.long q1), .second, .val (.long q2), .second, .val (.int p3), .val (.int p4), .val (.int (1 : Int32)), .val (.ref b28), .unset, .unset, .unset] [(.long (f1_0 ((p3.toUInt32 >>> ((2 : Int32) &&& 31).toUInt32).toInt32) q0 q1 q2)), (.int (0 : Int32)), (.ref b28)])) st29 ?_
    obtain ⟨T30, h30, X30, e30, W30, V30, st30⟩ := own_stJ X29 hx hZ e29 V_b28 0 (by decide) rfl (Nat.le_of_ble_eq_true rfl) (g := (mkF m 28 #[.val (.long q0), .second, .val (.long q1), .second, .val (.long q2), .second, .val (.int p3), .val (.int p4), .val (.int (1 : Int32)), .val (.ref b28), .unset, .unset, .unset] [(.long (f1_0 ((p3.toUInt32 >>> ((2 : Int32) &&& 31).toUInt32).toInt32) q0 q1 q2)), (.int (0 : Int32)), (.ref b28)])) rfl rfl (hb hby at_28)
    have Z30 := Nat.le_trans Z28 (Keep.of_wr W30).1
    have V_b28_30 : OArr Z h30 b28 .long [(.long (f1_0 ((p3.toUInt32 >>> ((2 : Int32) &&& 31).toUInt32).toInt32) q0 q1 q2))] := V30
    have N30 := Fr.snoc X30 N0 g_b28
    refine OFin.to (T30.setTop (mkF m 29 #[.val (.long q0), .second, .val (.long q1), .second, .val (.long q2), .second, .val (.int p3), .val (.int p4), .val (.int (1 : Int32)), .val (.ref b28), .unset, .unset, .unset] [])) st30 ?_
    refine OFin.to (T30.setTop (mkF m 31 #[.val (.long q0), .second, .val (.long q1), .second, .val (.long q2), .second, .val (.int p3), .val (.int p4), .val (.int (1 : Int32)), .val (.ref b28), .unset, .unset, .unset] [(.int (1 : Int32))])) (fun _ kt => XS.iload X30.here hx rfl (hb hby at_29) rfl kt) ?_
    refine OFin.to (T30.setTop (mkF m 32 #[.val (.long q0), .second, .val (.long q1), .second, .val (.long q2), .second, .val (.int p3), .val (.int p4), .val (.int (1 : Int32)), .val (.ref b28), .unset, .unset, .unset] [(.int (2 : Int32)), (.int (1 : Int32))])) (fun _ kt => XS.iconst X30.here hx rfl (hb hby at_31) kt) ?_
    refine OFin.to (T30.setTop (mkF m 50 #[.val (.long q0), .second, .val (.long q1), .second, .val (.long q2), .second, .val (.int p3), .val (.int p4), .val (.int (1 : Int32)), .val (.ref b28), .unset, .unset, .unset] [])) (fun _ kt => XS.icmpYes X30.here hx rfl (pc0 := 32) (pc' := 50) rfl (hb hby at_32) rfl (XT.ii_lt_t (by decide)) (by decide) (by decide) kt) ?_
    refine OFin.to (T30.setTop (mkF m 52 #[.val (.long q0), .second, .val (.long q1), .second, .val (.long q2), .second, .val (.int p3), .val (.int p4), .val (.int (1 : Int32)), .val (.ref b28), .unset, .unset, .unset] [(.int (1 : Int32))])) (fun _ kt => XS.iload X30.here hx rfl (hb hby at_50) rfl kt) ?_
    refine OFin.to (T30.setTop (mkF m 53 #[.val (.long q0), .second, .val (.long q1), .second, .val (.long q2), .second, .val (.int p3), .val (.int p4), .val (.int (1 : Int32)), .val (.ref b28), .unset, .unset, .unset] [(.int (3 : Int32)), (.int (1 : Int32))])) (fun _ kt => XS.iconst X30.here hx rfl (hb hby at_52) kt) ?_
    refine OFin.to (T30.setTop (mkF m 72 #[.val (.long q0), .second, .val (.long q1), .second, .val (.long q2), .second, .val (.int p3), .val (.int p4), .val (.int (1 : Int32)), .val (.ref b28), .unset, .unset, .unset] [])) (fun _ kt => XS.icmpYes X30.here hx rfl (pc0 := 53) (pc' := 72) rfl (hb hby at_53) rfl (XT.ii_lt_t (by decide)) (by decide) (by decide) kt) ?_
    refine OFin.to (T30.setTop (mkF m 74 #[.val (.long q0), .second, .val (.long q1), .second, .val (.long q2), .second, .val (.int p3), .val (.int p4), .val (.int (1 : Int32)), .val (.ref b28), .unset, .unset, .unset] [(.int (1 : Int32))])) (fun _ kt => XS.iload X30.here hx rfl (hb hby at_72) rfl kt) ?_
    refine OFin.to (T30.setTop (mkF m 75 #[.val (.long q0), .second, .val (.long q1), .second, .val (.long q2), .second, .val (.int p3), .val (.int p4), .val (.int (1 : Int32)), .val (.ref b28), .unset, .unset, .unset] [(.int (4 : Int32)), (.int (1 : Int32))])) (fun _ kt => XS.iconst X30.here hx rfl (hb hby at_74) kt) ?_
    refine OFin.to (T30.setTop (mkF m 94 #[.val (.long q0), .second, .val (.long q1), .second, .val (.long q2), .second, .val (.int p3), .val (.int p4), .val (.int (1 : Int32)), .val (.ref b28), .unset, .unset, .unset] [])) (fun _ kt => XS.icmpYes X30.here hx rfl (pc0 := 75) (pc' := 94) rfl (hb hby at_75) rfl (XT.ii_lt_t (by decide)) (by decide) (by decide) kt) ?_
    exact J94 T30 h30 _ b28 1 (own_t6 (f1_0 ((p3.toUInt32 >>> ((2 : Int32) &&& 31).toUInt32).toInt32) q0 q1 q2) 0 0 0 0 0) (by decide) (by decide) X30 e30 V_b28_30 N30 Z30 g_b28
  · have N0 := Fr.nil h0.size
    refine OFin.to (s₁.setTop (mkF m 2 #[.val (.long q0), .second, .val (.long q1), .second, .val (.long q2), .second, .val (.int p3), .val (.int p4), .unset, .unset, .unset, .unset, .unset] [(.int p3)])) (fun _ kt => XS.iload X0.here hx rfl (hb hby at_0) rfl kt) ?_
    refine OFin.to (s₁.setTop (mkF m 3 #[.val (.long q0), .second, .val (.long q1), .second, .val (.long q2), .second, .val (.int p3), .val (.int p4), .unset, .unset, .unset, .unset, .unset] [(.int (3 : Int32)), (.int p3)])) (fun _ kt => XS.iconst X0.here hx rfl (hb hby at_2) kt) ?_
    refine OFin.to (s₁.setTop (mkF m 4 #[.val (.long q0), .second, .val (.long q1), .second, .val (.long q2), .second, .val (.int p3), .val (.int p4), .unset, .unset, .unset, .unset, .unset] [(.int (p3 &&& (3 : Int32)))])) (fun _ kt => XS.iand X0.here hx rfl (hb hby at_3) rfl kt) ?_
    refine OFin.to (s₁.setTop (mkF m 5 #[.val (.long q0), .second, .val (.long q1), .second, .val (.long q2), .second, .val (.int p3), .val (.int p4), .unset, .unset, .unset, .unset, .unset] [(.int (1 : Int32)), (.int (p3 &&& (3 : Int32)))])) (fun _ kt => XS.iconst X0.here hx rfl (hb hby at_4) kt) ?_
    refine OFin.to (s₁.setTop (mkF m 6 #[.val (.long q0), .second, .val (.long q1), .second, .val (.long q2), .second, .val (.int p3), .val (.int p4), .unset, .unset, .unset, .unset, .unset] [(.int ((p3 &&& (3 : Int32)) + (1 : Int32)))])) (fun _ kt => XS.iadd X0.here hx rfl (hb hby at_5) rfl kt) ?_
    rw [show (p3 &&& (3 : Int32)) + (1 : Int32) = (2 : Int32) from by rw [hn]; decide]
    refine OFin.to (s₁.setTop (mkF m 8 #[.val (.long q0), .second, .val (.long q1), .second, .val (.long q2), .second, .val (.int p3), .val (.int p4), .val (.int (2 : Int32)), .unset, .unset, .unset, .unset] [])) (fun _ kt => XS.istore X0.here hx rfl (hb hby at_6) rfl (l' := #[.val (.long q0), .second, .val (.long q1), .second, .val (.long q2), .second, .val (.int p3), .val (.int p4), .val (.int (2 : Int32)), .unset, .unset, .unset, .unset]) rfl kt) ?_
    refine OFin.to (s₁.setTop (mkF m 10 #[.val (.long q0), .second, .val (.long q1), .second, .val (.long q2), .second, .val (.int p3), .val (.int p4), .val (.int (2 : Int32)), .unset, .unset, .unset, .unset] [(.int (2 : Int32))])) (fun _ kt => XS.iload X0.here hx rfl (hb hby at_8) rfl kt) ?_
    obtain ⟨T31, h31, X31, e31, E31, V31, st31⟩ := own_newP X0 hx hZ (hw _ (List.mem_of_getElem? (i := 0) rfl)) e0 (g := (mkF m 10 #[.val (.long q0), .second, .val (.long q1), .second, .val (.long q2), .second, .val (.int p3), .val (.int p4), .val (.int (2 : Int32)), .unset, .unset, .unset, .unset] [(.int (2 : Int32))])) rfl (hb hby at_10) rfl (by decide) 2 rfl (cap := 4) (by decide) (by decide) (by decide) (by decide)
    obtain ⟨b31, g31⟩ : ∃ z, z = h0.size := ⟨_, rfl⟩
    rw [← g31] at V31 st31
    have g_b31 : h0.size ≤ b31 := by rw [g31]; exact Nat.le_refl _
    have Z31 := E31.1
    have V_b31 : OArr Z h31 b31 .long [(.long (0 : Int64)), (.long (0 : Int64))] := V31
    refine OFin.to (T31.setTop (mkF m 12 #[.val (.long q0), .second, .val (.long q1), .second, .val (.long q2), .second, .val (.int p3), .val (.int p4), .val (.int (2 : Int32)), .unset, .unset, .unset, .unset] [(.ref b31)])) st31 ?_
    refine OFin.to (T31.setTop (mkF m 14 #[.val (.long q0), .second, .val (.long q1), .second, .val (.long q2), .second, .val (.int p3), .val (.int p4), .val (.int (2 : Int32)), .val (.ref b31), .unset, .unset, .unset] [])) (fun _ kt => XS.astore X31.here hx rfl (hb hby at_12) rfl rfl (l' := #[.val (.long q0), .second, .val (.long q1), .second, .val (.long q2), .second, .val (.int p3), .val (.int p4), .val (.int (2 : Int32)), .val (.ref b31), .unset, .unset, .unset]) rfl kt) ?_
    refine OFin.to (T31.setTop (mkF m 16 #[.val (.long q0), .second, .val (.long q1), .second, .val (.long q2), .second, .val (.int p3), .val (.int p4), .val (.int (2 : Int32)), .val (.ref b31), .unset, .unset, .unset] [(.ref b31)])) (fun _ kt => XS.aload X31.here hx rfl (hb hby at_14) rfl rfl kt) ?_
    refine OFin.to (T31.setTop (mkF m 17 #[.val (.long q0), .second, .val (.long q1), .second, .val (.long q2), .second, .val (.int p3), .val (.int p4), .val (.int (2 : Int32)), .val (.ref b31), .unset, .unset, .unset] [(.int (0 : Int32)), (.ref b31)])) (fun _ kt => XS.iconst X31.here hx rfl (hb hby at_16) kt) ?_
    refine OFin.to (T31.setTop (mkF m 19 #[.val (.long q0), .second, .val (.long q1), .second, .val (.long q2), .second, .val (.int p3), .val (.int p4), .val (.int (2 : Int32)), .val (.ref b31), .unset, .unset, .unset] [(.int p3), (.int (0 : Int32)), (.ref b31)])) (fun _ kt => XS.iload X31.here hx rfl (hb hby at_17) rfl kt) ?_
    refine OFin.to (T31.setTop (mkF m 20 #[.val (.long q0), .second, .val (.long q1), .second, .val (.long q2), .second, .val (.int p3), .val (.int p4), .val (.int (2 : Int32)), .val (.ref b31), .unset, .unset, .unset] [(.int (2 : Int32)), (.int p3), (.int (0 : Int32)), (.ref b31)])) (fun _ kt => XS.iconst X31.here hx rfl (hb hby at_19) kt) ?_
    refine OFin.to (T31.setTop (mkF m 21 #[.val (.long q0), .second, .val (.long q1), .second, .val (.long q2), .second, .val (.int p3), .val (.int p4), .val (.int (2 : Int32)), .val (.ref b31), .unset, .unset, .unset] [(.int ((p3.toUInt32 >>> ((2 : Int32) &&& 31).toUInt32).toInt32)), (.int (0 : Int32)), (.ref b31)])) (fun _ kt => XS.iushr X31.here hx rfl (hb hby at_20) rfl kt) ?_
    refine OFin.to (T31.setTop (mkF m 22 #[.val (.long q0), .second, .val (.long q1), .second, .val (.long q2), .second, .val (.int p3), .val (.int p4), .val (.int (2 : Int32)), .val (.ref b31), .unset, .unset, .unset] [(.long q0), (.int ((p3.toUInt32 >>> ((2 : Int32) &&& 31).toUInt32).toInt32)), (.int (0 : Int32)), (.ref b31)])) (fun _ kt => XS.lloadN X31.here hx rfl (hb hby at_21) rfl kt) ?_
    refine OFin.to (T31.setTop (mkF m 23 #[.val (.long q0), .second, .val (.long q1), .second, .val (.long q2), .second, .val (.int p3), .val (.int p4), .val (.int (2 : Int32)), .val (.ref b31), .unset, .unset, .unset] [(.long q1), (.long q0), (.int ((p3.toUInt32 >>> ((2 : Int32) &&& 31).toUInt32).toInt32)), (.int (0 : Int32)), (.ref b31)])) (fun _ kt => XS.lloadN X31.here hx rfl (hb hby at_22) rfl kt) ?_
    refine OFin.to (T31.setTop (mkF m 25 #[.val (.long q0), .second, .val (.long q1), .second, .val (.long q2), .second, .val (.int p3), .val (.int p4), .val (.int (2 : Int32)), .val (.ref b31), .unset, .unset, .unset] [(.long q2), (.long q1), (.long q0), (.int ((p3.toUInt32 >>> ((2 : Int32) &&& 31).toUInt32).toInt32)), (.int (0 : Int32)), (.ref b31)])) (fun _ kt => XS.lload X31.here hx rfl (hb hby at_23) rfl kt) ?_
    obtain ⟨v32, T32, L32, hQ32, X32, st32⟩ := own_callS X31 hx hZ hown (hw _ (List.mem_of_getElem? (i := 1) rfl)) (hw _ (List.mem_of_getElem? (i := 2) rfl)) (hw _ (List.mem_of_getElem? (i := 3) rfl)) (hw _ (List.mem_of_getElem? (i := 4) rfl)) (by decide) e31 (rm1 l Z a0 hw [] ((p3.toUInt32 >>> ((2 : Int32) &&& 31).toUInt32).toInt32) q0 q1 q2 h31) 2 (by decide) (by decide) (by decide) (by decide) (g := (mkF m 25 #[.val (.long q0), .second, .val (.long q1), .second, .val (.long q2), .second, .val (.int p3), .val (.int p4), .val (.int (2 : Int32)), .val (.ref b31), .unset, .unset, .unset] [(.long q2), (.long q1), (.long q0), (.int ((p3.toUInt32 >>> ((2 : Int32) &&& 31).toUInt32).toInt32)), (.int (0 : Int32)), (.ref b31)])) rfl (by rw [hml]; rfl) (rest := [(.int (0 : Int32)), (.ref b31)]) (lenOf pd_1 rfl) rfl (by show 2 * 0 + _ ≤ _; exact Nat.le_of_eq rfl) (hb hby at_25)
    obtain ⟨rfl, e32, rfl⟩ := hQ32
    rw [List.append_nil] at X32
    refine OFin.to (T32.setTop (mkF m 28 #[.val (.long q0), .second, .val (.long q1), .second, .val (.long q2), .second, .val (.int p3), .val (.int p4), .val (.int (2 : Int32)), .val (.ref b31), .unset, .unset, .unset] [(.long (f1_0 ((p3.toUInt32 >>> ((2 : Int32) &&& 31).toUInt32).toInt32) q0 q1 q2)), (.int (0 : Int32)), (.ref b31)])) st32 ?_
    obtain ⟨T33, h33, X33, e33, W33, V33, st33⟩ := own_stJ X32 hx hZ e32 V_b31 0 (by decide) rfl (Nat.le_of_ble_eq_true rfl) (g := (mkF m 28 #[.val (.long q0), .second, .val (.long q1), .second, .val (.long q2), .second, .val (.int p3), .val (.int p4), .val (.int (2 : Int32)), .val (.ref b31), .unset, .unset, .unset] [(.long (f1_0 ((p3.toUInt32 >>> ((2 : Int32) &&& 31).toUInt32).toInt32) q0 q1 q2)), (.int (0 : Int32)), (.ref b31)])) rfl rfl (hb hby at_28)
    have Z33 := Nat.le_trans Z31 (Keep.of_wr W33).1
    have V_b31_33 : OArr Z h33 b31 .long [(.long (f1_0 ((p3.toUInt32 >>> ((2 : Int32) &&& 31).toUInt32).toInt32) q0 q1 q2)), (.long (0 : Int64))] := V33
    have N33 := Fr.snoc X33 N0 g_b31
    refine OFin.to (T33.setTop (mkF m 29 #[.val (.long q0), .second, .val (.long q1), .second, .val (.long q2), .second, .val (.int p3), .val (.int p4), .val (.int (2 : Int32)), .val (.ref b31), .unset, .unset, .unset] [])) st33 ?_
    refine OFin.to (T33.setTop (mkF m 31 #[.val (.long q0), .second, .val (.long q1), .second, .val (.long q2), .second, .val (.int p3), .val (.int p4), .val (.int (2 : Int32)), .val (.ref b31), .unset, .unset, .unset] [(.int (2 : Int32))])) (fun _ kt => XS.iload X33.here hx rfl (hb hby at_29) rfl kt) ?_
    refine OFin.to (T33.setTop (mkF m 32 #[.val (.long q0), .second, .val (.long q1), .second, .val (.long q2), .second, .val (.int p3), .val (.int p4), .val (.int (2 : Int32)), .val (.ref b31), .unset, .unset, .unset] [(.int (2 : Int32)), (.int (2 : Int32))])) (fun _ kt => XS.iconst X33.here hx rfl (hb hby at_31) kt) ?_
    refine OFin.to (T33.setTop (mkF m 35 #[.val (.long q0), .second, .val (.long q1), .second, .val (.long q2), .second, .val (.int p3), .val (.int p4), .val (.int (2 : Int32)), .val (.ref b31), .unset, .unset, .unset] [])) (fun _ kt => XS.icmpNo X33.here hx rfl (hb hby at_32) rfl (XT.ii_lt_f (by decide)) kt) ?_
    refine OFin.to (T33.setTop (mkF m 37 #[.val (.long q0), .second, .val (.long q1), .second, .val (.long q2), .second, .val (.int p3), .val (.int p4), .val (.int (2 : Int32)), .val (.ref b31), .unset, .unset, .unset] [(.ref b31)])) (fun _ kt => XS.aload X33.here hx rfl (hb hby at_35) rfl rfl kt) ?_
    refine OFin.to (T33.setTop (mkF m 38 #[.val (.long q0), .second, .val (.long q1), .second, .val (.long q2), .second, .val (.int p3), .val (.int p4), .val (.int (2 : Int32)), .val (.ref b31), .unset, .unset, .unset] [(.int (1 : Int32)), (.ref b31)])) (fun _ kt => XS.iconst X33.here hx rfl (hb hby at_37) kt) ?_
    refine OFin.to (T33.setTop (mkF m 40 #[.val (.long q0), .second, .val (.long q1), .second, .val (.long q2), .second, .val (.int p3), .val (.int p4), .val (.int (2 : Int32)), .val (.ref b31), .unset, .unset, .unset] [(.int p3), (.int (1 : Int32)), (.ref b31)])) (fun _ kt => XS.iload X33.here hx rfl (hb hby at_38) rfl kt) ?_
    refine OFin.to (T33.setTop (mkF m 41 #[.val (.long q0), .second, .val (.long q1), .second, .val (.long q2), .second, .val (.int p3), .val (.int p4), .val (.int (2 : Int32)), .val (.ref b31), .unset, .unset, .unset] [(.int (4 : Int32)), (.int p3), (.int (1 : Int32)), (.ref b31)])) (fun _ kt => XS.iconst X33.here hx rfl (hb hby at_40) kt) ?_
    refine OFin.to (T33.setTop (mkF m 42 #[.val (.long q0), .second, .val (.long q1), .second, .val (.long q2), .second, .val (.int p3), .val (.int p4), .val (.int (2 : Int32)), .val (.ref b31), .unset, .unset, .unset] [(.int ((p3.toUInt32 >>> ((4 : Int32) &&& 31).toUInt32).toInt32)), (.int (1 : Int32)), (.ref b31)])) (fun _ kt => XS.iushr X33.here hx rfl (hb hby at_41) rfl kt) ?_
    refine OFin.to (T33.setTop (mkF m 43 #[.val (.long q0), .second, .val (.long q1), .second, .val (.long q2), .second, .val (.int p3), .val (.int p4), .val (.int (2 : Int32)), .val (.ref b31), .unset, .unset, .unset] [(.long q0), (.int ((p3.toUInt32 >>> ((4 : Int32) &&& 31).toUInt32).toInt32)), (.int (1 : Int32)), (.ref b31)])) (fun _ kt => XS.lloadN X33.here hx rfl (hb hby at_42) rfl kt) ?_
    refine OFin.to (T33.setTop (mkF m 44 #[.val (.long q0), .second, .val (.long q1), .second, .val (.long q2), .second, .val (.int p3), .val (.int p4), .val (.int (2 : Int32)), .val (.ref b31), .unset, .unset, .unset] [(.long q1), (.long q0), (.int ((p3.toUInt32 >>> ((4 : Int32) &&& 31).toUInt32).toInt32)), (.int (1 : Int32)), (.ref b31)])) (fun _ kt => XS.lloadN X33.here hx rfl (hb hby at_43) rfl kt) ?_
    refine OFin.to (T33.setTop (mkF m 46 #[.val (.long q0), .second, .val (.long q1), .second, .val (.long q2), .second, .val (.int p3), .val (.int p4), .val (.int (2 : Int32)), .val (.ref b31), .unset, .unset, .unset] [(.long q2), (.long q1), (.long q0), (.int ((p3.toUInt32 >>> ((4 : Int32) &&& 31).toUInt32).toInt32)), (.int (1 : Int32)), (.ref b31)])) (fun _ kt => XS.lload X33.here hx rfl (hb hby at_44) rfl kt) ?_
    obtain ⟨v34, T34, L34, hQ34, X34, st34⟩ := own_callS X33 hx hZ hown (hw _ (List.mem_of_getElem? (i := 1) rfl)) (hw _ (List.mem_of_getElem? (i := 2) rfl)) (hw _ (List.mem_of_getElem? (i := 3) rfl)) (hw _ (List.mem_of_getElem? (i := 4) rfl)) (by decide) e33 (rm1 l Z a0 hw [] ((p3.toUInt32 >>> ((4 : Int32) &&& 31).toUInt32).toInt32) q0 q1 q2 h33) 2 (by decide) (by decide) (by decide) (by decide) (g := (mkF m 46 #[.val (.long q0), .second, .val (.long q1), .second, .val (.long q2), .second, .val (.int p3), .val (.int p4), .val (.int (2 : Int32)), .val (.ref b31), .unset, .unset, .unset] [(.long q2), (.long q1), (.long q0), (.int ((p3.toUInt32 >>> ((4 : Int32) &&& 31).toUInt32).toInt32)), (.int (1 : Int32)), (.ref b31)])) rfl (by rw [hml]; rfl) (rest := [(.int (1 : Int32)), (.ref b31)]) (lenOf pd_1 rfl) rfl (by show 2 * 0 + _ ≤ _; exact Nat.le_of_eq rfl) (hb hby at_46)
    obtain ⟨rfl, e34, rfl⟩ := hQ34
    rw [List.append_nil] at X34
    refine OFin.to (T34.setTop (mkF m 49 #[.val (.long q0), .second, .val (.long q1), .second, .val (.long q2), .second, .val (.int p3), .val (.int p4), .val (.int (2 : Int32)), .val (.ref b31), .unset, .unset, .unset] [(.long (f1_0 ((p3.toUInt32 >>> ((4 : Int32) &&& 31).toUInt32).toInt32) q0 q1 q2)), (.int (1 : Int32)), (.ref b31)])) st34 ?_
    obtain ⟨T35, h35, X35, e35, W35, V35, st35⟩ := own_stJ X34 hx hZ e34 V_b31_33 1 (by decide) rfl (Nat.le_of_ble_eq_true rfl) (g := (mkF m 49 #[.val (.long q0), .second, .val (.long q1), .second, .val (.long q2), .second, .val (.int p3), .val (.int p4), .val (.int (2 : Int32)), .val (.ref b31), .unset, .unset, .unset] [(.long (f1_0 ((p3.toUInt32 >>> ((4 : Int32) &&& 31).toUInt32).toInt32) q0 q1 q2)), (.int (1 : Int32)), (.ref b31)])) rfl rfl (hb hby at_49)
    have Z35 := Nat.le_trans Z33 (Keep.of_wr W35).1
    have V_b31_35 : OArr Z h35 b31 .long [(.long (f1_0 ((p3.toUInt32 >>> ((2 : Int32) &&& 31).toUInt32).toInt32) q0 q1 q2)), (.long (f1_0 ((p3.toUInt32 >>> ((4 : Int32) &&& 31).toUInt32).toInt32) q0 q1 q2))] := V35
    have N35 := Fr.snoc X35 N33 g_b31
    refine OFin.to (T35.setTop (mkF m 50 #[.val (.long q0), .second, .val (.long q1), .second, .val (.long q2), .second, .val (.int p3), .val (.int p4), .val (.int (2 : Int32)), .val (.ref b31), .unset, .unset, .unset] [])) st35 ?_
    refine OFin.to (T35.setTop (mkF m 52 #[.val (.long q0), .second, .val (.long q1), .second, .val (.long q2), .second, .val (.int p3), .val (.int p4), .val (.int (2 : Int32)), .val (.ref b31), .unset, .unset, .unset] [(.int (2 : Int32))])) (fun _ kt => XS.iload X35.here hx rfl (hb hby at_50) rfl kt) ?_
    refine OFin.to (T35.setTop (mkF m 53 #[.val (.long q0), .second, .val (.long q1), .second, .val (.long q2), .second, .val (.int p3), .val (.int p4), .val (.int (2 : Int32)), .val (.ref b31), .unset, .unset, .unset] [(.int (3 : Int32)), (.int (2 : Int32))])) (fun _ kt => XS.iconst X35.here hx rfl (hb hby at_52) kt) ?_
    refine OFin.to (T35.setTop (mkF m 72 #[.val (.long q0), .second, .val (.long q1), .second, .val (.long q2), .second, .val (.int p3), .val (.int p4), .val (.int (2 : Int32)), .val (.ref b31), .unset, .unset, .unset] [])) (fun _ kt => XS.icmpYes X35.here hx rfl (pc0 := 53) (pc' := 72) rfl (hb hby at_53) rfl (XT.ii_lt_t (by decide)) (by decide) (by decide) kt) ?_
    refine OFin.to (T35.setTop (mkF m 74 #[.val (.long q0), .second, .val (.long q1), .second, .val (.long q2), .second, .val (.int p3), .val (.int p4), .val (.int (2 : Int32)), .val (.ref b31), .unset, .unset, .unset] [(.int (2 : Int32))])) (fun _ kt => XS.iload X35.here hx rfl (hb hby at_72) rfl kt) ?_
    refine OFin.to (T35.setTop (mkF m 75 #[.val (.long q0), .second, .val (.long q1), .second, .val (.long q2), .second, .val (.int p3), .val (.int p4), .val (.int (2 : Int32)), .val (.ref b31), .unset, .unset, .unset] [(.int (4 : Int32)), (.int (2 : Int32))])) (fun _ kt => XS.iconst X35.here hx rfl (hb hby at_74) kt) ?_
    refine OFin.to (T35.setTop (mkF m 94 #[.val (.long q0), .second, .val (.long q1), .second, .val (.long q2), .second, .val (.int p3), .val (.int p4), .val (.int (2 : Int32)), .val (.ref b31), .unset, .unset, .unset] [])) (fun _ kt => XS.icmpYes X35.here hx rfl (pc0 := 75) (pc' := 94) rfl (hb hby at_75) rfl (XT.ii_lt_t (by decide)) (by decide) (by decide) kt) ?_
    exact J94 T35 h35 _ b31 2 (own_t6 (f1_0 ((p3.toUInt32 >>> ((2 : Int32) &&& 31).toUInt32).toInt32) q0 q1 q2) (f1_0 ((p3.toUInt32 >>> ((4 : Int32) &&& 31).toUInt32).toInt32) q0 q1 q2) 0 0 0 0) (by decide) (by decide) X35 e35 V_b31_35 N35 Z35 g_b31
  · have N0 := Fr.nil h0.size
    refine OFin.to (s₁.setTop (mkF m 2 #[.val (.long q0), .second, .val (.long q1), .second, .val (.long q2), .second, .val (.int p3), .val (.int p4), .unset, .unset, .unset, .unset, .unset] [(.int p3)])) (fun _ kt => XS.iload X0.here hx rfl (hb hby at_0) rfl kt) ?_
    refine OFin.to (s₁.setTop (mkF m 3 #[.val (.long q0), .second, .val (.long q1), .second, .val (.long q2), .second, .val (.int p3), .val (.int p4), .unset, .unset, .unset, .unset, .unset] [(.int (3 : Int32)), (.int p3)])) (fun _ kt => XS.iconst X0.here hx rfl (hb hby at_2) kt) ?_
    refine OFin.to (s₁.setTop (mkF m 4 #[.val (.long q0), .second, .val (.long q1), .second, .val (.long q2), .second, .val (.int p3), .val (.int p4), .unset, .unset, .unset, .unset, .unset] [(.int (p3 &&& (3 : Int32)))])) (fun _ kt => XS.iand X0.here hx rfl (hb hby at_3) rfl kt) ?_
    refine OFin.to (s₁.setTop (mkF m 5 #[.val (.long q0), .second, .val (.long q1), .second, .val (.long q2), .second, .val (.int p3), .val (.int p4), .unset, .unset, .unset, .unset, .unset] [(.int (1 : Int32)), (.int (p3 &&& (3 : Int32)))])) (fun _ kt => XS.iconst X0.here hx rfl (hb hby at_4) kt) ?_
    refine OFin.to (s₁.setTop (mkF m 6 #[.val (.long q0), .second, .val (.long q1), .second, .val (.long q2), .second, .val (.int p3), .val (.int p4), .unset, .unset, .unset, .unset, .unset] [(.int ((p3 &&& (3 : Int32)) + (1 : Int32)))])) (fun _ kt => XS.iadd X0.here hx rfl (hb hby at_5) rfl kt) ?_
    rw [show (p3 &&& (3 : Int32)) + (1 : Int32) = (3 : Int32) from by rw [hn]; decide]
    refine OFin.to (s₁.setTop (mkF m 8 #[.val (.long q0), .second, .val (.long q1), .second, .val (.long q2), .second, .val (.int p3), .val (.int p4), .val (.int (3 : Int32)), .unset, .unset, .unset, .unset] [])) (fun _ kt => XS.istore X0.here hx rfl (hb hby at_6) rfl (l' := #[.val (.long q0), .second, .val (.long q1), .second, .val (.long q2), .second, .val (.int p3), .val (.int p4), .val (.int (3 : Int32)), .unset, .unset, .unset, .unset]) rfl kt) ?_
    refine OFin.to (s₁.setTop (mkF m 10 #[.val (.long q0), .second, .val (.long q1), .second, .val (.long q2), .second, .val (.int p3), .val (.int p4), .val (.int (3 : Int32)), .unset, .unset, .unset, .unset] [(.int (3 : Int32))])) (fun _ kt => XS.iload X0.here hx rfl (hb hby at_8) rfl kt) ?_
    obtain ⟨T36, h36, X36, e36, E36, V36, st36⟩ := own_newP X0 hx hZ (hw _ (List.mem_of_getElem? (i := 0) rfl)) e0 (g := (mkF m 10 #[.val (.long q0), .second, .val (.long q1), .second, .val (.long q2), .second, .val (.int p3), .val (.int p4), .val (.int (3 : Int32)), .unset, .unset, .unset, .unset] [(.int (3 : Int32))])) rfl (hb hby at_10) rfl (by decide) 3 rfl (cap := 4) (by decide) (by decide) (by decide) (by decide)
    obtain ⟨b36, g36⟩ : ∃ z, z = h0.size := ⟨_, rfl⟩
    rw [← g36] at V36 st36
    have g_b36 : h0.size ≤ b36 := by rw [g36]; exact Nat.le_refl _
    have Z36 := E36.1
    have V_b36 : OArr Z h36 b36 .long [(.long (0 : Int64)), (.long (0 : Int64)), (.long (0 : Int64))] := V36
    refine OFin.to (T36.setTop (mkF m 12 #[.val (.long q0), .second, .val (.long q1), .second, .val (.long q2), .second, .val (.int p3), .val (.int p4), .val (.int (3 : Int32)), .unset, .unset, .unset, .unset] [(.ref b36)])) st36 ?_
    refine OFin.to (T36.setTop (mkF m 14 #[.val (.long q0), .second, .val (.long q1), .second, .val (.long q2), .second, .val (.int p3), .val (.int p4), .val (.int (3 : Int32)), .val (.ref b36), .unset, .unset, .unset] [])) (fun _ kt => XS.astore X36.here hx rfl (hb hby at_12) rfl rfl (l' := #[.val (.long q0), .second, .val (.long q1), .second, .val (.long q2), .second, .val (.int p3), .val (.int p4), .val (.int (3 : Int32)), .val (.ref b36), .unset, .unset, .unset]) rfl kt) ?_
    refine OFin.to (T36.setTop (mkF m 16 #[.val (.long q0), .second, .val (.long q1), .second, .val (.long q2), .second, .val (.int p3), .val (.int p4), .val (.int (3 : Int32)), .val (.ref b36), .unset, .unset, .unset] [(.ref b36)])) (fun _ kt => XS.aload X36.here hx rfl (hb hby at_14) rfl rfl kt) ?_
    refine OFin.to (T36.setTop (mkF m 17 #[.val (.long q0), .second, .val (.long q1), .second, .val (.long q2), .second, .val (.int p3), .val (.int p4), .val (.int (3 : Int32)), .val (.ref b36), .unset, .unset, .unset] [(.int (0 : Int32)), (.ref b36)])) (fun _ kt => XS.iconst X36.here hx rfl (hb hby at_16) kt) ?_
    refine OFin.to (T36.setTop (mkF m 19 #[.val (.long q0), .second, .val (.long q1), .second, .val (.long q2), .second, .val (.int p3), .val (.int p4), .val (.int (3 : Int32)), .val (.ref b36), .unset, .unset, .unset] [(.int p3), (.int (0 : Int32)), (.ref b36)])) (fun _ kt => XS.iload X36.here hx rfl (hb hby at_17) rfl kt) ?_
    refine OFin.to (T36.setTop (mkF m 20 #[.val (.long q0), .second, .val (.long q1), .second, .val (.long q2), .second, .val (.int p3), .val (.int p4), .val (.int (3 : Int32)), .val (.ref b36), .unset, .unset, .unset] [(.int (2 : Int32)), (.int p3), (.int (0 : Int32)), (.ref b36)])) (fun _ kt => XS.iconst X36.here hx rfl (hb hby at_19) kt) ?_
    refine OFin.to (T36.setTop (mkF m 21 #[.val (.long q0), .second, .val (.long q1), .second, .val (.long q2), .second, .val (.int p3), .val (.int p4), .val (.int (3 : Int32)), .val (.ref b36), .unset, .unset, .unset] [(.int ((p3.toUInt32 >>> ((2 : Int32) &&& 31).toUInt32).toInt32)), (.int (0 : Int32)), (.ref b36)])) (fun _ kt => XS.iushr X36.here hx rfl (hb hby at_20) rfl kt) ?_
    refine OFin.to (T36.setTop (mkF m 22 #[.val (.long q0), .second, .val (.long q1), .second, .val (.long q2), .second, .val (.int p3), .val (.int p4), .val (.int (3 : Int32)), .val (.ref b36), .unset, .unset, .unset] [(.long q0), (.int ((p3.toUInt32 >>> ((2 : Int32) &&& 31).toUInt32).toInt32)), (.int (0 : Int32)), (.ref b36)])) (fun _ kt => XS.lloadN X36.here hx rfl (hb hby at_21) rfl kt) ?_
    refine OFin.to (T36.setTop (mkF m 23 #[.val (.long q0), .second, .val (.long q1), .second, .val (.long q2), .second, .val (.int p3), .val (.int p4), .val (.int (3 : Int32)), .val (.ref b36), .unset, .unset, .unset] [(.long q1), (.long q0), (.int ((p3.toUInt32 >>> ((2 : Int32) &&& 31).toUInt32).toInt32)), (.int (0 : Int32)), (.ref b36)])) (fun _ kt => XS.lloadN X36.here hx rfl (hb hby at_22) rfl kt) ?_
    refine OFin.to (T36.setTop (mkF m 25 #[.val (.long q0), .second, .val (.long q1), .second, .val (.long q2), .second, .val (.int p3), .val (.int p4), .val (.int (3 : Int32)), .val (.ref b36), .unset, .unset, .unset] [(.long q2), (.long q1), (.long q0), (.int ((p3.toUInt32 >>> ((2 : Int32) &&& 31).toUInt32).toInt32)), (.int (0 : Int32)), (.ref b36)])) (fun _ kt => XS.lload X36.here hx rfl (hb hby at_23) rfl kt) ?_
    obtain ⟨v37, T37, L37, hQ37, X37, st37⟩ := own_callS X36 hx hZ hown (hw _ (List.mem_of_getElem? (i := 1) rfl)) (hw _ (List.mem_of_getElem? (i := 2) rfl)) (hw _ (List.mem_of_getElem? (i := 3) rfl)) (hw _ (List.mem_of_getElem? (i := 4) rfl)) (by decide) e36 (rm1 l Z a0 hw [] ((p3.toUInt32 >>> ((2 : Int32) &&& 31).toUInt32).toInt32) q0 q1 q2 h36) 2 (by decide) (by decide) (by decide) (by decide) (g := (mkF m 25 #[.val (.long q0), .second, .val (.long q1), .second, .val (.long q2), .second, .val (.int p3), .val (.int p4), .val (.int (3 : Int32)), .val (.ref b36), .unset, .unset, .unset] [(.long q2), (.long q1), (.long q0), (.int ((p3.toUInt32 >>> ((2 : Int32) &&& 31).toUInt32).toInt32)), (.int (0 : Int32)), (.ref b36)])) rfl (by rw [hml]; rfl) (rest := [(.int (0 : Int32)), (.ref b36)]) (lenOf pd_1 rfl) rfl (by show 2 * 0 + _ ≤ _; exact Nat.le_of_eq rfl) (hb hby at_25)
    obtain ⟨rfl, e37, rfl⟩ := hQ37
    rw [List.append_nil] at X37
    refine OFin.to (T37.setTop (mkF m 28 #[.val (.long q0), .second, .val (.long q1), .second, .val (.long q2), .second, .val (.int p3), .val (.int p4), .val (.int (3 : Int32)), .val (.ref b36), .unset, .unset, .unset] [(.long (f1_0 ((p3.toUInt32 >>> ((2 : Int32) &&& 31).toUInt32).toInt32) q0 q1 q2)), (.int (0 : Int32)), (.ref b36)])) st37 ?_
    obtain ⟨T38, h38, X38, e38, W38, V38, st38⟩ := own_stJ X37 hx hZ e37 V_b36 0 (by decide) rfl (Nat.le_of_ble_eq_true rfl) (g := (mkF m 28 #[.val (.long q0), .second, .val (.long q1), .second, .val (.long q2), .second, .val (.int p3), .val (.int p4), .val (.int (3 : Int32)), .val (.ref b36), .unset, .unset, .unset] [(.long (f1_0 ((p3.toUInt32 >>> ((2 : Int32) &&& 31).toUInt32).toInt32) q0 q1 q2)), (.int (0 : Int32)), (.ref b36)])) rfl rfl (hb hby at_28)
    have Z38 := Nat.le_trans Z36 (Keep.of_wr W38).1
    have V_b36_38 : OArr Z h38 b36 .long [(.long (f1_0 ((p3.toUInt32 >>> ((2 : Int32) &&& 31).toUInt32).toInt32) q0 q1 q2)), (.long (0 : Int64)), (.long (0 : Int64))] := V38
    have N38 := Fr.snoc X38 N0 g_b36
    refine OFin.to (T38.setTop (mkF m 29 #[.val (.long q0), .second, .val (.long q1), .second, .val (.long q2), .second, .val (.int p3), .val (.int p4), .val (.int (3 : Int32)), .val (.ref b36), .unset, .unset, .unset] [])) st38 ?_
    refine OFin.to (T38.setTop (mkF m 31 #[.val (.long q0), .second, .val (.long q1), .second, .val (.long q2), .second, .val (.int p3), .val (.int p4), .val (.int (3 : Int32)), .val (.ref b36), .unset, .unset, .unset] [(.int (3 : Int32))])) (fun _ kt => XS.iload X38.here hx rfl (hb hby at_29) rfl kt) ?_
    refine OFin.to (T38.setTop (mkF m 32 #[.val (.long q0), .second, .val (.long q1), .second, .val (.long q2), .second, .val (.int p3), .val (.int p4), .val (.int (3 : Int32)), .val (.ref b36), .unset, .unset, .unset] [(.int (2 : Int32)), (.int (3 : Int32))])) (fun _ kt => XS.iconst X38.here hx rfl (hb hby at_31) kt) ?_
    refine OFin.to (T38.setTop (mkF m 35 #[.val (.long q0), .second, .val (.long q1), .second, .val (.long q2), .second, .val (.int p3), .val (.int p4), .val (.int (3 : Int32)), .val (.ref b36), .unset, .unset, .unset] [])) (fun _ kt => XS.icmpNo X38.here hx rfl (hb hby at_32) rfl (XT.ii_lt_f (by decide)) kt) ?_
    refine OFin.to (T38.setTop (mkF m 37 #[.val (.long q0), .second, .val (.long q1), .second, .val (.long q2), .second, .val (.int p3), .val (.int p4), .val (.int (3 : Int32)), .val (.ref b36), .unset, .unset, .unset] [(.ref b36)])) (fun _ kt => XS.aload X38.here hx rfl (hb hby at_35) rfl rfl kt) ?_
    refine OFin.to (T38.setTop (mkF m 38 #[.val (.long q0), .second, .val (.long q1), .second, .val (.long q2), .second, .val (.int p3), .val (.int p4), .val (.int (3 : Int32)), .val (.ref b36), .unset, .unset, .unset] [(.int (1 : Int32)), (.ref b36)])) (fun _ kt => XS.iconst X38.here hx rfl (hb hby at_37) kt) ?_
    refine OFin.to (T38.setTop (mkF m 40 #[.val (.long q0), .second, .val (.long q1), .second, .val (.long q2), .second, .val (.int p3), .val (.int p4), .val (.int (3 : Int32)), .val (.ref b36), .unset, .unset, .unset] [(.int p3), (.int (1 : Int32)), (.ref b36)])) (fun _ kt => XS.iload X38.here hx rfl (hb hby at_38) rfl kt) ?_
    refine OFin.to (T38.setTop (mkF m 41 #[.val (.long q0), .second, .val (.long q1), .second, .val (.long q2), .second, .val (.int p3), .val (.int p4), .val (.int (3 : Int32)), .val (.ref b36), .unset, .unset, .unset] [(.int (4 : Int32)), (.int p3), (.int (1 : Int32)), (.ref b36)])) (fun _ kt => XS.iconst X38.here hx rfl (hb hby at_40) kt) ?_
    refine OFin.to (T38.setTop (mkF m 42 #[.val (.long q0), .second, .val (.long q1), .second, .val (.long q2), .second, .val (.int p3), .val (.int p4), .val (.int (3 : Int32)), .val (.ref b36), .unset, .unset, .unset] [(.int ((p3.toUInt32 >>> ((4 : Int32) &&& 31).toUInt32).toInt32)), (.int (1 : Int32)), (.ref b36)])) (fun _ kt => XS.iushr X38.here hx rfl (hb hby at_41) rfl kt) ?_
    refine OFin.to (T38.setTop (mkF m 43 #[.val (.long q0), .second, .val (.long q1), .second, .val (.long q2), .second, .val (.int p3), .val (.int p4), .val (.int (3 : Int32)), .val (.ref b36), .unset, .unset, .unset] [(.long q0), (.int ((p3.toUInt32 >>> ((4 : Int32) &&& 31).toUInt32).toInt32)), (.int (1 : Int32)), (.ref b36)])) (fun _ kt => XS.lloadN X38.here hx rfl (hb hby at_42) rfl kt) ?_
    refine OFin.to (T38.setTop (mkF m 44 #[.val (.long q0), .second, .val (.long q1), .second, .val (.long q2), .second, .val (.int p3), .val (.int p4), .val (.int (3 : Int32)), .val (.ref b36), .unset, .unset, .unset] [(.long q1), (.long q0), (.int ((p3.toUInt32 >>> ((4 : Int32) &&& 31).toUInt32).toInt32)), (.int (1 : Int32)), (.ref b36)])) (fun _ kt => XS.lloadN X38.here hx rfl (hb hby at_43) rfl kt) ?_
    refine OFin.to (T38.setTop (mkF m 46 #[.val (.long q0), .second, .val (.long q1), .second, .val (.long q2), .second, .val (.int p3), .val (.int p4), .val (.int (3 : Int32)), .val (.ref b36), .unset, .unset, .unset] [(.long q2), (.long q1), (.long q0), (.int ((p3.toUInt32 >>> ((4 : Int32) &&& 31).toUInt32).toInt32)), (.int (1 : Int32)), (.ref b36)])) (fun _ kt => XS.lload X38.here hx rfl (hb hby at_44) rfl kt) ?_
    obtain ⟨v39, T39, L39, hQ39, X39, st39⟩ := own_callS X38 hx hZ hown (hw _ (List.mem_of_getElem? (i := 1) rfl)) (hw _ (List.mem_of_getElem? (i := 2) rfl)) (hw _ (List.mem_of_getElem? (i := 3) rfl)) (hw _ (List.mem_of_getElem? (i := 4) rfl)) (by decide) e38 (rm1 l Z a0 hw [] ((p3.toUInt32 >>> ((4 : Int32) &&& 31).toUInt32).toInt32) q0 q1 q2 h38) 2 (by decide) (by decide) (by decide) (by decide) (g := (mkF m 46 #[.val (.long q0), .second, .val (.long q1), .second, .val (.long q2), .second, .val (.int p3), .val (.int p4), .val (.int (3 : Int32)), .val (.ref b36), .unset, .unset, .unset] [(.long q2), (.long q1), (.long q0), (.int ((p3.toUInt32 >>> ((4 : Int32) &&& 31).toUInt32).toInt32)), (.int (1 : Int32)), (.ref b36)])) rfl (by rw [hml]; rfl) (rest := [(.int (1 : Int32)), (.ref b36)]) (lenOf pd_1 rfl) rfl (by show 2 * 0 + _ ≤ _; exact Nat.le_of_eq rfl) (hb hby at_46)
    obtain ⟨rfl, e39, rfl⟩ := hQ39
    rw [List.append_nil] at X39
    refine OFin.to (T39.setTop (mkF m 49 #[.val (.long q0), .second, .val (.long q1), .second, .val (.long q2), .second, .val (.int p3), .val (.int p4), .val (.int (3 : Int32)), .val (.ref b36), .unset, .unset, .unset] [(.long (f1_0 ((p3.toUInt32 >>> ((4 : Int32) &&& 31).toUInt32).toInt32) q0 q1 q2)), (.int (1 : Int32)), (.ref b36)])) st39 ?_
    obtain ⟨T40, h40, X40, e40, W40, V40, st40⟩ := own_stJ X39 hx hZ e39 V_b36_38 1 (by decide) rfl (Nat.le_of_ble_eq_true rfl) (g := (mkF m 49 #[.val (.long q0), .second, .val (.long q1), .second, .val (.long q2), .second, .val (.int p3), .val (.int p4), .val (.int (3 : Int32)), .val (.ref b36), .unset, .unset, .unset] [(.long (f1_0 ((p3.toUInt32 >>> ((4 : Int32) &&& 31).toUInt32).toInt32) q0 q1 q2)), (.int (1 : Int32)), (.ref b36)])) rfl rfl (hb hby at_49)
    have Z40 := Nat.le_trans Z38 (Keep.of_wr W40).1
    have V_b36_40 : OArr Z h40 b36 .long [(.long (f1_0 ((p3.toUInt32 >>> ((2 : Int32) &&& 31).toUInt32).toInt32) q0 q1 q2)), (.long (f1_0 ((p3.toUInt32 >>> ((4 : Int32) &&& 31).toUInt32).toInt32) q0 q1 q2)), (.long (0 : Int64))] := V40
    have N40 := Fr.snoc X40 N38 g_b36
    refine OFin.to (T40.setTop (mkF m 50 #[.val (.long q0), .second, .val (.long q1), .second, .val (.long q2), .second, .val (.int p3), .val (.int p4), .val (.int (3 : Int32)), .val (.ref b36), .unset, .unset, .unset] [])) st40 ?_
    refine OFin.to (T40.setTop (mkF m 52 #[.val (.long q0), .second, .val (.long q1), .second, .val (.long q2), .second, .val (.int p3), .val (.int p4), .val (.int (3 : Int32)), .val (.ref b36), .unset, .unset, .unset] [(.int (3 : Int32))])) (fun _ kt => XS.iload X40.here hx rfl (hb hby at_50) rfl kt) ?_
    refine OFin.to (T40.setTop (mkF m 53 #[.val (.long q0), .second, .val (.long q1), .second, .val (.long q2), .second, .val (.int p3), .val (.int p4), .val (.int (3 : Int32)), .val (.ref b36), .unset, .unset, .unset] [(.int (3 : Int32)), (.int (3 : Int32))])) (fun _ kt => XS.iconst X40.here hx rfl (hb hby at_52) kt) ?_
    refine OFin.to (T40.setTop (mkF m 56 #[.val (.long q0), .second, .val (.long q1), .second, .val (.long q2), .second, .val (.int p3), .val (.int p4), .val (.int (3 : Int32)), .val (.ref b36), .unset, .unset, .unset] [])) (fun _ kt => XS.icmpNo X40.here hx rfl (hb hby at_53) rfl (XT.ii_lt_f (by decide)) kt) ?_
    refine OFin.to (T40.setTop (mkF m 58 #[.val (.long q0), .second, .val (.long q1), .second, .val (.long q2), .second, .val (.int p3), .val (.int p4), .val (.int (3 : Int32)), .val (.ref b36), .unset, .unset, .unset] [(.ref b36)])) (fun _ kt => XS.aload X40.here hx rfl (hb hby at_56) rfl rfl kt) ?_
    refine OFin.to (T40.setTop (mkF m 59 #[.val (.long q0), .second, .val (.long q1), .second, .val (.long q2), .second, .val (.int p3), .val (.int p4), .val (.int (3 : Int32)), .val (.ref b36), .unset, .unset, .unset] [(.int (2 : Int32)), (.ref b36)])) (fun _ kt => XS.iconst X40.here hx rfl (hb hby at_58) kt) ?_
    refine OFin.to (T40.setTop (mkF m 61 #[.val (.long q0), .second, .val (.long q1), .second, .val (.long q2), .second, .val (.int p3), .val (.int p4), .val (.int (3 : Int32)), .val (.ref b36), .unset, .unset, .unset] [(.int p3), (.int (2 : Int32)), (.ref b36)])) (fun _ kt => XS.iload X40.here hx rfl (hb hby at_59) rfl kt) ?_
    refine OFin.to (T40.setTop (mkF m 63 #[.val (.long q0), .second, .val (.long q1), .second, .val (.long q2), .second, .val (.int p3), .val (.int p4), .val (.int (3 : Int32)), .val (.ref b36), .unset, .unset, .unset] [(.int (6 : Int32)), (.int p3), (.int (2 : Int32)), (.ref b36)])) (fun _ kt => XS.bipush X40.here hx rfl (hb hby at_61) kt) ?_
    refine OFin.to (T40.setTop (mkF m 64 #[.val (.long q0), .second, .val (.long q1), .second, .val (.long q2), .second, .val (.int p3), .val (.int p4), .val (.int (3 : Int32)), .val (.ref b36), .unset, .unset, .unset] [(.int ((p3.toUInt32 >>> ((6 : Int32) &&& 31).toUInt32).toInt32)), (.int (2 : Int32)), (.ref b36)])) (fun _ kt => XS.iushr X40.here hx rfl (hb hby at_63) rfl kt) ?_
    refine OFin.to (T40.setTop (mkF m 65 #[.val (.long q0), .second, .val (.long q1), .second, .val (.long q2), .second, .val (.int p3), .val (.int p4), .val (.int (3 : Int32)), .val (.ref b36), .unset, .unset, .unset] [(.long q0), (.int ((p3.toUInt32 >>> ((6 : Int32) &&& 31).toUInt32).toInt32)), (.int (2 : Int32)), (.ref b36)])) (fun _ kt => XS.lloadN X40.here hx rfl (hb hby at_64) rfl kt) ?_
    refine OFin.to (T40.setTop (mkF m 66 #[.val (.long q0), .second, .val (.long q1), .second, .val (.long q2), .second, .val (.int p3), .val (.int p4), .val (.int (3 : Int32)), .val (.ref b36), .unset, .unset, .unset] [(.long q1), (.long q0), (.int ((p3.toUInt32 >>> ((6 : Int32) &&& 31).toUInt32).toInt32)), (.int (2 : Int32)), (.ref b36)])) (fun _ kt => XS.lloadN X40.here hx rfl (hb hby at_65) rfl kt) ?_
    refine OFin.to (T40.setTop (mkF m 68 #[.val (.long q0), .second, .val (.long q1), .second, .val (.long q2), .second, .val (.int p3), .val (.int p4), .val (.int (3 : Int32)), .val (.ref b36), .unset, .unset, .unset] [(.long q2), (.long q1), (.long q0), (.int ((p3.toUInt32 >>> ((6 : Int32) &&& 31).toUInt32).toInt32)), (.int (2 : Int32)), (.ref b36)])) (fun _ kt => XS.lload X40.here hx rfl (hb hby at_66) rfl kt) ?_
    obtain ⟨v41, T41, L41, hQ41, X41, st41⟩ := own_callS X40 hx hZ hown (hw _ (List.mem_of_getElem? (i := 1) rfl)) (hw _ (List.mem_of_getElem? (i := 2) rfl)) (hw _ (List.mem_of_getElem? (i := 3) rfl)) (hw _ (List.mem_of_getElem? (i := 4) rfl)) (by decide) e40 (rm1 l Z a0 hw [] ((p3.toUInt32 >>> ((6 : Int32) &&& 31).toUInt32).toInt32) q0 q1 q2 h40) 2 (by decide) (by decide) (by decide) (by decide) (g := (mkF m 68 #[.val (.long q0), .second, .val (.long q1), .second, .val (.long q2), .second, .val (.int p3), .val (.int p4), .val (.int (3 : Int32)), .val (.ref b36), .unset, .unset, .unset] [(.long q2), (.long q1), (.long q0), (.int ((p3.toUInt32 >>> ((6 : Int32) &&& 31).toUInt32).toInt32)), (.int (2 : Int32)), (.ref b36)])) rfl (by rw [hml]; rfl) (rest := [(.int (2 : Int32)), (.ref b36)]) (lenOf pd_1 rfl) rfl (by show 2 * 0 + _ ≤ _; exact Nat.le_of_eq rfl) (hb hby at_68)
    obtain ⟨rfl, e41, rfl⟩ := hQ41
    rw [List.append_nil] at X41
    refine OFin.to (T41.setTop (mkF m 71 #[.val (.long q0), .second, .val (.long q1), .second, .val (.long q2), .second, .val (.int p3), .val (.int p4), .val (.int (3 : Int32)), .val (.ref b36), .unset, .unset, .unset] [(.long (f1_0 ((p3.toUInt32 >>> ((6 : Int32) &&& 31).toUInt32).toInt32) q0 q1 q2)), (.int (2 : Int32)), (.ref b36)])) st41 ?_
    obtain ⟨T42, h42, X42, e42, W42, V42, st42⟩ := own_stJ X41 hx hZ e41 V_b36_40 2 (by decide) rfl (Nat.le_of_ble_eq_true rfl) (g := (mkF m 71 #[.val (.long q0), .second, .val (.long q1), .second, .val (.long q2), .second, .val (.int p3), .val (.int p4), .val (.int (3 : Int32)), .val (.ref b36), .unset, .unset, .unset] [(.long (f1_0 ((p3.toUInt32 >>> ((6 : Int32) &&& 31).toUInt32).toInt32) q0 q1 q2)), (.int (2 : Int32)), (.ref b36)])) rfl rfl (hb hby at_71)
    have Z42 := Nat.le_trans Z40 (Keep.of_wr W42).1
    have V_b36_42 : OArr Z h42 b36 .long [(.long (f1_0 ((p3.toUInt32 >>> ((2 : Int32) &&& 31).toUInt32).toInt32) q0 q1 q2)), (.long (f1_0 ((p3.toUInt32 >>> ((4 : Int32) &&& 31).toUInt32).toInt32) q0 q1 q2)), (.long (f1_0 ((p3.toUInt32 >>> ((6 : Int32) &&& 31).toUInt32).toInt32) q0 q1 q2))] := V42
    have N42 := Fr.snoc X42 N40 g_b36
    refine OFin.to (T42.setTop (mkF m 72 #[.val (.long q0), .second, .val (.long q1), .second, .val (.long q2), .second, .val (.int p3), .val (.int p4), .val (.int (3 : Int32)), .val (.ref b36), .unset, .unset, .unset] [])) st42 ?_
    refine OFin.to (T42.setTop (mkF m 74 #[.val (.long q0), .second, .val (.long q1), .second, .val (.long q2), .second, .val (.int p3), .val (.int p4), .val (.int (3 : Int32)), .val (.ref b36), .unset, .unset, .unset] [(.int (3 : Int32))])) (fun _ kt => XS.iload X42.here hx rfl (hb hby at_72) rfl kt) ?_
    refine OFin.to (T42.setTop (mkF m 75 #[.val (.long q0), .second, .val (.long q1), .second, .val (.long q2), .second, .val (.int p3), .val (.int p4), .val (.int (3 : Int32)), .val (.ref b36), .unset, .unset, .unset] [(.int (4 : Int32)), (.int (3 : Int32))])) (fun _ kt => XS.iconst X42.here hx rfl (hb hby at_74) kt) ?_
    refine OFin.to (T42.setTop (mkF m 94 #[.val (.long q0), .second, .val (.long q1), .second, .val (.long q2), .second, .val (.int p3), .val (.int p4), .val (.int (3 : Int32)), .val (.ref b36), .unset, .unset, .unset] [])) (fun _ kt => XS.icmpYes X42.here hx rfl (pc0 := 75) (pc' := 94) rfl (hb hby at_75) rfl (XT.ii_lt_t (by decide)) (by decide) (by decide) kt) ?_
    exact J94 T42 h42 _ b36 3 (own_t6 (f1_0 ((p3.toUInt32 >>> ((2 : Int32) &&& 31).toUInt32).toInt32) q0 q1 q2) (f1_0 ((p3.toUInt32 >>> ((4 : Int32) &&& 31).toUInt32).toInt32) q0 q1 q2) (f1_0 ((p3.toUInt32 >>> ((6 : Int32) &&& 31).toUInt32).toInt32) q0 q1 q2) 0 0 0) (by decide) (by decide) X42 e42 V_b36_42 N42 Z42 g_b36
  · have N0 := Fr.nil h0.size
    refine OFin.to (s₁.setTop (mkF m 2 #[.val (.long q0), .second, .val (.long q1), .second, .val (.long q2), .second, .val (.int p3), .val (.int p4), .unset, .unset, .unset, .unset, .unset] [(.int p3)])) (fun _ kt => XS.iload X0.here hx rfl (hb hby at_0) rfl kt) ?_
    refine OFin.to (s₁.setTop (mkF m 3 #[.val (.long q0), .second, .val (.long q1), .second, .val (.long q2), .second, .val (.int p3), .val (.int p4), .unset, .unset, .unset, .unset, .unset] [(.int (3 : Int32)), (.int p3)])) (fun _ kt => XS.iconst X0.here hx rfl (hb hby at_2) kt) ?_
    refine OFin.to (s₁.setTop (mkF m 4 #[.val (.long q0), .second, .val (.long q1), .second, .val (.long q2), .second, .val (.int p3), .val (.int p4), .unset, .unset, .unset, .unset, .unset] [(.int (p3 &&& (3 : Int32)))])) (fun _ kt => XS.iand X0.here hx rfl (hb hby at_3) rfl kt) ?_
    refine OFin.to (s₁.setTop (mkF m 5 #[.val (.long q0), .second, .val (.long q1), .second, .val (.long q2), .second, .val (.int p3), .val (.int p4), .unset, .unset, .unset, .unset, .unset] [(.int (1 : Int32)), (.int (p3 &&& (3 : Int32)))])) (fun _ kt => XS.iconst X0.here hx rfl (hb hby at_4) kt) ?_
    refine OFin.to (s₁.setTop (mkF m 6 #[.val (.long q0), .second, .val (.long q1), .second, .val (.long q2), .second, .val (.int p3), .val (.int p4), .unset, .unset, .unset, .unset, .unset] [(.int ((p3 &&& (3 : Int32)) + (1 : Int32)))])) (fun _ kt => XS.iadd X0.here hx rfl (hb hby at_5) rfl kt) ?_
    rw [show (p3 &&& (3 : Int32)) + (1 : Int32) = (4 : Int32) from by rw [hn]; decide]
    refine OFin.to (s₁.setTop (mkF m 8 #[.val (.long q0), .second, .val (.long q1), .second, .val (.long q2), .second, .val (.int p3), .val (.int p4), .val (.int (4 : Int32)), .unset, .unset, .unset, .unset] [])) (fun _ kt => XS.istore X0.here hx rfl (hb hby at_6) rfl (l' := #[.val (.long q0), .second, .val (.long q1), .second, .val (.long q2), .second, .val (.int p3), .val (.int p4), .val (.int (4 : Int32)), .unset, .unset, .unset, .unset]) rfl kt) ?_
    refine OFin.to (s₁.setTop (mkF m 10 #[.val (.long q0), .second, .val (.long q1), .second, .val (.long q2), .second, .val (.int p3), .val (.int p4), .val (.int (4 : Int32)), .unset, .unset, .unset, .unset] [(.int (4 : Int32))])) (fun _ kt => XS.iload X0.here hx rfl (hb hby at_8) rfl kt) ?_
    obtain ⟨T43, h43, X43, e43, E43, V43, st43⟩ := own_newP X0 hx hZ (hw _ (List.mem_of_getElem? (i := 0) rfl)) e0 (g := (mkF m 10 #[.val (.long q0), .second, .val (.long q1), .second, .val (.long q2), .second, .val (.int p3), .val (.int p4), .val (.int (4 : Int32)), .unset, .unset, .unset, .unset] [(.int (4 : Int32))])) rfl (hb hby at_10) rfl (by decide) 4 rfl (cap := 4) (by decide) (by decide) (by decide) (by decide)
    obtain ⟨b43, g43⟩ : ∃ z, z = h0.size := ⟨_, rfl⟩
    rw [← g43] at V43 st43
    have g_b43 : h0.size ≤ b43 := by rw [g43]; exact Nat.le_refl _
    have Z43 := E43.1
    have V_b43 : OArr Z h43 b43 .long [(.long (0 : Int64)), (.long (0 : Int64)), (.long (0 : Int64)), (.long (0 : Int64))] := V43
    refine OFin.to (T43.setTop (mkF m 12 #[.val (.long q0), .second, .val (.long q1), .second, .val (.long q2), .second, .val (.int p3), .val (.int p4), .val (.int (4 : Int32)), .unset, .unset, .unset, .unset] [(.ref b43)])) st43 ?_
    refine OFin.to (T43.setTop (mkF m 14 #[.val (.long q0), .second, .val (.long q1), .second, .val (.long q2), .second, .val (.int p3), .val (.int p4), .val (.int (4 : Int32)), .val (.ref b43), .unset, .unset, .unset] [])) (fun _ kt => XS.astore X43.here hx rfl (hb hby at_12) rfl rfl (l' := #[.val (.long q0), .second, .val (.long q1), .second, .val (.long q2), .second, .val (.int p3), .val (.int p4), .val (.int (4 : Int32)), .val (.ref b43), .unset, .unset, .unset]) rfl kt) ?_
    refine OFin.to (T43.setTop (mkF m 16 #[.val (.long q0), .second, .val (.long q1), .second, .val (.long q2), .second, .val (.int p3), .val (.int p4), .val (.int (4 : Int32)), .val (.ref b43), .unset, .unset, .unset] [(.ref b43)])) (fun _ kt => XS.aload X43.here hx rfl (hb hby at_14) rfl rfl kt) ?_
    refine OFin.to (T43.setTop (mkF m 17 #[.val (.long q0), .second, .val (.long q1), .second, .val (.long q2), .second, .val (.int p3), .val (.int p4), .val (.int (4 : Int32)), .val (.ref b43), .unset, .unset, .unset] [(.int (0 : Int32)), (.ref b43)])) (fun _ kt => XS.iconst X43.here hx rfl (hb hby at_16) kt) ?_
    refine OFin.to (T43.setTop (mkF m 19 #[.val (.long q0), .second, .val (.long q1), .second, .val (.long q2), .second, .val (.int p3), .val (.int p4), .val (.int (4 : Int32)), .val (.ref b43), .unset, .unset, .unset] [(.int p3), (.int (0 : Int32)), (.ref b43)])) (fun _ kt => XS.iload X43.here hx rfl (hb hby at_17) rfl kt) ?_
    refine OFin.to (T43.setTop (mkF m 20 #[.val (.long q0), .second, .val (.long q1), .second, .val (.long q2), .second, .val (.int p3), .val (.int p4), .val (.int (4 : Int32)), .val (.ref b43), .unset, .unset, .unset] [(.int (2 : Int32)), (.int p3), (.int (0 : Int32)), (.ref b43)])) (fun _ kt => XS.iconst X43.here hx rfl (hb hby at_19) kt) ?_
    refine OFin.to (T43.setTop (mkF m 21 #[.val (.long q0), .second, .val (.long q1), .second, .val (.long q2), .second, .val (.int p3), .val (.int p4), .val (.int (4 : Int32)), .val (.ref b43), .unset, .unset, .unset] [(.int ((p3.toUInt32 >>> ((2 : Int32) &&& 31).toUInt32).toInt32)), (.int (0 : Int32)), (.ref b43)])) (fun _ kt => XS.iushr X43.here hx rfl (hb hby at_20) rfl kt) ?_
    refine OFin.to (T43.setTop (mkF m 22 #[.val (.long q0), .second, .val (.long q1), .second, .val (.long q2), .second, .val (.int p3), .val (.int p4), .val (.int (4 : Int32)), .val (.ref b43), .unset, .unset, .unset] [(.long q0), (.int ((p3.toUInt32 >>> ((2 : Int32) &&& 31).toUInt32).toInt32)), (.int (0 : Int32)), (.ref b43)])) (fun _ kt => XS.lloadN X43.here hx rfl (hb hby at_21) rfl kt) ?_
    refine OFin.to (T43.setTop (mkF m 23 #[.val (.long q0), .second, .val (.long q1), .second, .val (.long q2), .second, .val (.int p3), .val (.int p4), .val (.int (4 : Int32)), .val (.ref b43), .unset, .unset, .unset] [(.long q1), (.long q0), (.int ((p3.toUInt32 >>> ((2 : Int32) &&& 31).toUInt32).toInt32)), (.int (0 : Int32)), (.ref b43)])) (fun _ kt => XS.lloadN X43.here hx rfl (hb hby at_22) rfl kt) ?_
    refine OFin.to (T43.setTop (mkF m 25 #[.val (.long q0), .second, .val (.long q1), .second, .val (.long q2), .second, .val (.int p3), .val (.int p4), .val (.int (4 : Int32)), .val (.ref b43), .unset, .unset, .unset] [(.long q2), (.long q1), (.long q0), (.int ((p3.toUInt32 >>> ((2 : Int32) &&& 31).toUInt32).toInt32)), (.int (0 : Int32)), (.ref b43)])) (fun _ kt => XS.lload X43.here hx rfl (hb hby at_23) rfl kt) ?_
    obtain ⟨v44, T44, L44, hQ44, X44, st44⟩ := own_callS X43 hx hZ hown (hw _ (List.mem_of_getElem? (i := 1) rfl)) (hw _ (List.mem_of_getElem? (i := 2) rfl)) (hw _ (List.mem_of_getElem? (i := 3) rfl)) (hw _ (List.mem_of_getElem? (i := 4) rfl)) (by decide) e43 (rm1 l Z a0 hw [] ((p3.toUInt32 >>> ((2 : Int32) &&& 31).toUInt32).toInt32) q0 q1 q2 h43) 2 (by decide) (by decide) (by decide) (by decide) (g := (mkF m 25 #[.val (.long q0), .second, .val (.long q1), .second, .val (.long q2), .second, .val (.int p3), .val (.int p4), .val (.int (4 : Int32)), .val (.ref b43), .unset, .unset, .unset] [(.long q2), (.long q1), (.long q0), (.int ((p3.toUInt32 >>> ((2 : Int32) &&& 31).toUInt32).toInt32)), (.int (0 : Int32)), (.ref b43)])) rfl (by rw [hml]; rfl) (rest := [(.int (0 : Int32)), (.ref b43)]) (lenOf pd_1 rfl) rfl (by show 2 * 0 + _ ≤ _; exact Nat.le_of_eq rfl) (hb hby at_25)
    obtain ⟨rfl, e44, rfl⟩ := hQ44
    rw [List.append_nil] at X44
    refine OFin.to (T44.setTop (mkF m 28 #[.val (.long q0), .second, .val (.long q1), .second, .val (.long q2), .second, .val (.int p3), .val (.int p4), .val (.int (4 : Int32)), .val (.ref b43), .unset, .unset, .unset] [(.long (f1_0 ((p3.toUInt32 >>> ((2 : Int32) &&& 31).toUInt32).toInt32) q0 q1 q2)), (.int (0 : Int32)), (.ref b43)])) st44 ?_
    obtain ⟨T45, h45, X45, e45, W45, V45, st45⟩ := own_stJ X44 hx hZ e44 V_b43 0 (by decide) rfl (Nat.le_of_ble_eq_true rfl) (g := (mkF m 28 #[.val (.long q0), .second, .val (.long q1), .second, .val (.long q2), .second, .val (.int p3), .val (.int p4), .val (.int (4 : Int32)), .val (.ref b43), .unset, .unset, .unset] [(.long (f1_0 ((p3.toUInt32 >>> ((2 : Int32) &&& 31).toUInt32).toInt32) q0 q1 q2)), (.int (0 : Int32)), (.ref b43)])) rfl rfl (hb hby at_28)
    have Z45 := Nat.le_trans Z43 (Keep.of_wr W45).1
    have V_b43_45 : OArr Z h45 b43 .long [(.long (f1_0 ((p3.toUInt32 >>> ((2 : Int32) &&& 31).toUInt32).toInt32) q0 q1 q2)), (.long (0 : Int64)), (.long (0 : Int64)), (.long (0 : Int64))] := V45
    have N45 := Fr.snoc X45 N0 g_b43
    refine OFin.to (T45.setTop (mkF m 29 #[.val (.long q0), .second, .val (.long q1), .second, .val (.long q2), .second, .val (.int p3), .val (.int p4), .val (.int (4 : Int32)), .val (.ref b43), .unset, .unset, .unset] [])) st45 ?_
    refine OFin.to (T45.setTop (mkF m 31 #[.val (.long q0), .second, .val (.long q1), .second, .val (.long q2), .second, .val (.int p3), .val (.int p4), .val (.int (4 : Int32)), .val (.ref b43), .unset, .unset, .unset] [(.int (4 : Int32))])) (fun _ kt => XS.iload X45.here hx rfl (hb hby at_29) rfl kt) ?_
    refine OFin.to (T45.setTop (mkF m 32 #[.val (.long q0), .second, .val (.long q1), .second, .val (.long q2), .second, .val (.int p3), .val (.int p4), .val (.int (4 : Int32)), .val (.ref b43), .unset, .unset, .unset] [(.int (2 : Int32)), (.int (4 : Int32))])) (fun _ kt => XS.iconst X45.here hx rfl (hb hby at_31) kt) ?_
    refine OFin.to (T45.setTop (mkF m 35 #[.val (.long q0), .second, .val (.long q1), .second, .val (.long q2), .second, .val (.int p3), .val (.int p4), .val (.int (4 : Int32)), .val (.ref b43), .unset, .unset, .unset] [])) (fun _ kt => XS.icmpNo X45.here hx rfl (hb hby at_32) rfl (XT.ii_lt_f (by decide)) kt) ?_
    refine OFin.to (T45.setTop (mkF m 37 #[.val (.long q0), .second, .val (.long q1), .second, .val (.long q2), .second, .val (.int p3), .val (.int p4), .val (.int (4 : Int32)), .val (.ref b43), .unset, .unset, .unset] [(.ref b43)])) (fun _ kt => XS.aload X45.here hx rfl (hb hby at_35) rfl rfl kt) ?_
    refine OFin.to (T45.setTop (mkF m 38 #[.val (.long q0), .second, .val (.long q1), .second, .val (.long q2), .second, .val (.int p3), .val (.int p4), .val (.int (4 : Int32)), .val (.ref b43), .unset, .unset, .unset] [(.int (1 : Int32)), (.ref b43)])) (fun _ kt => XS.iconst X45.here hx rfl (hb hby at_37) kt) ?_
    refine OFin.to (T45.setTop (mkF m 40 #[.val (.long q0), .second, .val (.long q1), .second, .val (.long q2), .second, .val (.int p3), .val (.int p4), .val (.int (4 : Int32)), .val (.ref b43), .unset, .unset, .unset] [(.int p3), (.int (1 : Int32)), (.ref b43)])) (fun _ kt => XS.iload X45.here hx rfl (hb hby at_38) rfl kt) ?_
    refine OFin.to (T45.setTop (mkF m 41 #[.val (.long q0), .second, .val (.long q1), .second, .val (.long q2), .second, .val (.int p3), .val (.int p4), .val (.int (4 : Int32)), .val (.ref b43), .unset, .unset, .unset] [(.int (4 : Int32)), (.int p3), (.int (1 : Int32)), (.ref b43)])) (fun _ kt => XS.iconst X45.here hx rfl (hb hby at_40) kt) ?_
    refine OFin.to (T45.setTop (mkF m 42 #[.val (.long q0), .second, .val (.long q1), .second, .val (.long q2), .second, .val (.int p3), .val (.int p4), .val (.int (4 : Int32)), .val (.ref b43), .unset, .unset, .unset] [(.int ((p3.toUInt32 >>> ((4 : Int32) &&& 31).toUInt32).toInt32)), (.int (1 : Int32)), (.ref b43)])) (fun _ kt => XS.iushr X45.here hx rfl (hb hby at_41) rfl kt) ?_
    refine OFin.to (T45.setTop (mkF m 43 #[.val (.long q0), .second, .val (.long q1), .second, .val (.long q2), .second, .val (.int p3), .val (.int p4), .val (.int (4 : Int32)), .val (.ref b43), .unset, .unset, .unset] [(.long q0), (.int ((p3.toUInt32 >>> ((4 : Int32) &&& 31).toUInt32).toInt32)), (.int (1 : Int32)), (.ref b43)])) (fun _ kt => XS.lloadN X45.here hx rfl (hb hby at_42) rfl kt) ?_
    refine OFin.to (T45.setTop (mkF m 44 #[.val (.long q0), .second, .val (.long q1), .second, .val (.long q2), .second, .val (.int p3), .val (.int p4), .val (.int (4 : Int32)), .val (.ref b43), .unset, .unset, .unset] [(.long q1), (.long q0), (.int ((p3.toUInt32 >>> ((4 : Int32) &&& 31).toUInt32).toInt32)), (.int (1 : Int32)), (.ref b43)])) (fun _ kt => XS.lloadN X45.here hx rfl (hb hby at_43) rfl kt) ?_
    refine OFin.to (T45.setTop (mkF m 46 #[.val (.long q0), .second, .val (.long q1), .second, .val (.long q2), .second, .val (.int p3), .val (.int p4), .val (.int (4 : Int32)), .val (.ref b43), .unset, .unset, .unset] [(.long q2), (.long q1), (.long q0), (.int ((p3.toUInt32 >>> ((4 : Int32) &&& 31).toUInt32).toInt32)), (.int (1 : Int32)), (.ref b43)])) (fun _ kt => XS.lload X45.here hx rfl (hb hby at_44) rfl kt) ?_
    obtain ⟨v46, T46, L46, hQ46, X46, st46⟩ := own_callS X45 hx hZ hown (hw _ (List.mem_of_getElem? (i := 1) rfl)) (hw _ (List.mem_of_getElem? (i := 2) rfl)) (hw _ (List.mem_of_getElem? (i := 3) rfl)) (hw _ (List.mem_of_getElem? (i := 4) rfl)) (by decide) e45 (rm1 l Z a0 hw [] ((p3.toUInt32 >>> ((4 : Int32) &&& 31).toUInt32).toInt32) q0 q1 q2 h45) 2 (by decide) (by decide) (by decide) (by decide) (g := (mkF m 46 #[.val (.long q0), .second, .val (.long q1), .second, .val (.long q2), .second, .val (.int p3), .val (.int p4), .val (.int (4 : Int32)), .val (.ref b43), .unset, .unset, .unset] [(.long q2), (.long q1), (.long q0), (.int ((p3.toUInt32 >>> ((4 : Int32) &&& 31).toUInt32).toInt32)), (.int (1 : Int32)), (.ref b43)])) rfl (by rw [hml]; rfl) (rest := [(.int (1 : Int32)), (.ref b43)]) (lenOf pd_1 rfl) rfl (by show 2 * 0 + _ ≤ _; exact Nat.le_of_eq rfl) (hb hby at_46)
    obtain ⟨rfl, e46, rfl⟩ := hQ46
    rw [List.append_nil] at X46
    refine OFin.to (T46.setTop (mkF m 49 #[.val (.long q0), .second, .val (.long q1), .second, .val (.long q2), .second, .val (.int p3), .val (.int p4), .val (.int (4 : Int32)), .val (.ref b43), .unset, .unset, .unset] [(.long (f1_0 ((p3.toUInt32 >>> ((4 : Int32) &&& 31).toUInt32).toInt32) q0 q1 q2)), (.int (1 : Int32)), (.ref b43)])) st46 ?_
    obtain ⟨T47, h47, X47, e47, W47, V47, st47⟩ := own_stJ X46 hx hZ e46 V_b43_45 1 (by decide) rfl (Nat.le_of_ble_eq_true rfl) (g := (mkF m 49 #[.val (.long q0), .second, .val (.long q1), .second, .val (.long q2), .second, .val (.int p3), .val (.int p4), .val (.int (4 : Int32)), .val (.ref b43), .unset, .unset, .unset] [(.long (f1_0 ((p3.toUInt32 >>> ((4 : Int32) &&& 31).toUInt32).toInt32) q0 q1 q2)), (.int (1 : Int32)), (.ref b43)])) rfl rfl (hb hby at_49)
    have Z47 := Nat.le_trans Z45 (Keep.of_wr W47).1
    have V_b43_47 : OArr Z h47 b43 .long [(.long (f1_0 ((p3.toUInt32 >>> ((2 : Int32) &&& 31).toUInt32).toInt32) q0 q1 q2)), (.long (f1_0 ((p3.toUInt32 >>> ((4 : Int32) &&& 31).toUInt32).toInt32) q0 q1 q2)), (.long (0 : Int64)), (.long (0 : Int64))] := V47
    have N47 := Fr.snoc X47 N45 g_b43
    refine OFin.to (T47.setTop (mkF m 50 #[.val (.long q0), .second, .val (.long q1), .second, .val (.long q2), .second, .val (.int p3), .val (.int p4), .val (.int (4 : Int32)), .val (.ref b43), .unset, .unset, .unset] [])) st47 ?_
    refine OFin.to (T47.setTop (mkF m 52 #[.val (.long q0), .second, .val (.long q1), .second, .val (.long q2), .second, .val (.int p3), .val (.int p4), .val (.int (4 : Int32)), .val (.ref b43), .unset, .unset, .unset] [(.int (4 : Int32))])) (fun _ kt => XS.iload X47.here hx rfl (hb hby at_50) rfl kt) ?_
    refine OFin.to (T47.setTop (mkF m 53 #[.val (.long q0), .second, .val (.long q1), .second, .val (.long q2), .second, .val (.int p3), .val (.int p4), .val (.int (4 : Int32)), .val (.ref b43), .unset, .unset, .unset] [(.int (3 : Int32)), (.int (4 : Int32))])) (fun _ kt => XS.iconst X47.here hx rfl (hb hby at_52) kt) ?_
    refine OFin.to (T47.setTop (mkF m 56 #[.val (.long q0), .second, .val (.long q1), .second, .val (.long q2), .second, .val (.int p3), .val (.int p4), .val (.int (4 : Int32)), .val (.ref b43), .unset, .unset, .unset] [])) (fun _ kt => XS.icmpNo X47.here hx rfl (hb hby at_53) rfl (XT.ii_lt_f (by decide)) kt) ?_
    refine OFin.to (T47.setTop (mkF m 58 #[.val (.long q0), .second, .val (.long q1), .second, .val (.long q2), .second, .val (.int p3), .val (.int p4), .val (.int (4 : Int32)), .val (.ref b43), .unset, .unset, .unset] [(.ref b43)])) (fun _ kt => XS.aload X47.here hx rfl (hb hby at_56) rfl rfl kt) ?_
    refine OFin.to (T47.setTop (mkF m 59 #[.val (.long q0), .second, .val (.long q1), .second, .val (.long q2), .second, .val (.int p3), .val (.int p4), .val (.int (4 : Int32)), .val (.ref b43), .unset, .unset, .unset] [(.int (2 : Int32)), (.ref b43)])) (fun _ kt => XS.iconst X47.here hx rfl (hb hby at_58) kt) ?_
    refine OFin.to (T47.setTop (mkF m 61 #[.val (.long q0), .second, .val (.long q1), .second, .val (.long q2), .second, .val (.int p3), .val (.int p4), .val (.int (4 : Int32)), .val (.ref b43), .unset, .unset, .unset] [(.int p3), (.int (2 : Int32)), (.ref b43)])) (fun _ kt => XS.iload X47.here hx rfl (hb hby at_59) rfl kt) ?_
    refine OFin.to (T47.setTop (mkF m 63 #[.val (.long q0), .second, .val (.long q1), .second, .val (.long q2), .second, .val (.int p3), .val (.int p4), .val (.int (4 : Int32)), .val (.ref b43), .unset, .unset, .unset] [(.int (6 : Int32)), (.int p3), (.int (2 : Int32)), (.ref b43)])) (fun _ kt => XS.bipush X47.here hx rfl (hb hby at_61) kt) ?_
    refine OFin.to (T47.setTop (mkF m 64 #[.val (.long q0), .second, .val (.long q1), .second, .val (.long q2), .second, .val (.int p3), .val (.int p4), .val (.int (4 : Int32)), .val (.ref b43), .unset, .unset, .unset] [(.int ((p3.toUInt32 >>> ((6 : Int32) &&& 31).toUInt32).toInt32)), (.int (2 : Int32)), (.ref b43)])) (fun _ kt => XS.iushr X47.here hx rfl (hb hby at_63) rfl kt) ?_
    refine OFin.to (T47.setTop (mkF m 65 #[.val (.long q0), .second, .val (.long q1), .second, .val (.long q2), .second, .val (.int p3), .val (.int p4), .val (.int (4 : Int32)), .val (.ref b43), .unset, .unset, .unset] [(.long q0), (.int ((p3.toUInt32 >>> ((6 : Int32) &&& 31).toUInt32).toInt32)), (.int (2 : Int32)), (.ref b43)])) (fun _ kt => XS.lloadN X47.here hx rfl (hb hby at_64) rfl kt) ?_
    refine OFin.to (T47.setTop (mkF m 66 #[.val (.long q0), .second, .val (.long q1), .second, .val (.long q2), .second, .val (.int p3), .val (.int p4), .val (.int (4 : Int32)), .val (.ref b43), .unset, .unset, .unset] [(.long q1), (.long q0), (.int ((p3.toUInt32 >>> ((6 : Int32) &&& 31).toUInt32).toInt32)), (.int (2 : Int32)), (.ref b43)])) (fun _ kt => XS.lloadN X47.here hx rfl (hb hby at_65) rfl kt) ?_
    refine OFin.to (T47.setTop (mkF m 68 #[.val (.long q0), .second, .val (.long q1), .second, .val (.long q2), .second, .val (.int p3), .val (.int p4), .val (.int (4 : Int32)), .val (.ref b43), .unset, .unset, .unset] [(.long q2), (.long q1), (.long q0), (.int ((p3.toUInt32 >>> ((6 : Int32) &&& 31).toUInt32).toInt32)), (.int (2 : Int32)), (.ref b43)])) (fun _ kt => XS.lload X47.here hx rfl (hb hby at_66) rfl kt) ?_
    obtain ⟨v48, T48, L48, hQ48, X48, st48⟩ := own_callS X47 hx hZ hown (hw _ (List.mem_of_getElem? (i := 1) rfl)) (hw _ (List.mem_of_getElem? (i := 2) rfl)) (hw _ (List.mem_of_getElem? (i := 3) rfl)) (hw _ (List.mem_of_getElem? (i := 4) rfl)) (by decide) e47 (rm1 l Z a0 hw [] ((p3.toUInt32 >>> ((6 : Int32) &&& 31).toUInt32).toInt32) q0 q1 q2 h47) 2 (by decide) (by decide) (by decide) (by decide) (g := (mkF m 68 #[.val (.long q0), .second, .val (.long q1), .second, .val (.long q2), .second, .val (.int p3), .val (.int p4), .val (.int (4 : Int32)), .val (.ref b43), .unset, .unset, .unset] [(.long q2), (.long q1), (.long q0), (.int ((p3.toUInt32 >>> ((6 : Int32) &&& 31).toUInt32).toInt32)), (.int (2 : Int32)), (.ref b43)])) rfl (by rw [hml]; rfl) (rest := [(.int (2 : Int32)), (.ref b43)]) (lenOf pd_1 rfl) rfl (by show 2 * 0 + _ ≤ _; exact Nat.le_of_eq rfl) (hb hby at_68)
    obtain ⟨rfl, e48, rfl⟩ := hQ48
    rw [List.append_nil] at X48
    refine OFin.to (T48.setTop (mkF m 71 #[.val (.long q0), .second, .val (.long q1), .second, .val (.long q2), .second, .val (.int p3), .val (.int p4), .val (.int (4 : Int32)), .val (.ref b43), .unset, .unset, .unset] [(.long (f1_0 ((p3.toUInt32 >>> ((6 : Int32) &&& 31).toUInt32).toInt32) q0 q1 q2)), (.int (2 : Int32)), (.ref b43)])) st48 ?_
    obtain ⟨T49, h49, X49, e49, W49, V49, st49⟩ := own_stJ X48 hx hZ e48 V_b43_47 2 (by decide) rfl (Nat.le_of_ble_eq_true rfl) (g := (mkF m 71 #[.val (.long q0), .second, .val (.long q1), .second, .val (.long q2), .second, .val (.int p3), .val (.int p4), .val (.int (4 : Int32)), .val (.ref b43), .unset, .unset, .unset] [(.long (f1_0 ((p3.toUInt32 >>> ((6 : Int32) &&& 31).toUInt32).toInt32) q0 q1 q2)), (.int (2 : Int32)), (.ref b43)])) rfl rfl (hb hby at_71)
    have Z49 := Nat.le_trans Z47 (Keep.of_wr W49).1
    have V_b43_49 : OArr Z h49 b43 .long [(.long (f1_0 ((p3.toUInt32 >>> ((2 : Int32) &&& 31).toUInt32).toInt32) q0 q1 q2)), (.long (f1_0 ((p3.toUInt32 >>> ((4 : Int32) &&& 31).toUInt32).toInt32) q0 q1 q2)), (.long (f1_0 ((p3.toUInt32 >>> ((6 : Int32) &&& 31).toUInt32).toInt32) q0 q1 q2)), (.long (0 : Int64))] := V49
    have N49 := Fr.snoc X49 N47 g_b43
    refine OFin.to (T49.setTop (mkF m 72 #[.val (.long q0), .second, .val (.long q1), .second, .val (.long q2), .second, .val (.int p3), .val (.int p4), .val (.int (4 : Int32)), .val (.ref b43), .unset, .unset, .unset] [])) st49 ?_
    refine OFin.to (T49.setTop (mkF m 74 #[.val (.long q0), .second, .val (.long q1), .second, .val (.long q2), .second, .val (.int p3), .val (.int p4), .val (.int (4 : Int32)), .val (.ref b43), .unset, .unset, .unset] [(.int (4 : Int32))])) (fun _ kt => XS.iload X49.here hx rfl (hb hby at_72) rfl kt) ?_
    refine OFin.to (T49.setTop (mkF m 75 #[.val (.long q0), .second, .val (.long q1), .second, .val (.long q2), .second, .val (.int p3), .val (.int p4), .val (.int (4 : Int32)), .val (.ref b43), .unset, .unset, .unset] [(.int (4 : Int32)), (.int (4 : Int32))])) (fun _ kt => XS.iconst X49.here hx rfl (hb hby at_74) kt) ?_
    refine OFin.to (T49.setTop (mkF m 78 #[.val (.long q0), .second, .val (.long q1), .second, .val (.long q2), .second, .val (.int p3), .val (.int p4), .val (.int (4 : Int32)), .val (.ref b43), .unset, .unset, .unset] [])) (fun _ kt => XS.icmpNo X49.here hx rfl (hb hby at_75) rfl (XT.ii_lt_f (by decide)) kt) ?_
    refine OFin.to (T49.setTop (mkF m 80 #[.val (.long q0), .second, .val (.long q1), .second, .val (.long q2), .second, .val (.int p3), .val (.int p4), .val (.int (4 : Int32)), .val (.ref b43), .unset, .unset, .unset] [(.ref b43)])) (fun _ kt => XS.aload X49.here hx rfl (hb hby at_78) rfl rfl kt) ?_
    refine OFin.to (T49.setTop (mkF m 81 #[.val (.long q0), .second, .val (.long q1), .second, .val (.long q2), .second, .val (.int p3), .val (.int p4), .val (.int (4 : Int32)), .val (.ref b43), .unset, .unset, .unset] [(.int (3 : Int32)), (.ref b43)])) (fun _ kt => XS.iconst X49.here hx rfl (hb hby at_80) kt) ?_
    refine OFin.to (T49.setTop (mkF m 83 #[.val (.long q0), .second, .val (.long q1), .second, .val (.long q2), .second, .val (.int p3), .val (.int p4), .val (.int (4 : Int32)), .val (.ref b43), .unset, .unset, .unset] [(.int p3), (.int (3 : Int32)), (.ref b43)])) (fun _ kt => XS.iload X49.here hx rfl (hb hby at_81) rfl kt) ?_
    refine OFin.to (T49.setTop (mkF m 85 #[.val (.long q0), .second, .val (.long q1), .second, .val (.long q2), .second, .val (.int p3), .val (.int p4), .val (.int (4 : Int32)), .val (.ref b43), .unset, .unset, .unset] [(.int (8 : Int32)), (.int p3), (.int (3 : Int32)), (.ref b43)])) (fun _ kt => XS.bipush X49.here hx rfl (hb hby at_83) kt) ?_
    refine OFin.to (T49.setTop (mkF m 86 #[.val (.long q0), .second, .val (.long q1), .second, .val (.long q2), .second, .val (.int p3), .val (.int p4), .val (.int (4 : Int32)), .val (.ref b43), .unset, .unset, .unset] [(.int ((p3.toUInt32 >>> ((8 : Int32) &&& 31).toUInt32).toInt32)), (.int (3 : Int32)), (.ref b43)])) (fun _ kt => XS.iushr X49.here hx rfl (hb hby at_85) rfl kt) ?_
    refine OFin.to (T49.setTop (mkF m 87 #[.val (.long q0), .second, .val (.long q1), .second, .val (.long q2), .second, .val (.int p3), .val (.int p4), .val (.int (4 : Int32)), .val (.ref b43), .unset, .unset, .unset] [(.long q0), (.int ((p3.toUInt32 >>> ((8 : Int32) &&& 31).toUInt32).toInt32)), (.int (3 : Int32)), (.ref b43)])) (fun _ kt => XS.lloadN X49.here hx rfl (hb hby at_86) rfl kt) ?_
    refine OFin.to (T49.setTop (mkF m 88 #[.val (.long q0), .second, .val (.long q1), .second, .val (.long q2), .second, .val (.int p3), .val (.int p4), .val (.int (4 : Int32)), .val (.ref b43), .unset, .unset, .unset] [(.long q1), (.long q0), (.int ((p3.toUInt32 >>> ((8 : Int32) &&& 31).toUInt32).toInt32)), (.int (3 : Int32)), (.ref b43)])) (fun _ kt => XS.lloadN X49.here hx rfl (hb hby at_87) rfl kt) ?_
    refine OFin.to (T49.setTop (mkF m 90 #[.val (.long q0), .second, .val (.long q1), .second, .val (.long q2), .second, .val (.int p3), .val (.int p4), .val (.int (4 : Int32)), .val (.ref b43), .unset, .unset, .unset] [(.long q2), (.long q1), (.long q0), (.int ((p3.toUInt32 >>> ((8 : Int32) &&& 31).toUInt32).toInt32)), (.int (3 : Int32)), (.ref b43)])) (fun _ kt => XS.lload X49.here hx rfl (hb hby at_88) rfl kt) ?_
    obtain ⟨v50, T50, L50, hQ50, X50, st50⟩ := own_callS X49 hx hZ hown (hw _ (List.mem_of_getElem? (i := 1) rfl)) (hw _ (List.mem_of_getElem? (i := 2) rfl)) (hw _ (List.mem_of_getElem? (i := 3) rfl)) (hw _ (List.mem_of_getElem? (i := 4) rfl)) (by decide) e49 (rm1 l Z a0 hw [] ((p3.toUInt32 >>> ((8 : Int32) &&& 31).toUInt32).toInt32) q0 q1 q2 h49) 2 (by decide) (by decide) (by decide) (by decide) (g := (mkF m 90 #[.val (.long q0), .second, .val (.long q1), .second, .val (.long q2), .second, .val (.int p3), .val (.int p4), .val (.int (4 : Int32)), .val (.ref b43), .unset, .unset, .unset] [(.long q2), (.long q1), (.long q0), (.int ((p3.toUInt32 >>> ((8 : Int32) &&& 31).toUInt32).toInt32)), (.int (3 : Int32)), (.ref b43)])) rfl (by rw [hml]; rfl) (rest := [(.int (3 : Int32)), (.ref b43)]) (lenOf pd_1 rfl) rfl (by show 2 * 0 + _ ≤ _; exact Nat.le_of_eq rfl) (hb hby at_90)
    obtain ⟨rfl, e50, rfl⟩ := hQ50
    rw [List.append_nil] at X50
    refine OFin.to (T50.setTop (mkF m 93 #[.val (.long q0), .second, .val (.long q1), .second, .val (.long q2), .second, .val (.int p3), .val (.int p4), .val (.int (4 : Int32)), .val (.ref b43), .unset, .unset, .unset] [(.long (f1_0 ((p3.toUInt32 >>> ((8 : Int32) &&& 31).toUInt32).toInt32) q0 q1 q2)), (.int (3 : Int32)), (.ref b43)])) st50 ?_
    obtain ⟨T51, h51, X51, e51, W51, V51, st51⟩ := own_stJ X50 hx hZ e50 V_b43_49 3 (by decide) rfl (Nat.le_of_ble_eq_true rfl) (g := (mkF m 93 #[.val (.long q0), .second, .val (.long q1), .second, .val (.long q2), .second, .val (.int p3), .val (.int p4), .val (.int (4 : Int32)), .val (.ref b43), .unset, .unset, .unset] [(.long (f1_0 ((p3.toUInt32 >>> ((8 : Int32) &&& 31).toUInt32).toInt32) q0 q1 q2)), (.int (3 : Int32)), (.ref b43)])) rfl rfl (hb hby at_93)
    have Z51 := Nat.le_trans Z49 (Keep.of_wr W51).1
    have V_b43_51 : OArr Z h51 b43 .long [(.long (f1_0 ((p3.toUInt32 >>> ((2 : Int32) &&& 31).toUInt32).toInt32) q0 q1 q2)), (.long (f1_0 ((p3.toUInt32 >>> ((4 : Int32) &&& 31).toUInt32).toInt32) q0 q1 q2)), (.long (f1_0 ((p3.toUInt32 >>> ((6 : Int32) &&& 31).toUInt32).toInt32) q0 q1 q2)), (.long (f1_0 ((p3.toUInt32 >>> ((8 : Int32) &&& 31).toUInt32).toInt32) q0 q1 q2))] := V51
    have N51 := Fr.snoc X51 N49 g_b43
    refine OFin.to (T51.setTop (mkF m 94 #[.val (.long q0), .second, .val (.long q1), .second, .val (.long q2), .second, .val (.int p3), .val (.int p4), .val (.int (4 : Int32)), .val (.ref b43), .unset, .unset, .unset] [])) st51 ?_
    exact J94 T51 h51 _ b43 4 (own_t6 (f1_0 ((p3.toUInt32 >>> ((2 : Int32) &&& 31).toUInt32).toInt32) q0 q1 q2) (f1_0 ((p3.toUInt32 >>> ((4 : Int32) &&& 31).toUInt32).toInt32) q0 q1 q2) (f1_0 ((p3.toUInt32 >>> ((6 : Int32) &&& 31).toUInt32).toInt32) q0 q1 q2) (f1_0 ((p3.toUInt32 >>> ((8 : Int32) &&& 31).toUInt32).toInt32) q0 q1 q2) 0 0) (by decide) (by decide) X51 e51 V_b43_51 N51 Z51 g_b43
set_option maxRecDepth 65536 in
set_option maxHeartbeats 40000000 in
theorem comes_1 {Post : Tables → Env → Array Value → State → Outcome → State → Prop} (hpost : ∀ tb e args s v u, (limb_1_1.after args s (.returned v) u = true ∧ limb_1_2.after args s (.returned v) u = true ∧ True) → FrameEnd s (.returned v) u (Jvm.fieldLocs frame_1_writes args s ++ Jvm.arrayLocs frame_1_arrays args s ++ Jvm.staticLocs frame_1_statics s) 16 128 → Post tb e args s (.returned v) u) :
    ArmFor flags0 classFile x code maxLocals ret World_1 tables_1 room_1 Calls_1 rest_1 Pre_1 Post := by
  intro l hfl _ _ p e ha hc hk s m args below hf hA hF happ hP
  obtain ⟨hcalls, hrest, hpre⟩ := hP
  obtain ⟨-, -, -, hnamed, -, -, -, hat⟩ := (Spec.applies_iff hf).mp happ
  obtain ⟨hg, hn⟩ := and_e (Cond.before_iff.mp (show (Jvm.Cond.and given_1 narrow_1).before args s = true from hpre))
  obtain ⟨hcnt, g0⟩ := and_e hg
  obtain ⟨k0, g1⟩ := and_e g0
  obtain ⟨k1, g2⟩ := and_e g1
  obtain ⟨k2, g3⟩ := and_e g2
  obtain ⟨k3, g4⟩ := and_e g3
  obtain ⟨w0, w1, w2, w3, w4, rfl⟩ : ∃ w0 w1 w2 w3 w4 : Value, args = #[w0, w1, w2, w3, w4] := by
    have hs : args.size = 5 := by simpa [Cond.value, given_1] using hcnt
    obtain ⟨L⟩ := args
    match L, hs with
    | [w0, w1, w2, w3, w4], _ => exact ⟨w0, w1, w2, w3, w4, rfl⟩
  have hw := fun d (hd : d ∈ tables_1) => atoms_spec (ws := Jvm.Cond.code x code maxLocals ret :: tables_1) hat d (List.mem_cons_of_mem _ hd)
  have hfit : Fit s := fun {y c} hc i hi => by
    obtain ⟨ha, rfl⟩ := Array.getElem?_eq_some_iff.mp hc
    have q := List.all_eq_true.mp ((Array.all_eq_true_iff_forall_mem.mp hF) _ (Array.getElem_mem ha)) i (List.mem_range.mpr hi)
    simpa [Array.getElem?_eq_getElem hi] using q
  obtain ⟨v0, ev0⟩ := isL_v k0
  obtain rfl : w0 = (.long v0) := Option.some.inj ev0
  obtain ⟨v1, ev1⟩ := isL_v k1
  obtain rfl : w1 = (.long v1) := Option.some.inj ev1
  obtain ⟨v2, ev2⟩ := isL_v k2
  obtain rfl : w2 = (.long v2) := Option.some.inj ev2
  obtain ⟨v3, ev3⟩ := is_v k3
  obtain rfl : w3 = (.int v3) := Option.some.inj ev3
  obtain ⟨v4, ev4⟩ := is_v g4
  obtain rfl : w4 = (.int v4) := Option.some.inj ev4
  obtain ⟨n, o, h1, h2, h3, _, L, rfl, ⟨rfl, N⟩, hq⟩ := rm0 l s _ hw tables_1 v0 v1 v2 v3 v4 s.heap p e ha hc hk s m _ below hf ((Spec.applies_iff_loose hf).mp happ).1 ⟨rfl, State.Warmed39.refl s, rfl⟩ trivial
  refine ⟨n, _, h1, h2, h3, hpost _ _ _ _ _ _ ⟨Cond.after_iff.mpr rfl, Cond.after_iff.mpr (eq_i res_at (Term.int_eval (1)) rfl), trivial⟩ ⟨hq.1, hq.2.1, (hq.2.2.sift fun y hy => Or.inr (N y hy)).mono (by decide) (by decide)⟩⟩
theorem main_1_1 : Claimed_1_1 := comes_1 fun _ _ _ _ _ _ h hF => ⟨h.1, hF⟩
theorem main_1_2 : Claimed_1_2 := comes_1 fun _ _ _ _ _ _ h hF => ⟨h.2.1, hF⟩
end Jvm.Pilot.@@N@@
namespace Jvm.Pilot.@@N@@
open Jvm Jvm.ClassFile Sem Op Lib Jvm.Free Jvm.Stand Jvm.Pilot.@@N@@.Jvm.D
/-! MADE BY PROGRAM (witnessworld.py) out of the Statement's table words and the real class files: 11 classes; the members and pool entries that the words name. The judged class is class 1, her method 3. -/
namespace start1
open Jvm.ClassFile
def u (s : String) : CpInfo := .utf8 (stringToUtf16 s)
/-- a pool by its gaps: so many unusable entries, then the entry; so many at the end -/
def gap : Nat → List CpInfo → List CpInfo
  | 0, r => r
  | n + 1, r => .unusable :: gap n r
def poolList (es : List (Nat × CpInfo)) (last : Nat) : List CpInfo := es.foldr (fun e r => gap e.1 (e.2 :: r)) (gap last [])
def pool (es : List (Nat × CpInfo)) (last : Nat) : Array CpInfo := ⟨poolList es last⟩
def fileOf (pool : Array CpInfo) (this : Nat) (attrs : Array Attribute := #[]) (ms : Array MethodInfo := #[]) (fl : Nat := 33) (sup : Nat := 0) (ifs : Array Nat := #[]) (fds : Array FieldInfo := #[]) : ClassFile where
  minorVersion := 0
  majorVersion := 65
  constantPool := pool
  accessFlags := fl
  thisClass := this
  superClass := sup
  interfaces := ifs
  fields := fds
  methods := ms
  attributes := attrs
def plain (name : String) (sup : Option ClassId) : Class where
  name := name
  kind := .ordinary
  loader := none
  accessFlags := 33
  super := sup
  interfaces := #[]
  cf := none
  fields := #[]
  methods := #[]
  instanceTypes := #[]
  staticTypes := #[]
  resolved := #[]
  callSites := []
  init := .initialized
  statics := none
  mirror := none

def pool0 : Array CpInfo := pool [(5, u "<init>"), (0, u "()V"), (1, .class_ 10), (1, u "java/lang/Object")] 113

def k0c0 : Code := { maxStack := 0, maxLocals := 1, code := object_method_1_code, exceptionTable := #[], attributes := #[] }
def k0m0 : Method := { name := "<init>", desc := "()V", sig := { parameters := [], returnType := none }, accessFlags := 1, code := some k0c0 }
/-- java/lang/Object -/
def k0 : Class := { plain "java/lang/Object" none with
  accessFlags := 33
  interfaces := #[]
  cf := some (fileOf pool0 8 #[] #[{ accessFlags := 1, nameIndex := 5, descriptorIndex := 6, attributes := #[] }] 33 0 #[] #[])
  fields := #[]
  methods := #[k0m0]
  instanceTypes := #[]
  staticTypes := #[]
  resolved := Array.replicate 124 none
  statics := none }

def pool1 : Array CpInfo := pool [(2, .class_ 4), (1, u "java/lang/Object"), (0, u "<init>"), (0, u "()V"), (0, .methodref 8 9), (0, .class_ 10), (0, .nameAndType 11 12), (0, u "com/example/sarana/sarana/functions/collation/MatchedPrefixReadPinLaw"), (0, u "pick"), (0, u "(IJJJ)J"), (0, .class_ 14), (0, u "com/example/sarana/sarana/functions/collation/MatchedPrefix"), (0, .methodref 13 16), (0, .nameAndType 5 17), (0, u "([J)V"), (0, .methodref 13 19), (0, .nameAndType 20 21), (0, u "read"), (0, u "(J)Z"), (0, .methodref 8 23), (0, .nameAndType 24 25), (0, u "ends"), (0, u "([JI[JI)Z"), (3, u "law"), (0, u "(JJJII)Z")] 4

def k1m0 : Method := { name := "<init>", desc := "()V", sig := { parameters := [], returnType := none }, accessFlags := 1, code := none }
def k1c1 : Code := { maxStack := 2, maxLocals := 8, code := method_2_code, exceptionTable := #[], attributes := #[] }
def k1m1 : Method := { name := "pick", desc := "(IJJJ)J", sig := { parameters := [.int, .long, .long, .long], returnType := some .long }, accessFlags := 10, code := some k1c1 }
def k1c2 : Code := { maxStack := 5, maxLocals := 5, code := method_3_code, exceptionTable := #[], attributes := #[] }
def k1m2 : Method := { name := "ends", desc := "([JI[JI)Z", sig := { parameters := [(.array .long), .int, (.array .long), .int], returnType := some .boolean }, accessFlags := 10, code := some k1c2 }
def k1c3 : Code := { maxStack := 9, maxLocals := 13, code := code, exceptionTable := #[], attributes := #[] }
def k1m3 : Method := { name := "law", desc := "(JJJII)Z", sig := { parameters := [.long, .long, .long, .int, .int], returnType := some .boolean }, accessFlags := 9, code := some k1c3 }
/-- com/example/sarana/sarana/functions/collation/MatchedPrefixReadPinLaw -/
def k1 : Class := { plain "com/example/sarana/sarana/functions/collation/MatchedPrefixReadPinLaw" (some 0) with
  accessFlags := 49
  interfaces := #[]
  cf := some (fileOf pool1 8 #[] #[{ accessFlags := 1, nameIndex := 5, descriptorIndex := 6, attributes := #[] }, { accessFlags := 10, nameIndex := 11, descriptorIndex := 12, attributes := #[] }, { accessFlags := 10, nameIndex := 24, descriptorIndex := 25, attributes := #[] }, { accessFlags := 9, nameIndex := 29, descriptorIndex := 30, attributes := #[] }] 49 2 #[] #[])
  fields := #[]
  methods := #[k1m0, k1m1, k1m2, k1m3]
  instanceTypes := #[]
  staticTypes := #[]
  resolved := Array.replicate 35 none
  statics := none }

def pool2 : Array CpInfo := pool [(1, .methodref 2 3), (0, .class_ 4), (0, .nameAndType 5 6), (0, u "java/lang/Object"), (0, u "<init>"), (0, u "()V"), (7, .fieldref 15 16), (0, .class_ 17), (0, .nameAndType 18 19), (0, u "com/example/sarana/sarana/functions/collation/MatchedPrefix"), (0, u "part"), (0, u "[J"), (0, .methodref 15 21), (0, .nameAndType 22 23), (0, u "borders"), (0, u "([J)[I"), (0, .fieldref 15 25), (0, .nameAndType 22 26), (0, u "[I"), (0, .fieldref 15 28), (0, .nameAndType 29 30), (0, u "length"), (0, u "I"), (0, u "([J)V"), (4, u "read"), (0, u "(J)Z")] 5

def k2c0 : Code := { maxStack := 3, maxLocals := 2, code := prog_35_method_1_code, exceptionTable := #[], attributes := #[] }
def k2m0 : Method := { name := "<init>", desc := "([J)V", sig := { parameters := [(.array .long)], returnType := none }, accessFlags := 0, code := some k2c0 }
def k2c1 : Code := { maxStack := 4, maxLocals := 4, code := prog_35_method_2_code, exceptionTable := #[], attributes := #[] }
def k2m1 : Method := { name := "read", desc := "(J)Z", sig := { parameters := [.long], returnType := some .boolean }, accessFlags := 0, code := some k2c1 }
def k2c2 : Code := { maxStack := 4, maxLocals := 4, code := prog_35_method_4_code, exceptionTable := #[], attributes := #[] }
def k2m2 : Method := { name := "borders", desc := "([J)[I", sig := { parameters := [(.array .long)], returnType := some (.array .int) }, accessFlags := 10, code := some k2c2 }
/-- com/example/sarana/sarana/functions/collation/MatchedPrefix -/
def k2 : Class := { plain "com/example/sarana/sarana/functions/collation/MatchedPrefix" (some 0) with
  accessFlags := 48
  interfaces := #[]
  cf := some (fileOf pool2 15 #[] #[{ accessFlags := 0, nameIndex := 5, descriptorIndex := 31, attributes := #[] }, { accessFlags := 0, nameIndex := 36, descriptorIndex := 37, attributes := #[] }, { accessFlags := 10, nameIndex := 22, descriptorIndex := 23, attributes := #[] }] 48 2 #[] #[{ accessFlags := 18, nameIndex := 18, descriptorIndex := 19, attributes := #[] }, { accessFlags := 18, nameIndex := 22, descriptorIndex := 26, attributes := #[] }, { accessFlags := 2, nameIndex := 29, descriptorIndex := 30, attributes := #[] }])
  fields := #[{ name := "part", type := (.array .long), accessFlags := 18, slot := 0, constantValue := 0 }, { name := "borders", type := (.array .int), accessFlags := 18, slot := 1, constantValue := 0 }, { name := "length", type := .int, accessFlags := 2, slot := 2, constantValue := 0 }]
  methods := #[k2m0, k2m1, k2m2]
  instanceTypes := #[(.array .long), (.array .int), .int]
  staticTypes := #[]
  resolved := Array.replicate 43 none
  statics := none }

def pool3 : Array CpInfo := pool [(1, u "java/lang/Cloneable"), (0, .class_ 1), (0, u "java/lang/Object"), (0, .class_ 3)] 3

/-- java/lang/Cloneable -/
def k3 : Class := { plain "java/lang/Cloneable" (some 0) with
  accessFlags := 1537
  interfaces := #[]
  cf := some (fileOf pool3 2 #[] #[] 1537 4 #[] #[])
  fields := #[]
  methods := #[]
  instanceTypes := #[]
  staticTypes := #[]
  resolved := Array.replicate 8 none
  statics := none }

def pool4 : Array CpInfo := pool [(1, u "java/io/Serializable"), (0, .class_ 1), (0, u "java/lang/Object"), (0, .class_ 3)] 3

/-- java/io/Serializable -/
def k4 : Class := { plain "java/io/Serializable" (some 0) with
  accessFlags := 1537
  interfaces := #[]
  cf := some (fileOf pool4 2 #[] #[] 1537 4 #[] #[])
  fields := #[]
  methods := #[]
  instanceTypes := #[]
  staticTypes := #[]
  resolved := Array.replicate 8 none
  statics := none }

/-- the primitive byte -/
def k5 : Class := { plain "byte" none with kind := .primitive 'B', accessFlags := 0x411 }
/-- [B -/
def k6 : Class := { plain "[B" (some 0) with kind := .array 5 .byte, interfaces := #[3, 4], accessFlags := 1041 }

/-- the primitive int -/
def k7 : Class := { plain "int" none with kind := .primitive 'I', accessFlags := 0x411 }
/-- [I -/
def k8 : Class := { plain "[I" (some 0) with kind := .array 7 .int, interfaces := #[3, 4], accessFlags := 1041 }

/-- the primitive long -/
def k9 : Class := { plain "long" none with kind := .primitive 'J', accessFlags := 0x411 }
/-- [J -/
def k10 : Class := { plain "[J" (some 0) with kind := .array 9 .long, interfaces := #[3, 4], accessFlags := 1041 }

def heap : Heap := #[]
def classes : Array Class := #[k0, k1, k2, k3, k4, k5, k6, k7, k8, k9, k10]
def interned : List (Array UInt16 × Addr) := []
def slotsUsed : Nat := 0
def theMethod : MethodId := ⟨1, 3⟩
def args0 : Array Value := #[.long 5, .long 3, .long 7, .int 9, .int 9]
def aboutOver (below : List Frame) : State where
  vm := { classes := classes, interned := interned.toArray }
  heap := heap
  slotsUsed := slotsUsed
  threads := #[{ frames := .invoking theMethod args0 :: below }]
def below0 : List Frame := [.native { method := ⟨0, 0⟩, args := #[] }]
def about1 : State := aboutOver below0
def p0 : Program := .bare "" "" ""
def e0 : Env := launch0.env 0 0 0
theorem w_frames : about1.frames = Frame.invoking theMethod args0 :: below0 := rfl
set_option maxRecDepth 65536 in
theorem w_args : argsFit about1.vm theMethod args0 = true := by decide +kernel
set_option maxRecDepth 65536 in
theorem w_heap : heapFits about1 = true := by decide +kernel
set_option maxRecDepth 65536 in
theorem w_runnable : about1.curStatus? = some .runnable := by decide +kernel
set_option maxRecDepth 65536 in
theorem w_alone : about1.alone = true := by decide +kernel
set_option maxRecDepth 65536 in
theorem w_named : about1.methodNamed? x = some theMethod := by decide +kernel
set_option maxRecDepth 65536 in
theorem w_hears : about1.hears theMethod below0 = true := by decide +kernel
set_option maxRecDepth 65536 in
theorem w_ripe : about1.ripe theMethod args0 below0 = true := by decide +kernel
theorem w_running : about1.status = .running := rfl
set_option maxRecDepth 65536 in
theorem w_room : about1.hasRoom e0.platform room_1 = true :=
  launch0.hasRoom_least _ room_1 (by decide +kernel) (by decide +kernel) (by decide +kernel) (by decide +kernel) (by decide +kernel) (by decide +kernel)
theorem allAtoms_all (ts : List Jvm.Cond) (a : Array Jvm.Value) (st : Jvm.State) : (allAtoms ts).before a st = ts.all (fun c => c.before a st) := by
  induction ts with
  | nil => rfl
  | cons c t ih =>
    show (Jvm.Cond.and c (allAtoms t)).before a st = _
    rw [Jvm.Cond.before_and, ih, List.all_cons]
def words1 : List Jvm.Cond := Jvm.Cond.code x code maxLocals ret :: tables_1
/-- a 'code' word, met by the world's own term for the bytes: nothing is compared byte by byte -/
theorem code_word {y : MethodName} {bytes : ByteArray} {mx : Nat} {rt : Option FieldType} {a : Array Value} {s : State} {m : MethodId} {meth : Method} {c : Code} (h1 : s.methodNamed? y = some m) (h2 : s.vm.method? m = some meth) (h3 : meth.code = some c) (h4 : c.code = bytes)
    (h5 : (c.maxLocals == mx && c.exceptionTable.isEmpty && decide (c.maxStack ≤ mostOperands) && decide (meth.sig.returnType = rt) && !meth.locks && decide (parseMethodDescriptor y.desc = some meth.sig)) = true) : (Jvm.Cond.code y bytes mx rt).before a s = true := by
  simp only [Bool.and_eq_true, beq_iff_eq, Bool.not_eq_true', decide_eq_true_eq] at h5
  obtain ⟨⟨⟨⟨⟨g1, g2⟩, g3⟩, g4⟩, g5⟩, g6⟩ := h5
  simp [Cond.before, Cond.holds, Cond.value, h1, h2, h3, h4, g1, g2, g3, g4, g5, g6]
def isCode : Jvm.Cond → Bool
  | .code _ _ _ _ => true
  | _ => false
theorem all_split {L : List Jvm.Cond} {P : Jvm.Cond → Bool} (h1 : L.all (fun c => isCode c || P c) = true) (h2 : ∀ c ∈ L.filter isCode, P c = true) : L.all P = true := by
  refine List.all_eq_true.mpr fun c hc => ?_
  have h := List.all_eq_true.mp h1 c hc
  rcases Bool.eq_false_or_eq_true (isCode c) with hi | hi
  · exact h2 c (List.mem_filter.mpr ⟨hc, hi⟩)
  · simpa [hi] using h
set_option maxRecDepth 65536 in
theorem w_c0 : (Jvm.Cond.code x code maxLocals ret).before args0 about1 = true := code_word (m := ⟨1, 3⟩) (meth := k1m3) (c := k1c3) (by decide +kernel) rfl rfl rfl (by decide +kernel)
set_option maxRecDepth 65536 in
theorem w_c1 : (Jvm.Cond.code ({ cls := "com/example/sarana/sarana/functions/collation/MatchedPrefixReadPinLaw", name := "pick", desc := "(IJJJ)J" } : Jvm.MethodName) method_2_code (8 : Nat) (Option.some Jvm.ClassFile.FieldType.long)).before args0 about1 = true := code_word (m := ⟨1, 1⟩) (meth := k1m1) (c := k1c1) (by decide +kernel) rfl rfl rfl (by decide +kernel)
set_option maxRecDepth 65536 in
theorem w_c2 : (Jvm.Cond.code ({ cls := "com/example/sarana/sarana/functions/collation/MatchedPrefix", name := "<init>", desc := "([J)V" } : Jvm.MethodName) prog_35_method_1_code (2 : Nat) (Option.none : Option Jvm.ClassFile.FieldType)).before args0 about1 = true := code_word (m := ⟨2, 0⟩) (meth := k2m0) (c := k2c0) (by decide +kernel) rfl rfl rfl (by decide +kernel)
set_option maxRecDepth 65536 in
theorem w_c3 : (Jvm.Cond.code ({ cls := "java/lang/Object", name := "<init>", desc := "()V" } : Jvm.MethodName) object_method_1_code (1 : Nat) (Option.none : Option Jvm.ClassFile.FieldType)).before args0 about1 = true := code_word (m := ⟨0, 0⟩) (meth := k0m0) (c := k0c0) (by decide +kernel) rfl rfl rfl (by decide +kernel)
set_option maxRecDepth 65536 in
theorem w_c4 : (Jvm.Cond.code ({ cls := "com/example/sarana/sarana/functions/collation/MatchedPrefix", name := "borders", desc := "([J)[I" } : Jvm.MethodName) prog_35_method_4_code (4 : Nat) (Option.some (Jvm.ClassFile.FieldType.array Jvm.ClassFile.FieldType.int))).before args0 about1 = true := code_word (m := ⟨2, 2⟩) (meth := k2m2) (c := k2c2) (by decide +kernel) rfl rfl rfl (by decide +kernel)
set_option maxRecDepth 65536 in
theorem w_c5 : (Jvm.Cond.code ({ cls := "com/example/sarana/sarana/functions/collation/MatchedPrefix", name := "read", desc := "(J)Z" } : Jvm.MethodName) prog_35_method_2_code (4 : Nat) (Option.some Jvm.ClassFile.FieldType.boolean)).before args0 about1 = true := code_word (m := ⟨2, 1⟩) (meth := k2m1) (c := k2c1) (by decide +kernel) rfl rfl rfl (by decide +kernel)
set_option maxRecDepth 65536 in
theorem w_c6 : (Jvm.Cond.code ({ cls := "com/example/sarana/sarana/functions/collation/MatchedPrefixReadPinLaw", name := "ends", desc := "([JI[JI)Z" } : Jvm.MethodName) method_3_code (5 : Nat) (Option.some Jvm.ClassFile.FieldType.boolean)).before args0 about1 = true := code_word (m := ⟨1, 2⟩) (meth := k1m2) (c := k1c2) (by decide +kernel) rfl rfl rfl (by decide +kernel)
def codes1 : List Jvm.Cond := [Jvm.Cond.code x code maxLocals ret, Jvm.Cond.code ({ cls := "com/example/sarana/sarana/functions/collation/MatchedPrefixReadPinLaw", name := "pick", desc := "(IJJJ)J" } : Jvm.MethodName) method_2_code (8 : Nat) (Option.some Jvm.ClassFile.FieldType.long), Jvm.Cond.code ({ cls := "com/example/sarana/sarana/functions/collation/MatchedPrefix", name := "<init>", desc := "([J)V" } : Jvm.MethodName) prog_35_method_1_code (2 : Nat) (Option.none : Option Jvm.ClassFile.FieldType), Jvm.Cond.code ({ cls := "java/lang/Object", name := "<init>", desc := "()V" } : Jvm.MethodName) object_method_1_code (1 : Nat) (Option.none : Option Jvm.ClassFile.FieldType), Jvm.Cond.code ({ cls := "com/example/sarana/sarana/functions/collation/MatchedPrefix", name := "borders", desc := "([J)[I" } : Jvm.MethodName) prog_35_method_4_code (4 : Nat) (Option.some (Jvm.ClassFile.FieldType.array Jvm.ClassFile.FieldType.int)), Jvm.Cond.code ({ cls := "com/example/sarana/sarana/functions/collation/MatchedPrefix", name := "read", desc := "(J)Z" } : Jvm.MethodName) prog_35_method_2_code (4 : Nat) (Option.some Jvm.ClassFile.FieldType.boolean), Jvm.Cond.code ({ cls := "com/example/sarana/sarana/functions/collation/MatchedPrefixReadPinLaw", name := "ends", desc := "([JI[JI)Z" } : Jvm.MethodName) method_3_code (5 : Nat) (Option.some Jvm.ClassFile.FieldType.boolean)]
set_option maxRecDepth 65536 in
theorem codes_eq : words1.filter isCode = codes1 := rfl
theorem w_codes : ∀ c ∈ words1.filter isCode, c.before args0 about1 = true := by
  rw [codes_eq]
  intro c hc
  simp only [codes1, List.mem_cons, List.not_mem_nil, or_false] at hc
  rcases hc with rfl | rfl | rfl | rfl | rfl | rfl | rfl
  · exact w_c0
  · exact w_c1
  · exact w_c2
  · exact w_c3
  · exact w_c4
  · exact w_c5
  · exact w_c6
set_option maxRecDepth 65536 in
theorem w_t1 : (words1.take 24).all (fun c => isCode c || c.before args0 about1) = true := by decide +kernel
set_option maxRecDepth 65536 in
theorem w_t2 : (words1.drop 24).all (fun c => isCode c || c.before args0 about1) = true := by decide +kernel
theorem w_tables : (allAtoms (Jvm.Cond.code x code maxLocals ret :: tables_1)).before args0 about1 = true := by
  rw [allAtoms_all]
  show words1.all (fun c => c.before args0 about1) = true
  refine all_split ?_ w_codes
  rw [← List.take_append_drop 24 words1, List.all_append, w_t1, w_t2]
  rfl
set_option maxRecDepth 65536 in
theorem w_case : (Jvm.Cond.and given_1 narrow_1).before args0 about1 = true := by decide +kernel
theorem w_applies : (headSpec (Jvm.Cond.code x code maxLocals ret :: tables_1) room_1).applies x e0.platform about1 = true :=
  (Spec.applies_iff w_frames).mpr ⟨w_running, w_runnable, w_alone, w_named, w_hears, w_ripe, w_room, w_tables⟩
theorem atStart : AtStart classFile x code maxLocals ret World_1 tables_1 room_1 Calls_1 rest_1 Pre_1 launch0 p0 e0 about1 theMethod args0 below0 :=
  ⟨lists_1, trivial, launch0.admits_env _ _ _, launch0.least_env, fairChoices_fair.cas, fairChoices_fair.clock, w_frames, w_args, w_heap, w_applies, trivial, trivial, w_case⟩
end start1
theorem witness_1 : WitnessClaimed_1 := ⟨start1.p0, start1.e0, start1.about1, start1.theMethod, start1.args0, start1.below0, start1.atStart⟩
end Jvm.Pilot.@@N@@
