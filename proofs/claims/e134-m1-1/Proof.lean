import JvmDerived
import JvmDerived.Pilot.@@N@@Statement
import JvmDerived.Pilot.@@N@@Code
set_option linter.unusedVariables false
set_option linter.unusedSimpArgs false
namespace Jvm.Pilot.@@N@@
open Jvm Jvm.ClassFile Sem Op Lib Jvm.Free Jvm.Stand Jvm.LawKit Jvm.RoadKit Bundle Jvm.Pilot.@@N@@.Jvm.D
section OwnKit
variable {p : Program} {l : Launch} {e : Env} {R : Room} {s : State} {m : MethodId} {args : Array Value} {below : List Frame} {meth : Method} {c : Code} {T : State} {locs : List Loc} {cells slots : Nat} {Z : State} {a0 : Array Value} {h : Heap} {ce sl : Nat} {Q : Option Value → Heap → List Loc → Prop} {S : State}
/-- a contract's last word, under a name of its own -/
def OQ (Q : Option Value → Heap → List Loc → Prop) (v : Option Value) (h : Heap) (L : List Loc) : Prop := Q v h L
theorem own_q {z r : Int32} (hr : z = r) (eT : T.heap = h) (hQ : Q (some (.int r)) h locs) : Q (some (.int z)) T.heap locs := by subst hr; rw [eT]; exact hQ
theorem own_qJ {z r : Int64} (hr : z = r) (eT : T.heap = h) (hQ : Q (some (.long r)) h locs) : Q (some (.long z)) T.heap locs := by subst hr; rw [eT]; exact hQ
/-- from S the body runs to its return, and leaves what Q says -/
def OFin (p : Program) (e : Env) (below : List Frame) (s : State) (ce sl : Nat) (Q : Option Value → Heap → List Loc → Prop) (S : State) : Prop :=
  ∃ (t : State) (o : Outcome), Steps p.tables e below S t ∧ t.status = .running ∧ Ended t below o ∧ ∃ v L, o = .returned v ∧ Q v t.heap L ∧ FrameEnd s o t L ce sl
theorem OFin.start {S' : State} (st : ∀ target, Steps p.tables e below S' target → Steps p.tables e below S target) (k : OFin p e below s ce sl Q S') :
    ∃ (t : State) (o : Outcome), Steps p.tables e below S t ∧ t.status = .running ∧ Ended t below o ∧ ∃ v L, o = .returned v ∧ Q v t.heap L ∧ FrameEnd s o t L ce sl := by
  obtain ⟨t, o, h, r⟩ := k
  exact ⟨t, o, st _ h, r⟩
theorem OFin.to (S' : State) (st : ∀ target, Steps p.tables e below S' target → Steps p.tables e below S target) (k : OFin p e below s ce sl Q S') : OFin p e below s ce sl Q S := OFin.start st k
theorem OFin.via (S' : State) (st : Steps p.tables e below S S') (k : OFin p e below s ce sl Q S') : OFin p e below s ce sl Q S := OFin.start (fun _ h => st.trans h) k
theorem OFin.mono {Q' : Option Value → Heap → List Loc → Prop} (k : OFin p e below s ce sl Q' S) (h : ∀ v h L, Q' v h L → Q v h L) : OFin p e below s ce sl Q S := by
  obtain ⟨t, o, h1, h2, h3, v, L, h4, h5, h6⟩ := k
  exact ⟨t, o, h1, h2, h3, v, L, h4, h _ _ _ h5, h6⟩
theorem OFin.retZ (X : Stand p l e R s m args below meth c T locs cells slots) (hx : p.tables.exec = Jvm.exec) {t : FieldType} (hret : meth.sig.returnType = some t) (ht : t = .boolean ∨ t = .byte ∨ t = .char ∨ t = .short) (hlk : meth.locks = false) {pc : Nat} {Ls : Array Slot} {z : Int32} {rest : List Value}
    (hd : decode c.code pc = .ok (.ireturn, 1)) (hc : cells ≤ ce) (hs : slots ≤ sl) (hQ : Q (some (.int (nar t z))) T.heap locs) : OFin p e below s ce sl Q (T.setTop (mkF m pc Ls (.int z :: rest))) := by
  obtain ⟨fs, hr, hrun, hended, hW, hsame⟩ := X.leave (v := some (.int (nar t z))) (fun h => by rw [hret] at h; cases h) hlk
  exact ⟨_, _, retN X hx hret ht hd hr, hrun, hended, _, _, rfl, hQ, ⟨_, rfl⟩, hW, hsame.mono hc hs⟩
theorem OFin.retI (X : Stand p l e R s m args below meth c T locs cells slots) (hx : p.tables.exec = Jvm.exec) (hret : meth.sig.returnType = some .int) (hlk : meth.locks = false) {pc : Nat} {Ls : Array Slot} {z : Int32} {rest : List Value}
    (hd : decode c.code pc = .ok (.ireturn, 1)) (hc : cells ≤ ce) (hs : slots ≤ sl) (hQ : Q (some (.int z)) T.heap locs) : OFin p e below s ce sl Q (T.setTop (mkF m pc Ls (.int z :: rest))) := by
  obtain ⟨fs, hr, hrun, hended, hW, hsame⟩ := X.leave (v := some (.int z)) (fun h => by rw [hret] at h; cases h) hlk
  refine ⟨_, _, ?_, hrun, hended, _, _, rfl, hQ, ⟨_, rfl⟩, hW, hsame.mono hc hs⟩
  have hm' : T.vm.method? m = some meth := X.method'
  have hn : narrow .int (.int z) = .int z := rfl
  show Steps p.tables e below (T.setTop { method := m, pc := pc, locals := Ls, stack := _ :: rest, locked := none }) _
  jvm_step X.here [X.here.top, hx, hd, hm', hret, hn]
  first | (intro acts; rw [hr _ acts rfl rfl rfl]) | rw [hr _ _ rfl rfl rfl]
  exact Steps.refl _
theorem OFin.retJ (X : Stand p l e R s m args below meth c T locs cells slots) (hx : p.tables.exec = Jvm.exec) (hret : meth.sig.returnType = some .long) (hlk : meth.locks = false) {pc : Nat} {Ls : Array Slot} {z : Int64} {rest : List Value}
    (hd : decode c.code pc = .ok (.lreturn, 1)) (hc : cells ≤ ce) (hs : slots ≤ sl) (hQ : Q (some (.long z)) T.heap locs) : OFin p e below s ce sl Q (T.setTop (mkF m pc Ls (.long z :: rest))) := by
  obtain ⟨fs, hr, hrun, hended, hW, hsame⟩ := X.leave (v := some (.long z)) (fun h => by rw [hret] at h; cases h) hlk
  refine ⟨_, _, ?_, hrun, hended, _, _, rfl, hQ, ⟨_, rfl⟩, hW, hsame.mono hc hs⟩
  have hm' : T.vm.method? m = some meth := X.method'
  show Steps p.tables e below (T.setTop { method := m, pc := pc, locals := Ls, stack := _ :: rest, locked := none }) _
  jvm_step X.here [X.here.top, hx, hd, hm', hret, narrow]
  first | (intro acts; rw [hr _ acts rfl rfl rfl]) | rw [hr _ _ rfl rfl rfl]
  exact Steps.refl _
theorem OFin.retV (X : Stand p l e R s m args below meth c T locs cells slots) (hx : p.tables.exec = Jvm.exec) (hret : meth.sig.returnType = none) (hlk : meth.locks = false) {pc : Nat} {Ls : Array Slot}
    (hd : decode c.code pc = .ok (.return_, 1)) (hc : cells ≤ ce) (hs : slots ≤ sl) (hQ : Q none T.heap locs) : OFin p e below s ce sl Q (T.setTop (mkF m pc Ls [])) := by
  obtain ⟨fs, hr, hrun, hended, hW, hsame⟩ := X.leave (v := none) (fun _ => rfl) hlk
  exact ⟨_, _, X.returnOut hx hret hd hr, hrun, hended, _, _, rfl, hQ, ⟨_, rfl⟩, hW, hsame.mono hc hs⟩
/-- a static call by the callee's contract -/
theorem own_callS {y : MethodName} {bytes : ByteArray} {maxL : Nat} {ret : Option FieldType} {rm : Room} {as' : List Value} {QQ : Option Value → Heap → List Loc → Prop} {own : String} {index : Nat}
    (X : Stand p l e R s m args below meth c T locs cells slots) (hx : p.tables.exec = Jvm.exec) (hZ : Z.Warmed39 s.vm) (hown : s.vm.findClass own = some m.cls)
    (w1 : (Cond.methodLink own index y).before a0 Z = true) (w2 : (Cond.static y).before a0 Z = true) (w3 : (Cond.initialized y.cls).before a0 Z = true) (w4 : (Cond.code y bytes maxL ret).before a0 Z = true) (hy : y.cls ≠ "java/lang/invoke/MethodHandle" ∧ y.cls ≠ "java/lang/invoke/VarHandle") (eT : T.heap = h)
    (hM : MetFree l y (head1 [Cond.code y bytes maxL ret] rm) (fun a U => a = as'.toArray ∧ Z.Warmed39 U.vm ∧ U.heap = h) (fun _ _ _ _ _ => True) (fun _ U o U' => ∃ v L, o = .returned v ∧ OQ QQ v U'.heap L ∧ FrameEnd U o U' L rm.cells rm.slots))
    (W : Nat) (hf : rm.frames + 1 ≤ R.frames) (hl : W + (maxL + 11) + rm.locals ≤ R.locals) (hc : cells + rm.cells ≤ R.cells) (hs : slots + rm.slots ≤ R.slots)
    {g : JFrame} (hg : g.method = m) (hsize : g.locals.size = c.maxLocals) {rest : List Value} (hlen : ∀ sig, parseMethodDescriptor y.desc = some sig → as'.length = sig.parameters.length) (hstack : g.stack = as'.reverse ++ rest) (hW : 2 * g.monitorRoom + (rest.map fun v => v.category).sum ≤ W) (hd : decode c.code g.pc = .ok (.invokestatic index, 3)) :
    ∃ v T' L, QQ v T'.heap L ∧ Stand p l e R s m args below meth c T' (locs ++ L) (cells + rm.cells) (slots + rm.slots) ∧ ∀ target, Steps p.tables e below (T'.setTop { g with pc := g.pc + 3, stack := v.toList ++ rest }) target → Steps p.tables e below (T.setTop g) target := by
  obtain ⟨v, _, ⟨T', L1, k1, n1⟩, -, X', ⟨L, hQ, l1, y1, z1⟩, st⟩ := Jvm.LawKit.callS X hx (y := y) hown (mvT hZ w1) (mvT hZ w2) (mvT hZ w3) (mvT hZ w4) hy (backOf (W := W) (Q := OQ QQ) hM hZ w4 w3 hf hl) (g := g) hg hsize (argsL := as') (rest := rest) hlen hstack hW hd (fun _ _ => ⟨rfl, eT, hc, hs⟩)
  dsimp only [Pt.U, Pt.locs, Pt.cells, Pt.slots] at X' l1 y1 z1 st hQ
  subst l1 y1 z1
  exact ⟨v, T', L, hQ, X', st⟩
/-- a static call of a body that writes and makes nothing -/
theorem own_callSP {y : MethodName} {bytes : ByteArray} {maxL : Nat} {ret : Option FieldType} {rm : Room} {as' : List Value} {v : Value} {own : String} {index : Nat}
    (X : Stand p l e R s m args below meth c T locs cells slots) (hx : p.tables.exec = Jvm.exec) (hZ : Z.Warmed39 s.vm) (hown : s.vm.findClass own = some m.cls)
    (w1 : (Cond.methodLink own index y).before a0 Z = true) (w2 : (Cond.static y).before a0 Z = true) (w3 : (Cond.initialized y.cls).before a0 Z = true) (w4 : (Cond.code y bytes maxL ret).before a0 Z = true) (hy : y.cls ≠ "java/lang/invoke/MethodHandle" ∧ y.cls ≠ "java/lang/invoke/VarHandle") (eT : T.heap = h)
    (hM : MetFree l y (head1 [Cond.code y bytes maxL ret] rm) (fun a U => a = as'.toArray ∧ Z.Warmed39 U.vm ∧ U.heap = h) (fun _ _ _ _ _ => True) (fun _ U o U' => ∃ v' L, o = .returned v' ∧ OQ (fun v' h' L => v' = some v ∧ h' = h ∧ L = []) v' U'.heap L ∧ FrameEnd U o U' L rm.cells rm.slots))
    (hrc : rm.cells = 0) (hrs : rm.slots = 0) (W : Nat) (hf : rm.frames + 1 ≤ R.frames) (hl : W + (maxL + 11) + rm.locals ≤ R.locals) (hc : cells ≤ R.cells) (hs : slots ≤ R.slots)
    {g : JFrame} (hg : g.method = m) (hsize : g.locals.size = c.maxLocals) {rest : List Value} (hlen : ∀ sig, parseMethodDescriptor y.desc = some sig → as'.length = sig.parameters.length) (hstack : g.stack = as'.reverse ++ rest) (hW : 2 * g.monitorRoom + (rest.map fun v => v.category).sum ≤ W) (hd : decode c.code g.pc = .ok (.invokestatic index, 3)) :
    ∃ T', Stand p l e R s m args below meth c T' locs cells slots ∧ T'.heap = h ∧ ∀ target, Steps p.tables e below (T'.setTop { g with pc := g.pc + 3, stack := v :: rest }) target → Steps p.tables e below (T.setTop g) target := by
  obtain ⟨v', T', L, ⟨rfl, hh, rfl⟩, X', st⟩ := own_callS X hx hZ hown w1 w2 w3 w4 hy eT hM W hf hl (by rw [hrc]; exact hc) (by rw [hrs]; exact hs) hg hsize hlen hstack hW hd
  rw [hrc, hrs, List.append_nil] at X'
  exact ⟨T', X', hh, st⟩
theorem OFin.retA (X : Stand p l e R s m args below meth c T locs cells slots) (hx : p.tables.exec = Jvm.exec) {t : FieldType} (hret : meth.sig.returnType = some t) (ht : t.isReference = true) (hlk : meth.locks = false) {pc : Nat} {Ls : Array Slot} {a : Addr} {rest : List Value}
    (hd : decode c.code pc = .ok (.areturn, 1)) (hc : cells ≤ ce) (hs : slots ≤ sl) (hQ : Q (some (.ref a)) T.heap locs) : OFin p e below s ce sl Q (T.setTop (mkF m pc Ls (.ref a :: rest))) := by
  obtain ⟨fs, hr, hrun, hended, hW, hsame⟩ := X.leave (v := some (.ref a)) (fun h => by rw [hret] at h; cases h) hlk
  refine ⟨_, _, ?_, hrun, hended, _, _, rfl, hQ, ⟨_, rfl⟩, hW, hsame.mono hc hs⟩
  have hm' : T.vm.method? m = some meth := X.method'
  show Steps p.tables e below (T.setTop { method := m, pc := pc, locals := Ls, stack := _ :: rest, locked := none }) _
  jvm_step X.here [X.here.top, hx, hd, hm', hret, ht, Value.isRef]
  first | (intro acts; rw [hr _ acts rfl rfl rfl]) | rw [hr _ _ rfl rfl rfl]
  exact Steps.refl _
theorem own_nar0 : nar .boolean (0 : Int32) = 0 := by decide
theorem own_nar1 : nar .boolean (1 : Int32) = 1 := by decide
end OwnKit
section OwnArr
variable {p : Program} {l : Launch} {e : Env} {R : Room} {s : State} {m : MethodId} {args : Array Value} {below : List Frame} {meth : Method} {c : Code} {T : State} {locs : List Loc} {cells slots : Nat} {Z : State} {a0 : Array Value} {h h' : Heap} {a b : Addr} {ty : FieldType} {vs : List Value} {v : Value} {i : Nat}
/-- the array at a holds just these -/
def OArr (Z : State) (h : Heap) (a : Addr) (ty : FieldType) (vs : List Value) : Prop := ∃ cl : Cell, Arr Z h a cl ty ∧ cl.slots = vs.toArray
theorem OArr.lt (V : OArr Z h a ty vs) : a < h.size := by obtain ⟨cl, A, -⟩ := V; exact A.lt
theorem OArr.ext (V : OArr Z h a ty vs) (E : Ext h h') : OArr Z h' a ty vs := by obtain ⟨cl, A, r⟩ := V; exact ⟨cl, A.ext E, r⟩
theorem OArr.other (V : OArr Z h b ty vs) (W : Wr h h' a i v) (q : b ≠ a) : OArr Z h' b ty vs := by obtain ⟨cl, A, r⟩ := V; exact ⟨cl, A.other W q, r⟩
theorem OArr.keep {ws : List Addr} (V : OArr Z h a ty vs) (K : Keep h h' ws) (q : a ∉ ws) : OArr Z h' a ty vs := by obtain ⟨cl, A, r⟩ := V; exact ⟨cl, ⟨K.2.1 a cl A.1 q, A.2⟩, r⟩
theorem OArr.set (V : OArr Z h a ty vs) (W : Wr h h' a i v) : OArr Z h' a ty (vs.set i v) := by
  obtain ⟨cl, A, r⟩ := V
  exact ⟨_, A.same W, by simp [Cell.setSlot, r]⟩
theorem own_newP (X : Stand p l e R s m args below meth c T locs cells slots) (hx : p.tables.exec = Jvm.exec) (hZ : Z.Warmed39 s.vm) {aty : ArrayType} (w : (Cond.arrayClass (newarray.typeOf aty)).before a0 Z = true) (eT : T.heap = h) {g : JFrame} (hg : g.method = m) (hd : decode c.code g.pc = .ok (.newarray aty, 2)) {n : Int32} {rest : List Value} (hs : g.stack = .int n :: rest)
    (hn : ¬ n < 0) (N : Nat) (hN : n.toNatClampNeg = N) {cap : Nat} (hcap : N ≤ cap) (hb : cap * 8 ≤ 536870912) (hc : cells + 1 ≤ R.cells) (hl : slots + cap ≤ R.slots) :
    ∃ T' h', Stand p l e R s m args below meth c T' locs (cells + 1) (slots + cap) ∧ T'.heap = h' ∧ Ext h h' ∧ OArr Z h' h.size (newarray.typeOf aty) (List.replicate N (defaultValue (newarray.typeOf aty))) ∧
      ∀ target, Steps p.tables e below (T'.setTop { g with pc := g.pc + 2, stack := .ref h.size :: rest }) target → Steps p.tables e below (T.setTop g) target := by
  obtain ⟨T', h', cA, X', e', E, A, st⟩ := newP X hx hZ w eT hg hd hs hn (cap := cap) (by rw [hN]; exact hcap) hb hc hl
  exact ⟨T', h', X', e', E, ⟨_, A, by simp [newA, hN]⟩, st⟩
theorem own_in (V : OArr Z h a ty vs) : ∃ cl : Cell, Arr Z h a cl ty ∧ cl.slots = vs.toArray ∧ ∀ j : Int32, ¬ j < 0 → j.toNatClampNeg < vs.length → ¬ (j < 0 ∨ cl.slots.size ≤ j.toNatClampNeg) := by
  obtain ⟨cl, A, r⟩ := V
  refine ⟨cl, A, r, fun j h1 h2 h3 => h3.elim h1 fun q => ?_⟩
  rw [r] at q
  simp at q
  omega
theorem own_stI (X : Stand p l e R s m args below meth c T locs cells slots) (hx : p.tables.exec = Jvm.exec) (hZ : Z.Warmed39 s.vm) (eT : T.heap = h) (V : OArr Z h a .int vs) {j x : Int32} (i : Nat) (hj0 : ¬ j < 0) (hj : j.toNatClampNeg = i) (hi : i < vs.length) {g : JFrame} (hg : g.method = m) {rest : List Value} (hs : g.stack = .int x :: .int j :: .ref a :: rest) (hd : decode c.code g.pc = .ok (.iastore, 1)) :
    ∃ T' h', Stand p l e R s m args below meth c T' (locs ++ [⟨a, i⟩]) cells slots ∧ T'.heap = h' ∧ Wr h h' a i (.int x) ∧ OArr Z h' a .int (vs.set i (.int x)) ∧ ∀ target, Steps p.tables e below (T'.setTop { g with pc := g.pc + 1, stack := rest }) target → Steps p.tables e below (T.setTop g) target := by
  obtain ⟨cl, A, r, q⟩ := own_in V
  subst hj
  obtain ⟨T', h', X', e', W, st⟩ := stI X hx hZ eT A (j := j) (q j hj0 hi) hg hs hd
  exact ⟨T', h', X', e', W, V.set W, st⟩
theorem own_stJ (X : Stand p l e R s m args below meth c T locs cells slots) (hx : p.tables.exec = Jvm.exec) (hZ : Z.Warmed39 s.vm) (eT : T.heap = h) (V : OArr Z h a .long vs) {j : Int32} {x : Int64} (i : Nat) (hj0 : ¬ j < 0) (hj : j.toNatClampNeg = i) (hi : i < vs.length) {g : JFrame} (hg : g.method = m) {rest : List Value} (hs : g.stack = .long x :: .int j :: .ref a :: rest) (hd : decode c.code g.pc = .ok (.lastore, 1)) :
    ∃ T' h', Stand p l e R s m args below meth c T' (locs ++ [⟨a, i⟩]) cells slots ∧ T'.heap = h' ∧ Wr h h' a i (.long x) ∧ OArr Z h' a .long (vs.set i (.long x)) ∧ ∀ target, Steps p.tables e below (T'.setTop { g with pc := g.pc + 1, stack := rest }) target → Steps p.tables e below (T.setTop g) target := by
  obtain ⟨cl, A, r, q⟩ := own_in V
  subst hj
  obtain ⟨T', h', X', e', W, st⟩ := stJ X hx hZ eT A (j := j) (q j hj0 hi) hg hs hd
  exact ⟨T', h', X', e', W, V.set W, st⟩
theorem own_stB (X : Stand p l e R s m args below meth c T locs cells slots) (hx : p.tables.exec = Jvm.exec) (hZ : Z.Warmed39 s.vm) (eT : T.heap = h) (V : OArr Z h a .byte vs) {j x : Int32} (i : Nat) (hj0 : ¬ j < 0) (hj : j.toNatClampNeg = i) (hi : i < vs.length) {g : JFrame} (hg : g.method = m) {rest : List Value} (hs : g.stack = .int x :: .int j :: .ref a :: rest) (hd : decode c.code g.pc = .ok (.bastore, 1)) :
    ∃ T' h', Stand p l e R s m args below meth c T' (locs ++ [⟨a, i⟩]) cells slots ∧ T'.heap = h' ∧ Wr h h' a i (.int (nar .byte x)) ∧ OArr Z h' a .byte (vs.set i (.int (nar .byte x))) ∧ ∀ target, Steps p.tables e below (T'.setTop { g with pc := g.pc + 1, stack := rest }) target → Steps p.tables e below (T.setTop g) target := by
  obtain ⟨cl, A, r, q⟩ := own_in V
  subst hj
  obtain ⟨T', h', X', e', W, st⟩ := stB X hx hZ eT A (j := j) (q j hj0 hi) hg hs hd
  exact ⟨T', h', X', e', W, V.set W, st⟩
theorem own_ldI (X : Stand p l e R s m args below meth c T locs cells slots) (hx : p.tables.exec = Jvm.exec) (hZ : Z.Warmed39 s.vm) (eT : T.heap = h) (V : OArr Z h a .int vs) {j : Int32} {v : Value} (hj0 : ¬ j < 0) (hv : vs[j.toNatClampNeg]? = some v) {g : JFrame} (hg : g.method = m) {rest : List Value} (hs : g.stack = .int j :: .ref a :: rest) (hd : decode c.code g.pc = .ok (.iaload, 1)) (target : State)
    (hr : Steps p.tables e below (T.setTop { g with pc := g.pc + 1, stack := v :: rest }) target) : Steps p.tables e below (T.setTop g) target := by
  obtain ⟨cl, A, r, q⟩ := own_in V
  exact X.iaload hx (j := j) (v := v) (by rw [eT]; exact A.1) (State.isArrayOf_alike hZ.alike A.2.1) A.2.2 (q j hj0 (List.getElem?_eq_some_iff.mp hv).1) (by rw [r]; simpa using hv) hg hs hd _ hr
theorem own_ldJ (X : Stand p l e R s m args below meth c T locs cells slots) (hx : p.tables.exec = Jvm.exec) (hZ : Z.Warmed39 s.vm) (eT : T.heap = h) (V : OArr Z h a .long vs) {j : Int32} {v : Value} (hj0 : ¬ j < 0) (hv : vs[j.toNatClampNeg]? = some v) {g : JFrame} (hg : g.method = m) {rest : List Value} (hs : g.stack = .int j :: .ref a :: rest) (hd : decode c.code g.pc = .ok (.laload, 1)) (target : State)
    (hr : Steps p.tables e below (T.setTop { g with pc := g.pc + 1, stack := v :: rest }) target) : Steps p.tables e below (T.setTop g) target := by
  obtain ⟨cl, A, r, q⟩ := own_in V
  exact X.laload hx (j := j) (v := v) (by rw [eT]; exact A.1) (State.isArrayOf_alike hZ.alike A.2.1) A.2.2 (q j hj0 (List.getElem?_eq_some_iff.mp hv).1) (by rw [r]; simpa using hv) hg hs hd _ hr
theorem own_ldB (X : Stand p l e R s m args below meth c T locs cells slots) (hx : p.tables.exec = Jvm.exec) (hZ : Z.Warmed39 s.vm) (eT : T.heap = h) (V : OArr Z h a .byte vs) {j : Int32} {v : Value} (hj0 : ¬ j < 0) (hv : vs[j.toNatClampNeg]? = some v) {g : JFrame} (hg : g.method = m) {rest : List Value} (hs : g.stack = .int j :: .ref a :: rest) (hd : decode c.code g.pc = .ok (.baload, 1)) (target : State)
    (hr : Steps p.tables e below (T.setTop { g with pc := g.pc + 1, stack := v :: rest }) target) : Steps p.tables e below (T.setTop g) target := by
  obtain ⟨cl, A, r, q⟩ := own_in V
  exact X.baloadBytes hx (j := j) (v := v) (by rw [eT]; exact A.1) (State.isArrayOf_alike hZ.alike A.2.1) A.2.2 (q j hj0 (List.getElem?_eq_some_iff.mp hv).1) (by rw [r]; simpa using hv) hg hs hd _ hr
theorem own_ldR (X : Stand p l e R s m args below meth c T locs cells slots) (hx : p.tables.exec = Jvm.exec) (hZ : Z.Warmed39 s.vm) (eT : T.heap = h) (V : OArr Z h a ty vs) (hty : ty.isReference = true) {j : Int32} {v : Value} (hj0 : ¬ j < 0) (hv : vs[j.toNatClampNeg]? = some v) {g : JFrame} (hg : g.method = m) {rest : List Value} (hs : g.stack = .int j :: .ref a :: rest) (hd : decode c.code g.pc = .ok (.aaload, 1)) (target : State)
    (hr : Steps p.tables e below (T.setTop { g with pc := g.pc + 1, stack := v :: rest }) target) : Steps p.tables e below (T.setTop g) target := by
  obtain ⟨cl, A, r, q⟩ := own_in V
  exact X.aaload hx (j := j) (v := v) (by rw [eT]; exact A.1) (State.isArrayOf_alike hZ.alike A.2.1) hty A.2.2 (q j hj0 (List.getElem?_eq_some_iff.mp hv).1) (by rw [r]; simpa using hv) hg hs hd _ hr
theorem own_len (X : Stand p l e R s m args below meth c T locs cells slots) (hx : p.tables.exec = Jvm.exec) (hZ : Z.Warmed39 s.vm) (eT : T.heap = h) (V : OArr Z h a ty vs) {n : Int32} (hn : vs.length.toInt32 = n) {g : JFrame} (hg : g.method = m) {rest : List Value} (hs : g.stack = .ref a :: rest) (hd : decode c.code g.pc = .ok (.arraylength, 1)) (target : State)
    (hr : Steps p.tables e below (T.setTop { g with pc := g.pc + 1, stack := .int n :: rest }) target) : Steps p.tables e below (T.setTop g) target := by
  obtain ⟨cl, A, r, q⟩ := own_in V
  refine X.arraylength hx (by rw [eT]; exact A.1) (State.isArrayOf_alike hZ.alike A.2.1) hg hs hd _ ?_
  rw [r]
  rw [← hn] at hr
  simpa using hr
end OwnArr
section OwnCalls
variable {p : Program} {l : Launch} {e : Env} {R : Room} {s : State} {m : MethodId} {args : Array Value} {below : List Frame} {meth : Method} {c : Code} {T : State} {locs : List Loc} {cells slots : Nat} {Z : State} {a0 : Array Value} {h : Heap} {b : Addr} {y y' : MethodName} {bytes : ByteArray} {maxL : Nat} {ret : Option FieldType} {rm : Room} {as' : List Value} {QQ : Option Value → Heap → List Loc → Prop} {own C : String} {index : Nat}
/-- an instance method of the object's own class by its contract -/
theorem own_callV (X : Stand p l e R s m args below meth c T locs cells slots) (hx : p.tables.exec = Jvm.exec) (hZ : Z.Warmed39 s.vm) (hown : s.vm.findClass own = some m.cls)
    (w1 : (Cond.methodLink own index y).before a0 Z = true) (w2 : (Cond.declares y).before a0 Z = true) (w3 : (Cond.selects C y y).before a0 Z = true) (w4 : (Cond.instanceMethod y).before a0 Z = true) (w5 : (Cond.code y bytes maxL ret).before a0 Z = true) (w6 : (Cond.initialized y.cls).before a0 Z = true) (hy : y.cls ≠ "java/lang/invoke/MethodHandle" ∧ y.cls ≠ "java/lang/invoke/VarHandle") (eT : T.heap = h) (E : Exa Z h b C)
    (hM : MetFree l y (head1 [Cond.code y bytes maxL ret] rm) (fun a U => a = (.ref b :: as').toArray ∧ Z.Warmed39 U.vm ∧ U.heap = h) (fun _ _ _ _ _ => True) (fun _ U o U' => ∃ v L, o = .returned v ∧ OQ QQ v U'.heap L ∧ FrameEnd U o U' L rm.cells rm.slots))
    (W : Nat) (hf : rm.frames + 1 ≤ R.frames) (hl : W + (maxL + 11) + rm.locals ≤ R.locals) (hc : cells + rm.cells ≤ R.cells) (hs : slots + rm.slots ≤ R.slots)
    {g : JFrame} (hg : g.method = m) (hsize : g.locals.size = c.maxLocals) {rest : List Value} (hlen : ∀ sig, parseMethodDescriptor y.desc = some sig → as'.length = sig.parameters.length) (hstack : g.stack = as'.reverse ++ .ref b :: rest) (hW : 2 * g.monitorRoom + (rest.map fun v => v.category).sum ≤ W) (hd : decode c.code g.pc = .ok (.invokevirtual index, 3)) :
    ∃ v T' L, QQ v T'.heap L ∧ Stand p l e R s m args below meth c T' (locs ++ L) (cells + rm.cells) (slots + rm.slots) ∧ ∀ target, Steps p.tables e below (T'.setTop { g with pc := g.pc + 3, stack := v.toList ++ rest }) target → Steps p.tables e below (T.setTop g) target := by
  obtain ⟨cq, kq, qa, qb, qc⟩ := isOf hZ eT E
  obtain ⟨v, _, ⟨T', L1, k1, n1⟩, -, X', ⟨L, hQ, l1, y1, z1⟩, st⟩ := X.virtualBack hx (y := y) (z := y) hown (mvT hZ w1) (mvT hZ w2) (notFace_of_selects (args := #[]) (mvT hZ w3)) (mvT hZ w3) (mvT hZ w4) hy (backOf (W := W) (Q := OQ QQ) hM hZ w5 w6 hf hl) qa qc (g := g) hg hsize (Steps.refl _) (argsL := as') (rest := rest) hlen hstack hW hd (fun _ _ => ⟨rfl, eT, hc, hs⟩)
  dsimp only [Pt.U, Pt.locs, Pt.cells, Pt.slots] at X' l1 y1 z1 st hQ
  subst l1 y1 z1
  exact ⟨v, T', L, hQ, X', fun _ k => st.trans k⟩
/-- a constructor by its contract -/
theorem own_callN (X : Stand p l e R s m args below meth c T locs cells slots) (hx : p.tables.exec = Jvm.exec) (hZ : Z.Warmed39 s.vm) (hown : s.vm.findClass own = some m.cls) (hy1 : y.name = "<init>")
    (w1 : (Cond.methodLink own index y).before a0 Z = true) (w4 : (Cond.instanceMethod y).before a0 Z = true) (w5 : (Cond.code y bytes maxL none).before a0 Z = true) (w6 : (Cond.initialized y.cls).before a0 Z = true) (hy : y.cls ≠ "java/lang/invoke/MethodHandle" ∧ y.cls ≠ "java/lang/invoke/VarHandle") (eT : T.heap = h)
    (hM : MetFree l y (head1 [Cond.code y bytes maxL none] rm) (fun a U => a = (.ref b :: as').toArray ∧ Z.Warmed39 U.vm ∧ U.heap = h) (fun _ _ _ _ _ => True) (fun _ U o U' => ∃ v L, o = .returned v ∧ OQ QQ v U'.heap L ∧ FrameEnd U o U' L rm.cells rm.slots))
    (W : Nat) (hf : rm.frames + 1 ≤ R.frames) (hl : W + (maxL + 11) + rm.locals ≤ R.locals) (hc : cells + rm.cells ≤ R.cells) (hs : slots + rm.slots ≤ R.slots)
    {g : JFrame} (hg : g.method = m) (hsize : g.locals.size = c.maxLocals) {rest : List Value} (hlen : ∀ sig, parseMethodDescriptor y.desc = some sig → as'.length = sig.parameters.length) (hstack : g.stack = as'.reverse ++ .ref b :: rest) (hW : 2 * g.monitorRoom + (rest.map fun v => v.category).sum ≤ W) (hd : decode c.code g.pc = .ok (.invokespecial index, 3)) :
    ∃ v T' L, QQ v T'.heap L ∧ Stand p l e R s m args below meth c T' (locs ++ L) (cells + rm.cells) (slots + rm.slots) ∧ ∀ target, Steps p.tables e below (T'.setTop { g with pc := g.pc + 3, stack := v.toList ++ rest }) target → Steps p.tables e below (T.setTop g) target := by
  obtain ⟨v, _, ⟨T', L1, k1, n1⟩, -, X', ⟨L, hQ, l1, y1, z1⟩, st⟩ := X.specialBack hx (y := y) hy1 hown (mvT hZ w1) (mvT hZ w4) (mvT hZ w5) hy (backOf (W := W) (Q := OQ QQ) hM hZ w5 w6 hf hl) (g := g) hg hsize (Steps.refl _) (a := b) (argsL := as') (rest := rest) hlen hstack hW hd (fun _ _ => ⟨rfl, eT, hc, hs⟩)
  dsimp only [Pt.U, Pt.locs, Pt.cells, Pt.slots] at X' l1 y1 z1 st hQ
  subst l1 y1 z1
  exact ⟨v, T', L, hQ, X', fun _ k => st.trans k⟩
/-- a private method is what its own class selects (by another method's word the class is no interface) -/
theorem own_selP (hZ : Z.Warmed39 s.vm) (w3 : (Cond.selects C y' y').before a0 Z = true) (hc : y'.cls = y.cls) (wp : (Cond.privateMethod y).before a0 Z = true) (wi : (Cond.instanceMethod y).before a0 Z = true) (hy : y.cls ≠ "java/lang/invoke/MethodHandle" ∧ y.cls ≠ "java/lang/invoke/VarHandle") : (Cond.selects y.cls y y).before args s = true := by
  have ws : (Cond.selects C y' y').before args s = true := mvT hZ w3
  obtain ⟨c2, r2, m2, -, -, q3, -, kP, hkP, hkPi⟩ := Cond.selects_spec ws
  exact selects_self_of_private (c := m2.cls) (k := kP) (by rw [← hc]; exact findClass_of_methodNamed q3) hkP hkPi (Cond.privateMethod_at (mvP hZ wp (args := #[]))) (mvT hZ wi) hy
/-- a private method by its contract -/
theorem own_callP (X : Stand p l e R s m args below meth c T locs cells slots) (hx : p.tables.exec = Jvm.exec) (hZ : Z.Warmed39 s.vm) (hown : s.vm.findClass own = some m.cls)
    (w1 : (Cond.methodLink own index y).before a0 Z = true) (hsel : (Cond.selects y.cls y y).before args s = true) (wp : (Cond.privateMethod y).before a0 Z = true) (w4 : (Cond.instanceMethod y).before a0 Z = true) (w5 : (Cond.code y bytes maxL ret).before a0 Z = true) (w6 : (Cond.initialized y.cls).before a0 Z = true) (hy : y.cls ≠ "java/lang/invoke/MethodHandle" ∧ y.cls ≠ "java/lang/invoke/VarHandle") (eT : T.heap = h) (E : Exa Z h b C)
    (hM : MetFree l y (head1 [Cond.code y bytes maxL ret] rm) (fun a U => a = (.ref b :: as').toArray ∧ Z.Warmed39 U.vm ∧ U.heap = h) (fun _ _ _ _ _ => True) (fun _ U o U' => ∃ v L, o = .returned v ∧ OQ QQ v U'.heap L ∧ FrameEnd U o U' L rm.cells rm.slots))
    (W : Nat) (hf : rm.frames + 1 ≤ R.frames) (hl : W + (maxL + 11) + rm.locals ≤ R.locals) (hc : cells + rm.cells ≤ R.cells) (hs : slots + rm.slots ≤ R.slots)
    {g : JFrame} (hg : g.method = m) (hsize : g.locals.size = c.maxLocals) {rest : List Value} (hlen : ∀ sig, parseMethodDescriptor y.desc = some sig → as'.length = sig.parameters.length) (hstack : g.stack = as'.reverse ++ .ref b :: rest) (hW : 2 * g.monitorRoom + (rest.map fun v => v.category).sum ≤ W) (hd : decode c.code g.pc = .ok (.invokevirtual index, 3)) :
    ∃ v T' L, QQ v T'.heap L ∧ Stand p l e R s m args below meth c T' (locs ++ L) (cells + rm.cells) (slots + rm.slots) ∧ ∀ target, Steps p.tables e below (T'.setTop { g with pc := g.pc + 3, stack := v.toList ++ rest }) target → Steps p.tables e below (T.setTop g) target := by
  obtain ⟨cq, q1, q2⟩ := E.cell
  obtain ⟨v, _, ⟨T', L1, k1, n1⟩, -, X', ⟨L, hQ, l1, y1, z1⟩, st⟩ := X.privateBack hx (y := y) hown (mvT hZ w1) (mvT hZ w4) hsel (Cond.privateMethod_at (mvP hZ wp (args := #[]))) (mvT hZ w5) hy (backOf (W := W) (Q := OQ QQ) hM hZ w5 w6 hf hl) (g := g) hg hsize (Steps.refl _) (a := b) (by rw [eT]; exact q1) q2 (argsL := as') (rest := rest) hlen hstack hW hd (fun _ _ => ⟨rfl, eT, hc, hs⟩)
  dsimp only [Pt.U, Pt.locs, Pt.cells, Pt.slots] at X' l1 y1 z1 st hQ
  subst l1 y1 z1
  exact ⟨v, T', L, hQ, X', fun _ k => st.trans k⟩
end OwnCalls
section OwnFn
variable {Z : State} {h h' : Heap} {a b : Addr} {ty : FieldType} {n i j : Nat} {v : Value} {f : Nat → Value}
theorem own_rset (n i : Nat) (f : Nat → Value) (v : Value) : ((List.range n).map f).set i v = (List.range n).map (fun j => if j = i then v else f j) := by
  apply List.ext_getElem
  · simp
  · intro j h1 h2
    simp only [List.getElem_set, List.getElem_map, List.getElem_range]
    by_cases q : i = j
    · subst q; simp
    · rw [if_neg q, if_neg (fun r => q r.symm)]
theorem own_rat (f : Nat → Value) (h : j < n) : ((List.range n).map f)[j]? = some (f j) := by simp [h]
theorem own_rep (n : Nat) (v : Value) : List.replicate n v = (List.range n).map (fun _ => v) := by
  apply List.ext_getElem
  · simp
  · intro j h1 h2; simp
/-- the array at a has n places; place j holds f j -/
def OFn (Z : State) (h : Heap) (a : Addr) (ty : FieldType) (n : Nat) (f : Nat → Value) : Prop := OArr Z h a ty ((List.range n).map f)
theorem OFn.set (V : OFn Z h a ty n f) (W : Wr h h' a i v) : OFn Z h' a ty n (fun j => if j = i then v else f j) := by
  have q := OArr.set V W
  rw [own_rset] at q
  exact q
theorem OFn.lt (V : OFn Z h a ty n f) : a < h.size := OArr.lt V
theorem OFn.ext (V : OFn Z h a ty n f) (E : Ext h h') : OFn Z h' a ty n f := OArr.ext V E
theorem OFn.other (V : OFn Z h b ty n f) (W : Wr h h' a i v) (q : b ≠ a) : OFn Z h' b ty n f := OArr.other V W q
theorem OFn.keep {ws : List Addr} (V : OFn Z h a ty n f) (K : Keep h h' ws) (q : a ∉ ws) : OFn Z h' a ty n f := OArr.keep V K q
theorem own_rlen (f : Nat → Value) : ((List.range n).map f).length = n := by simp
theorem own_ix (k : Nat) (hk : k < 1000000) : ¬ Int32.ofNat k < 0 ∧ (Int32.ofNat k).toNatClampNeg = k := by
  have h1 : (Int32.ofNat k).toInt = k := Int32.toInt_ofNat_small (by omega)
  have h2 : (Int32.ofNat k).toNatClampNeg = (Int32.ofNat k).toInt.toNat := rfl
  have h0 : (0 : Int32).toInt = 0 := rfl
  rw [Int32.lt_iff_toInt_lt, h2]
  omega
theorem own_ofAdd (a b : Nat) : Int32.ofNat a + Int32.ofNat b = Int32.ofNat (a + b) := (Int32.ofNat_add a b).symm
theorem own_ofLt (a b : Nat) (ha : a < 2 ^ 31) (hb : b < 2 ^ 31) : Int32.ofNat a < Int32.ofNat b ↔ a < b := by
  rw [Int32.lt_iff_toInt_lt, Int32.toInt_ofNat_small ha, Int32.toInt_ofNat_small hb]
  omega
theorem own_ofEq (a b : Nat) (ha : a < 2 ^ 31) (hb : b < 2 ^ 31) : Int32.ofNat a = Int32.ofNat b ↔ a = b := by
  constructor
  · intro h
    have h1 := congrArg Int32.toInt h
    rw [Int32.toInt_ofNat_small ha, Int32.toInt_ofNat_small hb] at h1
    omega
  · rintro rfl; rfl
theorem own_low (x m : Int32) (k : Nat) (hk : k ≤ 31) (hm : m.toBitVec.toNat = 2 ^ k - 1) : ∃ j : Nat, j < 2 ^ k ∧ (x &&& m) = Int32.ofNat j := by
  have h := c_mask x m k hk hm
  have hp : (0 : Int) < ((2 ^ k : Nat) : Int) := Int.ofNat_lt.mpr (Nat.two_pow_pos k)
  have h1 := Int.emod_nonneg x.toInt (Int.ne_of_gt hp)
  have h2 := Int.emod_lt_of_pos x.toInt hp
  have h3 : (2 ^ k : Nat) ≤ 2 ^ 31 := Nat.pow_le_pow_right (by decide) hk
  refine ⟨(x &&& m).toInt.toNat, by omega, ?_⟩
  apply Int32.toInt_inj.mp
  rw [Int32.toInt_ofNat_small (by omega)]
  omega
end OwnFn
section OwnArv
variable {Z : State} {h h' : Heap} {a o : Addr} {n : Nat} {f : Nat → Int32} {ty : FieldType} {C : String} {a0 : Array Value} {kk : Nat} {fv : Nat → Value}
theorem own_toArv (V : OFn Z h a .int n (fun j => .int (f j))) (hn : n < 1000000) : ∃ k, Arv Z h a k .int (Int32.ofNat n) ((List.range n).map (fun j => Value.int (f j))) (.int 0) := by
  obtain ⟨cl, A, r⟩ := V
  have q := own_ix n hn
  have sz : cl.slots.size = n := by rw [r]; simp
  refine ⟨cl.cls, cl, A, rfl, by rw [q.2, sz], q.1, fun j hj => ?_, fun j hj => ?_⟩
  · rw [sz] at hj
    rw [r]
    simp [List.getD_eq_getElem?_getD, hj]
  · rw [sz] at hj
    simp [List.getD_eq_getElem?_getD, hj, fits]
theorem own_ofArv {k : ClassId} {vs : List Value} {d : Value} (A : Arv Z h a k ty (Int32.ofNat n) vs d) (hn : n < 1000000) (hf : ∀ j, j < n → vs.getD j d = fv j) : OFn Z h a ty n fv := by
  obtain ⟨cl, A, -, S, -, H, -⟩ := A
  have q := own_ix n hn
  rw [q.2] at S
  refine ⟨cl, A, ?_⟩
  apply Array.ext
  · simp [S]
  · intro j h1 h2
    have h3 : j < n := by rw [← S]; exact h1
    have h4 := H j h1
    rw [hf j h3, Array.getElem?_eq_getElem h1] at h4
    simpa using Option.some.inj h4
theorem own_neVO (E : Exa Z h o C) (wi : (Cond.instantiable C kk).before a0 Z = true) (V : OFn Z h a ty n fv) : a ≠ o := by
  obtain ⟨cl, A, -⟩ := V
  exact (ne_arr E wi A).symm
end OwnArv
section OwnSel
variable {Z s : State} {a0 args : Array Value} {y : MethodName} {k : Nat}
theorem own_selI (hZ : Z.Warmed39 s.vm) (wi : (Cond.instantiable y.cls k).before a0 Z = true) (wp : (Cond.privateMethod y).before a0 Z = true) (wm : (Cond.instanceMethod y).before a0 Z = true) (hy : y.cls ≠ "java/lang/invoke/MethodHandle" ∧ y.cls ≠ "java/lang/invoke/VarHandle") : (Cond.selects y.cls y y).before args s = true := by
  have ws : (Cond.instantiable y.cls k).before args s = true := mvT hZ wi
  obtain ⟨c, kc, h1, h2, -, h4, -⟩ := Cond.instantiable_spec ws
  simp only [Bool.or_eq_false_iff] at h4
  exact selects_self_of_private h1 h2 h4.1 (Cond.privateMethod_at (mvP hZ wp (args := #[]))) (mvT hZ wm) hy
variable {p : Program} {l : Launch} {e : Env} {R : Room} {m : MethodId} {below : List Frame} {meth : Method} {c : Code} {T : State} {locs : List Loc} {cells slots : Nat} {h : Heap} {a : Addr} {vs : List Value}
theorem own_stZ (X : Stand p l e R s m args below meth c T locs cells slots) (hx : p.tables.exec = Jvm.exec) (hZ : Z.Warmed39 s.vm) (eT : T.heap = h) (V : OArr Z h a .boolean vs) {j x : Int32} (i : Nat) (hj0 : ¬ j < 0) (hj : j.toNatClampNeg = i) (hi : i < vs.length) {g : JFrame} (hg : g.method = m) {rest : List Value} (hs : g.stack = .int x :: .int j :: .ref a :: rest) (hd : decode c.code g.pc = .ok (.bastore, 1)) :
    ∃ T' h', Stand p l e R s m args below meth c T' (locs ++ [⟨a, i⟩]) cells slots ∧ T'.heap = h' ∧ Wr h h' a i (.int (nar .boolean x)) ∧ OArr Z h' a .boolean (vs.set i (.int (nar .boolean x))) ∧ ∀ target, Steps p.tables e below (T'.setTop { g with pc := g.pc + 1, stack := rest }) target → Steps p.tables e below (T.setTop g) target := by
  obtain ⟨cl, A, r, q⟩ := own_in V
  subst hj
  obtain ⟨T', h', X', e', W, st⟩ := stZ X hx hZ eT A (j := j) (q j hj0 hi) hg hs hd
  exact ⟨T', h', X', e', W, V.set W, st⟩
end OwnSel
theorem pd_0 : parseMethodDescriptor "(I)I" = some ⟨[.int], some .int⟩ := by decide +kernel
theorem pd_1 : parseMethodDescriptor "()V" = some ⟨[], none⟩ := by decide +kernel
theorem pd_2 : parseMethodDescriptor "(II)I" = some ⟨[.int, .int], some .int⟩ := by decide +kernel
theorem pd_3 : parseMethodDescriptor "(I)V" = some ⟨[.int], none⟩ := by decide +kernel
theorem pd_4 : parseMethodDescriptor "(II)J" = some ⟨[.int, .int], some .long⟩ := by decide +kernel
theorem pd_5 : parseMethodDescriptor "(III)V" = some ⟨[.int, .int, .int], none⟩ := by decide +kernel
theorem pd_6 : parseMethodDescriptor "([II)V" = some ⟨[(.array .int), .int], none⟩ := by decide +kernel
theorem pd_7 : parseMethodDescriptor "(Lcom/example/fixpoint_checker/fixpointchecker/bdd/DecisionDiagrams;)V" = some ⟨[(.object "com/example/fixpoint_checker/fixpointchecker/bdd/DecisionDiagrams")], none⟩ := by decide +kernel
theorem pd_8 : parseMethodDescriptor "(IIII)V" = some ⟨[.int, .int, .int, .int], none⟩ := by decide +kernel
theorem pd_9 : parseMethodDescriptor "(II)V" = some ⟨[.int, .int], none⟩ := by decide +kernel
theorem pd_10 : parseMethodDescriptor "(I)[I" = some ⟨[.int], some (.array .int)⟩ := by decide +kernel
theorem pd_11 : parseMethodDescriptor "()I" = some ⟨[], some .int⟩ := by decide +kernel
def own_key (N : Nat) (a b : Int32) : Nat → Int64
  | 0 => 0
  | i + 1 => (((own_key N a b i) <<< ((2 : Int32) &&& 0x3f).toInt64) ||| (((((a.toUInt32 >>> ((((Int32.ofNat N) - (1 : Int32)) - (Int32.ofNat i)) &&& 31).toUInt32).toInt32) &&& (1 : Int32)).toInt64) <<< ((1 : Int32) &&& 0x3f).toInt64)) ||| (((((b.toUInt32 >>> ((((Int32.ofNat N) - (1 : Int32)) - (Int32.ofNat i)) &&& 31).toUInt32).toInt32) &&& (1 : Int32)).toInt64))
theorem own_nb (sc : Int32) (h : 1 ≤ sc.toInt) : ∃ N : Nat, N ≤ 31 ∧ sc.toInt ≤ ((2 ^ N : Nat) : Int) ∧ ∀ b : Nat, b < N → ((2 ^ b : Nat) : Int) < sc.toInt := by
  have key : ∀ n : Nat, sc.toInt ≤ ((2 ^ n : Nat) : Int) → ∃ N : Nat, N ≤ n ∧ sc.toInt ≤ ((2 ^ N : Nat) : Int) ∧ ∀ b : Nat, b < N → ((2 ^ b : Nat) : Int) < sc.toInt := by
    intro n
    induction n with
    | zero => intro q; exact ⟨0, Nat.le_refl _, q, fun b hb => absurd hb (Nat.not_lt_zero _)⟩
    | succ n ih =>
      intro q
      by_cases c : sc.toInt ≤ ((2 ^ n : Nat) : Int)
      · obtain ⟨N, h1, h2, h3⟩ := ih c
        exact ⟨N, by omega, h2, h3⟩
      · refine ⟨n + 1, Nat.le_refl _, q, fun b hb => ?_⟩
        have h4 : (2 ^ b : Nat) ≤ 2 ^ n := Nat.pow_le_pow_right (by decide) (by omega)
        omega
  have r := rng32 sc
  exact key 31 (by have : (2 ^ 31 : Nat) = 2147483648 := by decide
                   omega)
theorem own_nlt1 (sc : Int32) (h : 1 ≤ sc.toInt) : ¬ sc < (1 : Int32) := by
  rw [Int32.lt_iff_toInt_lt]
  have : (1 : Int32).toInt = 1 := rfl
  omega
theorem own_pwF : ∀ i : Fin 32, ((1 : Int64) <<< ((Int32.ofNat i.1) &&& 0x3f).toInt64).toInt = ((2 ^ i.1 : Nat) : Int) := by decide +kernel
theorem own_pw (i : Nat) (h : i ≤ 31) : ((1 : Int64) <<< ((Int32.ofNat i) &&& 0x3f).toInt64).toInt = ((2 ^ i : Nat) : Int) := own_pwF ⟨i, by omega⟩
theorem own_pwlt (i : Nat) {N : Nat} (sc : Int32) (hN : N ≤ 31) (hi : i < N) (h : ((2 ^ i : Nat) : Int) < sc.toInt) : ((1 : Int64) <<< ((Int32.ofNat i) &&& 0x3f).toInt64) < (sc.toInt64) := by
  rw [Int64.lt_iff_toInt_lt, own_pw i (by omega), c_i2l]; exact h
theorem own_pwge (i : Nat) (sc : Int32) (hi : i ≤ 31) (h : sc.toInt ≤ ((2 ^ i : Nat) : Int)) : ¬ ((1 : Int64) <<< ((Int32.ofNat i) &&& 0x3f).toInt64) < (sc.toInt64) := by
  rw [Int64.lt_iff_toInt_lt, own_pw i hi, c_i2l]; omega
theorem own_lcF : ∀ i : Fin 32, (((2 : Int64) * ((Int32.ofNat i.1).toInt64)) * ((1 : Int32).toInt64)) = Int64.ofNat (2 * i.1) ∧ ¬ (2147483647 : Int64) < Int64.ofNat (2 * i.1) ∧ (Int64.ofNat (2 * i.1)).toInt32 = Int32.ofNat (2 * i.1) ∧ (Int64.ofNat (2 * i.1)).toInt = 2 * (i.1 : Int) := by decide +kernel
theorem own_lc (i : Nat) (h : i ≤ 31) : (((2 : Int64) * ((Int32.ofNat i).toInt64)) * ((1 : Int32).toInt64)) = Int64.ofNat (2 * i) := (own_lcF ⟨i, by omega⟩).1
theorem own_lcle (i : Nat) (h : i ≤ 31) : ¬ (2147483647 : Int64) < Int64.ofNat (2 * i) := (own_lcF ⟨i, by omega⟩).2.1
theorem own_lci (i : Nat) (h : i ≤ 31) : (Int64.ofNat (2 * i)).toInt32 = Int32.ofNat (2 * i) := (own_lcF ⟨i, by omega⟩).2.2.1
theorem own_lcI (i : Nat) (h : i ≤ 31) : (Int64.ofNat (2 * i)).toInt = 2 * (i : Int) := (own_lcF ⟨i, by omega⟩).2.2.2
theorem own_lvlt (i j : Nat) (hi : i ≤ 31) (hj : j < i) : ((Int32.ofNat (2 * j)).toInt64) < (Int64.ofNat (2 * i)) := by
  rw [Int64.lt_iff_toInt_lt, own_lcI i hi, c_i2l, Int32.toInt_ofNat_small (by omega)]; omega
theorem own_lvge (j : Nat) (hj : j ≤ 31) : ¬ ((Int32.ofNat (2 * j)).toInt64) < (Int64.ofNat (2 * j)) := by
  rw [Int64.lt_iff_toInt_lt, own_lcI j hj, c_i2l, Int32.toInt_ofNat_small (by omega)]; omega
theorem d1_0 : decode jdk_29_method_65_code 0 = .ok (.iload_n 0, 1) := by decide +kernel
theorem d1_1 : decode jdk_29_method_65_code 1 = .ok (.iload_n 1, 1) := by decide +kernel
theorem d1_2 : decode jdk_29_method_65_code 2 = .ok (.if_icmp .lt 7, 3) := by decide +kernel
theorem d1_5 : decode jdk_29_method_65_code 5 = .ok (.iload_n 0, 1) := by decide +kernel
theorem d1_6 : decode jdk_29_method_65_code 6 = .ok (.goto 4, 3) := by decide +kernel
theorem d1_9 : decode jdk_29_method_65_code 9 = .ok (.iload_n 1, 1) := by decide +kernel
theorem d1_10 : decode jdk_29_method_65_code 10 = .ok (.ireturn, 1) := by decide +kernel
def f1_10 (i0 : Int32) (i1 : Int32) (t0 : Int32) : Int32 := t0
def f1_0 (p0 : Int32) (p1 : Int32) : Int32 := (if p0 < p1 then (f1_10 p0 p1 p1) else (f1_10 p0 p1 p0))
set_option maxRecDepth 65536 in
set_option maxHeartbeats 40000000 in
theorem ro1_0 {p : Program} {l : Launch} {e : Env} {s : State} {m : MethodId} {args : Array Value} {below : List Frame} {meth : Method} {c : Code} {T : State} {locs : List Loc} {cells slots : Nat} {Z : State} {a0 : Array Value} {h : Heap} {ce sl : Nat} {Q : Option Value → Heap → List Loc → Prop} (p0 : Int32) (p1 : Int32)
    (X : Stand p l e ({ frames := 0, cells := 0, slots := 0, locals := 0 } : Room) s m args below meth c T locs cells slots) (hx : p.tables.exec = Jvm.exec) (hZ : Z.Warmed39 s.vm) (hw : ∀ d ∈ tables_1, d.before a0 Z = true) (hby : c.code = jdk_29_method_65_code) (hml : c.maxLocals = 2) (hown : s.vm.findClass "java/lang/Math" = some m.cls) (hret : meth.sig.returnType = some .int) (hlk : meth.locks = false) (eT : T.heap = h) (hc : cells ≤ ce) (hs : slots ≤ sl) (hcR : cells ≤ (({ frames := 0, cells := 0, slots := 0, locals := 0 } : Room)).cells) (hsR : slots ≤ (({ frames := 0, cells := 0, slots := 0, locals := 0 } : Room)).slots)
    (hQ : Q (some (.int (f1_0 p0 p1))) h locs) : OFin p e below s ce sl Q (T.setTop (mkF m 0 #[.val (.int p0), .val (.int p1)] [])) := by
  obtain ⟨r, hr0⟩ : ∃ r, f1_0 p0 p1 = r := ⟨_, rfl⟩
  rw [hr0] at hQ
  have B10 : ∀ (T : State) (i0 : Int32) (i1 : Int32) (t0 : Int32), Stand p l e ({ frames := 0, cells := 0, slots := 0, locals := 0 } : Room) s m args below meth c T locs cells slots → T.heap = h → f1_10 i0 i1 t0 = r → OFin p e below s ce sl Q (T.setTop (mkF m 10 #[.val (.int i0), .val (.int i1)] [(.int t0)])) := by
    intro T i0 i1 t0 X eT hr
    exact OFin.retI X hx hret hlk (hb hby d1_10) hc hs (own_q hr eT hQ)
  have B0 : ∀ (T : State) , Stand p l e ({ frames := 0, cells := 0, slots := 0, locals := 0 } : Room) s m args below meth c T locs cells slots → T.heap = h → f1_0 p0 p1 = r → OFin p e below s ce sl Q (T.setTop (mkF m 0 #[.val (.int p0), .val (.int p1)] [])) := by
    intro T  X eT hr
    refine OFin.to (T.setTop (mkF m 1 #[.val (.int p0), .val (.int p1)] [(.int p0)])) (fun _ kt => XS.iloadN X.here hx rfl (hb hby d1_0) rfl kt) ?_
    refine OFin.to (T.setTop (mkF m 2 #[.val (.int p0), .val (.int p1)] [(.int p1), (.int p0)])) (fun _ kt => XS.iloadN X.here hx rfl (hb hby d1_1) rfl kt) ?_
    by_cases hc2 : p0 < p1
    · have hr := (if_pos hc2).symm.trans hr
      refine OFin.to (T.setTop (mkF m 9 #[.val (.int p0), .val (.int p1)] [])) (fun _ kt => XS.icmpYes X.here hx rfl (pc0 := 2) (pc' := 9) rfl (hb hby d1_2) rfl (XT.ii_lt_t hc2) (by decide) (by decide) kt) ?_
      refine OFin.to (T.setTop (mkF m 10 #[.val (.int p0), .val (.int p1)] [(.int p1)])) (fun _ kt => XS.iloadN X.here hx rfl (hb hby d1_9) rfl kt) ?_
      exact B10 T p0 p1 p1 X eT hr
    · have hr := (if_neg hc2).symm.trans hr
      refine OFin.to (T.setTop (mkF m 5 #[.val (.int p0), .val (.int p1)] [])) (fun _ kt => XS.icmpNo X.here hx rfl (hb hby d1_2) rfl (XT.ii_lt_f hc2) kt) ?_
      refine OFin.to (T.setTop (mkF m 6 #[.val (.int p0), .val (.int p1)] [(.int p0)])) (fun _ kt => XS.iloadN X.here hx rfl (hb hby d1_5) rfl kt) ?_
      refine OFin.to (T.setTop (mkF m 10 #[.val (.int p0), .val (.int p1)] [(.int p0)])) (fun _ kt => XS.goto X.here hx rfl (pc0 := 6) (pc' := 10) rfl (hb hby d1_6) (by decide) (by decide) kt) ?_
      exact B10 T p0 p1 p0 X eT hr
  exact B0 T X eT hr0
theorem ef_1 (m : MethodId) (p0 : Int32) (p1 : Int32) : entryFrame m #[(.int p0), (.int p1)] 2 = mkF m 0 #[.val (.int p0), .val (.int p1)] [] := by first | (simp [entryFrame, mkF, argsToLocals, Value.category]; done) | rfl
set_option maxRecDepth 65536 in
set_option maxHeartbeats 40000000 in
theorem rm1 (l : Launch) (Z : State) (a0 : Array Value) (hw : ∀ d ∈ tables_1, d.before a0 Z = true) (ws : List Jvm.Cond) (p0 : Int32) (p1 : Int32) (h0 : Heap) :
    MetFree l (⟨"java/lang/Math", "max", "(II)I"⟩ : MethodName) (head1 (Jvm.Cond.code (⟨"java/lang/Math", "max", "(II)I"⟩ : MethodName) jdk_29_method_65_code 2 (some .int) :: ws) ({ frames := 0, cells := 0, slots := 0, locals := 0 } : Room)) (fun a_ U => a_ = #[(.int p0), (.int p1)] ∧ Z.Warmed39 U.vm ∧ U.heap = h0) (fun _ _ _ _ _ => True) (fun _ U o_ U' => ∃ v L, o_ = .returned v ∧ OQ (fun v h L => v = some (.int (f1_0 p0 p1)) ∧ h = h0 ∧ L = []) v U'.heap L ∧ FrameEnd U o_ U' L ({ frames := 0, cells := 0, slots := 0, locals := 0 } : Room).cells ({ frames := 0, cells := 0, slots := 0, locals := 0 } : Room).slots) := by
  refine MetFree.of_bodySF (Jvm.Free.JP.mathPlain rfl (by decide +kernel)) hisR ?_
  intro p e s m args below meth c s₁ Bd hml0 hP hK
  obtain ⟨rfl, hZ, hh⟩ := hP
  have hx := Bd.exec
  have hby := Bd.bytes
  have hml : c.maxLocals = 2 := hml0
  have hown : s.vm.findClass "java/lang/Math" = some m.cls := findClass_of_methodNamed Bd.named
  have hnm := (name_of_methodNamed Bd.named Bd.method).1
  have hret := Bd.returns
  have hlk : meth.locks = false := Bd.notSynchronized
  have X0 : Stand p l e ({ frames := 0, cells := 0, slots := 0, locals := 0 } : Room) s m #[(.int p0), (.int p1)] below meth c s₁ [] 0 0 := Stand.of_body Bd
  have e0 : s₁.heap = h0 := by rw [← hh, Bd.state]; rfl
  refine OFin.start (Q := fun v h L => v = some (.int (f1_0 p0 p1)) ∧ h = h0 ∧ L = []) (s := s) (fun t kt => castTop (ef_1 m p0 p1) kt) ?_
  exact ro1_0 p0 p1 X0 hx hZ hw hby hml hown hret hlk e0 (Nat.zero_le _) (Nat.zero_le _) (Nat.zero_le _) (Nat.zero_le _)  ⟨rfl, rfl, rfl⟩
theorem d20_0 : decode jdk_29_method_69_code 0 = .ok (.iload_n 0, 1) := by decide +kernel
theorem d20_1 : decode jdk_29_method_69_code 1 = .ok (.iload_n 1, 1) := by decide +kernel
theorem d20_2 : decode jdk_29_method_69_code 2 = .ok (.if_icmp .gt 7, 3) := by decide +kernel
theorem d20_5 : decode jdk_29_method_69_code 5 = .ok (.iload_n 0, 1) := by decide +kernel
theorem d20_6 : decode jdk_29_method_69_code 6 = .ok (.goto 4, 3) := by decide +kernel
theorem d20_9 : decode jdk_29_method_69_code 9 = .ok (.iload_n 1, 1) := by decide +kernel
theorem d20_10 : decode jdk_29_method_69_code 10 = .ok (.ireturn, 1) := by decide +kernel
def f20_10 (i0 : Int32) (i1 : Int32) (t0 : Int32) : Int32 := t0
def f20_0 (p0 : Int32) (p1 : Int32) : Int32 := (if p1 < p0 then (f20_10 p0 p1 p1) else (f20_10 p0 p1 p0))
set_option maxRecDepth 65536 in
set_option maxHeartbeats 40000000 in
theorem ro20_0 {p : Program} {l : Launch} {e : Env} {s : State} {m : MethodId} {args : Array Value} {below : List Frame} {meth : Method} {c : Code} {T : State} {locs : List Loc} {cells slots : Nat} {Z : State} {a0 : Array Value} {h : Heap} {ce sl : Nat} {Q : Option Value → Heap → List Loc → Prop} (p0 : Int32) (p1 : Int32)
    (X : Stand p l e ({ frames := 0, cells := 0, slots := 0, locals := 0 } : Room) s m args below meth c T locs cells slots) (hx : p.tables.exec = Jvm.exec) (hZ : Z.Warmed39 s.vm) (hw : ∀ d ∈ tables_1, d.before a0 Z = true) (hby : c.code = jdk_29_method_69_code) (hml : c.maxLocals = 2) (hown : s.vm.findClass "java/lang/Math" = some m.cls) (hret : meth.sig.returnType = some .int) (hlk : meth.locks = false) (eT : T.heap = h) (hc : cells ≤ ce) (hs : slots ≤ sl) (hcR : cells ≤ (({ frames := 0, cells := 0, slots := 0, locals := 0 } : Room)).cells) (hsR : slots ≤ (({ frames := 0, cells := 0, slots := 0, locals := 0 } : Room)).slots)
    (hQ : Q (some (.int (f20_0 p0 p1))) h locs) : OFin p e below s ce sl Q (T.setTop (mkF m 0 #[.val (.int p0), .val (.int p1)] [])) := by
  obtain ⟨r, hr0⟩ : ∃ r, f20_0 p0 p1 = r := ⟨_, rfl⟩
  rw [hr0] at hQ
  have B10 : ∀ (T : State) (i0 : Int32) (i1 : Int32) (t0 : Int32), Stand p l e ({ frames := 0, cells := 0, slots := 0, locals := 0 } : Room) s m args below meth c T locs cells slots → T.heap = h → f20_10 i0 i1 t0 = r → OFin p e below s ce sl Q (T.setTop (mkF m 10 #[.val (.int i0), .val (.int i1)] [(.int t0)])) := by
    intro T i0 i1 t0 X eT hr
    exact OFin.retI X hx hret hlk (hb hby d20_10) hc hs (own_q hr eT hQ)
  have B0 : ∀ (T : State) , Stand p l e ({ frames := 0, cells := 0, slots := 0, locals := 0 } : Room) s m args below meth c T locs cells slots → T.heap = h → f20_0 p0 p1 = r → OFin p e below s ce sl Q (T.setTop (mkF m 0 #[.val (.int p0), .val (.int p1)] [])) := by
    intro T  X eT hr
    refine OFin.to (T.setTop (mkF m 1 #[.val (.int p0), .val (.int p1)] [(.int p0)])) (fun _ kt => XS.iloadN X.here hx rfl (hb hby d20_0) rfl kt) ?_
    refine OFin.to (T.setTop (mkF m 2 #[.val (.int p0), .val (.int p1)] [(.int p1), (.int p0)])) (fun _ kt => XS.iloadN X.here hx rfl (hb hby d20_1) rfl kt) ?_
    by_cases hc2 : p1 < p0
    · have hr := (if_pos hc2).symm.trans hr
      refine OFin.to (T.setTop (mkF m 9 #[.val (.int p0), .val (.int p1)] [])) (fun _ kt => XS.icmpYes X.here hx rfl (pc0 := 2) (pc' := 9) rfl (hb hby d20_2) rfl (XT.ii_gt_t hc2) (by decide) (by decide) kt) ?_
      refine OFin.to (T.setTop (mkF m 10 #[.val (.int p0), .val (.int p1)] [(.int p1)])) (fun _ kt => XS.iloadN X.here hx rfl (hb hby d20_9) rfl kt) ?_
      exact B10 T p0 p1 p1 X eT hr
    · have hr := (if_neg hc2).symm.trans hr
      refine OFin.to (T.setTop (mkF m 5 #[.val (.int p0), .val (.int p1)] [])) (fun _ kt => XS.icmpNo X.here hx rfl (hb hby d20_2) rfl (XT.ii_gt_f hc2) kt) ?_
      refine OFin.to (T.setTop (mkF m 6 #[.val (.int p0), .val (.int p1)] [(.int p0)])) (fun _ kt => XS.iloadN X.here hx rfl (hb hby d20_5) rfl kt) ?_
      refine OFin.to (T.setTop (mkF m 10 #[.val (.int p0), .val (.int p1)] [(.int p0)])) (fun _ kt => XS.goto X.here hx rfl (pc0 := 6) (pc' := 10) rfl (hb hby d20_6) (by decide) (by decide) kt) ?_
      exact B10 T p0 p1 p0 X eT hr
  exact B0 T X eT hr0
theorem ef_20 (m : MethodId) (p0 : Int32) (p1 : Int32) : entryFrame m #[(.int p0), (.int p1)] 2 = mkF m 0 #[.val (.int p0), .val (.int p1)] [] := by first | (simp [entryFrame, mkF, argsToLocals, Value.category]; done) | rfl
set_option maxRecDepth 65536 in
set_option maxHeartbeats 40000000 in
theorem rm20 (l : Launch) (Z : State) (a0 : Array Value) (hw : ∀ d ∈ tables_1, d.before a0 Z = true) (ws : List Jvm.Cond) (p0 : Int32) (p1 : Int32) (h0 : Heap) :
    MetFree l (⟨"java/lang/Math", "min", "(II)I"⟩ : MethodName) (head1 (Jvm.Cond.code (⟨"java/lang/Math", "min", "(II)I"⟩ : MethodName) jdk_29_method_69_code 2 (some .int) :: ws) ({ frames := 0, cells := 0, slots := 0, locals := 0 } : Room)) (fun a_ U => a_ = #[(.int p0), (.int p1)] ∧ Z.Warmed39 U.vm ∧ U.heap = h0) (fun _ _ _ _ _ => True) (fun _ U o_ U' => ∃ v L, o_ = .returned v ∧ OQ (fun v h L => v = some (.int (f20_0 p0 p1)) ∧ h = h0 ∧ L = []) v U'.heap L ∧ FrameEnd U o_ U' L ({ frames := 0, cells := 0, slots := 0, locals := 0 } : Room).cells ({ frames := 0, cells := 0, slots := 0, locals := 0 } : Room).slots) := by
  refine MetFree.of_bodySF (Jvm.Free.JP.mathPlain rfl (by decide +kernel)) hisR ?_
  intro p e s m args below meth c s₁ Bd hml0 hP hK
  obtain ⟨rfl, hZ, hh⟩ := hP
  have hx := Bd.exec
  have hby := Bd.bytes
  have hml : c.maxLocals = 2 := hml0
  have hown : s.vm.findClass "java/lang/Math" = some m.cls := findClass_of_methodNamed Bd.named
  have hnm := (name_of_methodNamed Bd.named Bd.method).1
  have hret := Bd.returns
  have hlk : meth.locks = false := Bd.notSynchronized
  have X0 : Stand p l e ({ frames := 0, cells := 0, slots := 0, locals := 0 } : Room) s m #[(.int p0), (.int p1)] below meth c s₁ [] 0 0 := Stand.of_body Bd
  have e0 : s₁.heap = h0 := by rw [← hh, Bd.state]; rfl
  refine OFin.start (Q := fun v h L => v = some (.int (f20_0 p0 p1)) ∧ h = h0 ∧ L = []) (s := s) (fun t kt => castTop (ef_20 m p0 p1) kt) ?_
  exact ro20_0 p0 p1 X0 hx hZ hw hby hml hown hret hlk e0 (Nat.zero_le _) (Nat.zero_le _) (Nat.zero_le _) (Nat.zero_le _)  ⟨rfl, rfl, rfl⟩
theorem d15_0 : decode jdk_92_method_1_code 0 = .ok (.iload_n 0, 1) := by decide +kernel
theorem d15_1 : decode jdk_92_method_1_code 1 = .ok (.bipush 6, 2) := by decide +kernel
theorem d15_3 : decode jdk_92_method_1_code 3 = .ok (.ishr, 1) := by decide +kernel
theorem d15_4 : decode jdk_92_method_1_code 4 = .ok (.ireturn, 1) := by decide +kernel
def f15_0 (p0 : Int32) : Int32 := (p0 >>> ((6 : Int32) &&& 31))
set_option maxRecDepth 65536 in
set_option maxHeartbeats 40000000 in
theorem ro15_0 {p : Program} {l : Launch} {e : Env} {s : State} {m : MethodId} {args : Array Value} {below : List Frame} {meth : Method} {c : Code} {T : State} {locs : List Loc} {cells slots : Nat} {Z : State} {a0 : Array Value} {h : Heap} {ce sl : Nat} {Q : Option Value → Heap → List Loc → Prop} (p0 : Int32)
    (X : Stand p l e ({ frames := 0, cells := 0, slots := 0, locals := 0 } : Room) s m args below meth c T locs cells slots) (hx : p.tables.exec = Jvm.exec) (hZ : Z.Warmed39 s.vm) (hw : ∀ d ∈ tables_1, d.before a0 Z = true) (hby : c.code = jdk_92_method_1_code) (hml : c.maxLocals = 1) (hown : s.vm.findClass "java/util/BitSet" = some m.cls) (hret : meth.sig.returnType = some .int) (hlk : meth.locks = false) (eT : T.heap = h) (hc : cells ≤ ce) (hs : slots ≤ sl) (hcR : cells ≤ (({ frames := 0, cells := 0, slots := 0, locals := 0 } : Room)).cells) (hsR : slots ≤ (({ frames := 0, cells := 0, slots := 0, locals := 0 } : Room)).slots)
    (hQ : Q (some (.int (f15_0 p0))) h locs) : OFin p e below s ce sl Q (T.setTop (mkF m 0 #[.val (.int p0)] [])) := by
  obtain ⟨r, hr0⟩ : ∃ r, f15_0 p0 = r := ⟨_, rfl⟩
  rw [hr0] at hQ
  have B0 : ∀ (T : State) , Stand p l e ({ frames := 0, cells := 0, slots := 0, locals := 0 } : Room) s m args below meth c T locs cells slots → T.heap = h → f15_0 p0 = r → OFin p e below s ce sl Q (T.setTop (mkF m 0 #[.val (.int p0)] [])) := by
    intro T  X eT hr
    refine OFin.to (T.setTop (mkF m 1 #[.val (.int p0)] [(.int p0)])) (fun _ kt => XS.iloadN X.here hx rfl (hb hby d15_0) rfl kt) ?_
    refine OFin.to (T.setTop (mkF m 3 #[.val (.int p0)] [(.int (6 : Int32)), (.int p0)])) (fun _ kt => XS.bipush X.here hx rfl (hb hby d15_1) kt) ?_
    refine OFin.to (T.setTop (mkF m 4 #[.val (.int p0)] [(.int (p0 >>> ((6 : Int32) &&& 31)))])) (fun _ kt => XS.ishr X.here hx rfl (hb hby d15_3) rfl kt) ?_
    exact OFin.retI X hx hret hlk (hb hby d15_4) hc hs (own_q hr eT hQ)
  exact B0 T X eT hr0
theorem pn_15 : plainName "java/util/BitSet" = true := by first | (simp [plainName, overriddenIn]; done) | decide +kernel
theorem ef_15 (m : MethodId) (p0 : Int32) : entryFrame m #[(.int p0)] 1 = mkF m 0 #[.val (.int p0)] [] := by first | (simp [entryFrame, mkF, argsToLocals, Value.category]; done) | rfl
set_option maxRecDepth 65536 in
set_option maxHeartbeats 40000000 in
theorem rm15 (l : Launch) (Z : State) (a0 : Array Value) (hw : ∀ d ∈ tables_1, d.before a0 Z = true) (ws : List Jvm.Cond) (p0 : Int32) (h0 : Heap) :
    MetFree l (⟨"java/util/BitSet", "wordIndex", "(I)I"⟩ : MethodName) (head1 (Jvm.Cond.code (⟨"java/util/BitSet", "wordIndex", "(I)I"⟩ : MethodName) jdk_92_method_1_code 1 (some .int) :: ws) ({ frames := 0, cells := 0, slots := 0, locals := 0 } : Room)) (fun a_ U => a_ = #[(.int p0)] ∧ Z.Warmed39 U.vm ∧ U.heap = h0) (fun _ _ _ _ _ => True) (fun _ U o_ U' => ∃ v L, o_ = .returned v ∧ OQ (fun v h L => v = some (.int (f15_0 p0)) ∧ h = h0 ∧ L = []) v U'.heap L ∧ FrameEnd U o_ U' L ({ frames := 0, cells := 0, slots := 0, locals := 0 } : Room).cells ({ frames := 0, cells := 0, slots := 0, locals := 0 } : Room).slots) := by
  refine MetFree.of_bodySF (plainFor_of_name pn_15) hisR ?_
  intro p e s m args below meth c s₁ Bd hml0 hP hK
  obtain ⟨rfl, hZ, hh⟩ := hP
  have hx := Bd.exec
  have hby := Bd.bytes
  have hml : c.maxLocals = 1 := hml0
  have hown : s.vm.findClass "java/util/BitSet" = some m.cls := findClass_of_methodNamed Bd.named
  have hnm := (name_of_methodNamed Bd.named Bd.method).1
  have hret := Bd.returns
  have hlk : meth.locks = false := Bd.notSynchronized
  have X0 : Stand p l e ({ frames := 0, cells := 0, slots := 0, locals := 0 } : Room) s m #[(.int p0)] below meth c s₁ [] 0 0 := Stand.of_body Bd
  have e0 : s₁.heap = h0 := by rw [← hh, Bd.state]; rfl
  refine OFin.start (Q := fun v h L => v = some (.int (f15_0 p0)) ∧ h = h0 ∧ L = []) (s := s) (fun t kt => castTop (ef_15 m p0) kt) ?_
  exact ro15_0 p0 X0 hx hZ hw hby hml hown hret hlk e0 (Nat.zero_le _) (Nat.zero_le _) (Nat.zero_le _) (Nat.zero_le _)  ⟨rfl, rfl, rfl⟩
theorem d18_0 : decode jdk_33_method_47_code 0 = .ok (.iload_n 0, 1) := by decide +kernel
theorem d18_1 : decode jdk_33_method_47_code 1 = .ok (.ifCond .gt 14, 3) := by decide +kernel
theorem d18_4 : decode jdk_33_method_47_code 4 = .ok (.iload_n 0, 1) := by decide +kernel
theorem d18_5 : decode jdk_33_method_47_code 5 = .ok (.ifCond .ne 8, 3) := by decide +kernel
theorem d18_8 : decode jdk_33_method_47_code 8 = .ok (.bipush 32, 2) := by decide +kernel
theorem d18_10 : decode jdk_33_method_47_code 10 = .ok (.goto 4, 3) := by decide +kernel
theorem d18_13 : decode jdk_33_method_47_code 13 = .ok (.iconst 0, 1) := by decide +kernel
theorem d18_14 : decode jdk_33_method_47_code 14 = .ok (.ireturn, 1) := by decide +kernel
theorem d18_15 : decode jdk_33_method_47_code 15 = .ok (.bipush 31, 2) := by decide +kernel
theorem d18_17 : decode jdk_33_method_47_code 17 = .ok (.istore_n 1, 1) := by decide +kernel
theorem d18_18 : decode jdk_33_method_47_code 18 = .ok (.iload_n 0, 1) := by decide +kernel
theorem d18_19 : decode jdk_33_method_47_code 19 = .ok (.ldc_w 264, 3) := by decide +kernel
theorem d18_22 : decode jdk_33_method_47_code 22 = .ok (.if_icmp .lt 11, 3) := by decide +kernel
theorem d18_25 : decode jdk_33_method_47_code 25 = .ok (.iinc 1 (-16), 3) := by decide +kernel
theorem d18_28 : decode jdk_33_method_47_code 28 = .ok (.iload_n 0, 1) := by decide +kernel
theorem d18_29 : decode jdk_33_method_47_code 29 = .ok (.bipush 16, 2) := by decide +kernel
theorem d18_31 : decode jdk_33_method_47_code 31 = .ok (.iushr, 1) := by decide +kernel
theorem d18_32 : decode jdk_33_method_47_code 32 = .ok (.istore_n 0, 1) := by decide +kernel
theorem d18_33 : decode jdk_33_method_47_code 33 = .ok (.iload_n 0, 1) := by decide +kernel
theorem d18_34 : decode jdk_33_method_47_code 34 = .ok (.sipush 256, 3) := by decide +kernel
theorem d18_37 : decode jdk_33_method_47_code 37 = .ok (.if_icmp .lt 11, 3) := by decide +kernel
theorem d18_40 : decode jdk_33_method_47_code 40 = .ok (.iinc 1 (-8), 3) := by decide +kernel
theorem d18_43 : decode jdk_33_method_47_code 43 = .ok (.iload_n 0, 1) := by decide +kernel
theorem d18_44 : decode jdk_33_method_47_code 44 = .ok (.bipush 8, 2) := by decide +kernel
theorem d18_46 : decode jdk_33_method_47_code 46 = .ok (.iushr, 1) := by decide +kernel
theorem d18_47 : decode jdk_33_method_47_code 47 = .ok (.istore_n 0, 1) := by decide +kernel
theorem d18_48 : decode jdk_33_method_47_code 48 = .ok (.iload_n 0, 1) := by decide +kernel
theorem d18_49 : decode jdk_33_method_47_code 49 = .ok (.bipush 16, 2) := by decide +kernel
theorem d18_51 : decode jdk_33_method_47_code 51 = .ok (.if_icmp .lt 10, 3) := by decide +kernel
theorem d18_54 : decode jdk_33_method_47_code 54 = .ok (.iinc 1 (-4), 3) := by decide +kernel
theorem d18_57 : decode jdk_33_method_47_code 57 = .ok (.iload_n 0, 1) := by decide +kernel
theorem d18_58 : decode jdk_33_method_47_code 58 = .ok (.iconst 4, 1) := by decide +kernel
theorem d18_59 : decode jdk_33_method_47_code 59 = .ok (.iushr, 1) := by decide +kernel
theorem d18_60 : decode jdk_33_method_47_code 60 = .ok (.istore_n 0, 1) := by decide +kernel
theorem d18_61 : decode jdk_33_method_47_code 61 = .ok (.iload_n 0, 1) := by decide +kernel
theorem d18_62 : decode jdk_33_method_47_code 62 = .ok (.iconst 4, 1) := by decide +kernel
theorem d18_63 : decode jdk_33_method_47_code 63 = .ok (.if_icmp .lt 10, 3) := by decide +kernel
theorem d18_66 : decode jdk_33_method_47_code 66 = .ok (.iinc 1 (-2), 3) := by decide +kernel
theorem d18_69 : decode jdk_33_method_47_code 69 = .ok (.iload_n 0, 1) := by decide +kernel
theorem d18_70 : decode jdk_33_method_47_code 70 = .ok (.iconst 2, 1) := by decide +kernel
theorem d18_71 : decode jdk_33_method_47_code 71 = .ok (.iushr, 1) := by decide +kernel
theorem d18_72 : decode jdk_33_method_47_code 72 = .ok (.istore_n 0, 1) := by decide +kernel
theorem d18_73 : decode jdk_33_method_47_code 73 = .ok (.iload_n 1, 1) := by decide +kernel
theorem d18_74 : decode jdk_33_method_47_code 74 = .ok (.iload_n 0, 1) := by decide +kernel
theorem d18_75 : decode jdk_33_method_47_code 75 = .ok (.iconst 1, 1) := by decide +kernel
theorem d18_76 : decode jdk_33_method_47_code 76 = .ok (.iushr, 1) := by decide +kernel
theorem d18_77 : decode jdk_33_method_47_code 77 = .ok (.isub, 1) := by decide +kernel
theorem d18_78 : decode jdk_33_method_47_code 78 = .ok (.ireturn, 1) := by decide +kernel
def f18_73 (i0 : Int32) (i1 : Int32) : Int32 := (i1 - ((i0.toUInt32 >>> ((1 : Int32) &&& 31).toUInt32).toInt32))
def f18_61 (i0 : Int32) (i1 : Int32) : Int32 := (if i0 < (4 : Int32) then (f18_73 i0 i1) else (f18_73 ((i0.toUInt32 >>> ((2 : Int32) &&& 31).toUInt32).toInt32) (i1 + (-2 : Int32))))
def f18_48 (i0 : Int32) (i1 : Int32) : Int32 := (if i0 < (16 : Int32) then (f18_61 i0 i1) else (f18_61 ((i0.toUInt32 >>> ((4 : Int32) &&& 31).toUInt32).toInt32) (i1 + (-4 : Int32))))
def f18_33 (i0 : Int32) (i1 : Int32) : Int32 := (if i0 < (256 : Int32) then (f18_48 i0 i1) else (f18_48 ((i0.toUInt32 >>> ((8 : Int32) &&& 31).toUInt32).toInt32) (i1 + (-8 : Int32))))
def f18_14 (i0 : Int32) (t0 : Int32) : Int32 := t0
def f18_0 (p0 : Int32) : Int32 := (if (0 : Int32) < p0 then (if p0 < (65536 : Int32) then (f18_33 p0 (31 : Int32)) else (f18_33 ((p0.toUInt32 >>> ((16 : Int32) &&& 31).toUInt32).toInt32) ((31 : Int32) + (-16 : Int32)))) else (if p0 = (0 : Int32) then (f18_14 p0 (32 : Int32)) else (f18_14 p0 (0 : Int32))))
set_option maxRecDepth 65536 in
set_option maxHeartbeats 40000000 in
theorem ro18_0 {p : Program} {l : Launch} {e : Env} {s : State} {m : MethodId} {args : Array Value} {below : List Frame} {meth : Method} {c : Code} {T : State} {locs : List Loc} {cells slots : Nat} {Z : State} {a0 : Array Value} {h : Heap} {ce sl : Nat} {Q : Option Value → Heap → List Loc → Prop} (p0 : Int32)
    (X : Stand p l e ({ frames := 0, cells := 0, slots := 0, locals := 0 } : Room) s m args below meth c T locs cells slots) (hx : p.tables.exec = Jvm.exec) (hZ : Z.Warmed39 s.vm) (hw : ∀ d ∈ tables_1, d.before a0 Z = true) (hby : c.code = jdk_33_method_47_code) (hml : c.maxLocals = 2) (hown : s.vm.findClass "java/lang/Integer" = some m.cls) (hret : meth.sig.returnType = some .int) (hlk : meth.locks = false) (eT : T.heap = h) (hc : cells ≤ ce) (hs : slots ≤ sl) (hcR : cells ≤ (({ frames := 0, cells := 0, slots := 0, locals := 0 } : Room)).cells) (hsR : slots ≤ (({ frames := 0, cells := 0, slots := 0, locals := 0 } : Room)).slots)
    (hQ : Q (some (.int (f18_0 p0))) h locs) : OFin p e below s ce sl Q (T.setTop (mkF m 0 #[.val (.int p0), .unset] [])) := by
  obtain ⟨r, hr0⟩ : ∃ r, f18_0 p0 = r := ⟨_, rfl⟩
  rw [hr0] at hQ
  have B73 : ∀ (T : State) (i0 : Int32) (i1 : Int32), Stand p l e ({ frames := 0, cells := 0, slots := 0, locals := 0 } : Room) s m args below meth c T locs cells slots → T.heap = h → f18_73 i0 i1 = r → OFin p e below s ce sl Q (T.setTop (mkF m 73 #[.val (.int i0), .val (.int i1)] [])) := by
    intro T i0 i1 X eT hr
    refine OFin.to (T.setTop (mkF m 74 #[.val (.int i0), .val (.int i1)] [(.int i1)])) (fun _ kt => XS.iloadN X.here hx rfl (hb hby d18_73) rfl kt) ?_
    refine OFin.to (T.setTop (mkF m 75 #[.val (.int i0), .val (.int i1)] [(.int i0), (.int i1)])) (fun _ kt => XS.iloadN X.here hx rfl (hb hby d18_74) rfl kt) ?_
    refine OFin.to (T.setTop (mkF m 76 #[.val (.int i0), .val (.int i1)] [(.int (1 : Int32)), (.int i0), (.int i1)])) (fun _ kt => XS.iconst X.here hx rfl (hb hby d18_75) kt) ?_
    refine OFin.to (T.setTop (mkF m 77 #[.val (.int i0), .val (.int i1)] [(.int ((i0.toUInt32 >>> ((1 : Int32) &&& 31).toUInt32).toInt32)), (.int i1)])) (fun _ kt => XS.iushr X.here hx rfl (hb hby d18_76) rfl kt) ?_
    refine OFin.to (T.setTop (mkF m 78 #[.val (.int i0), .val (.int i1)] [(.int (i1 - ((i0.toUInt32 >>> ((1 : Int32) &&& 31).toUInt32).toInt32)))])) (fun _ kt => XS.isub X.here hx rfl (hb hby d18_77) rfl kt) ?_
    exact OFin.retI X hx hret hlk (hb hby d18_78) hc hs (own_q hr eT hQ)
  have B61 : ∀ (T : State) (i0 : Int32) (i1 : Int32), Stand p l e ({ frames := 0, cells := 0, slots := 0, locals := 0 } : Room) s m args below meth c T locs cells slots → T.heap = h → f18_61 i0 i1 = r → OFin p e below s ce sl Q (T.setTop (mkF m 61 #[.val (.int i0), .val (.int i1)] [])) := by
    intro T i0 i1 X eT hr
    refine OFin.to (T.setTop (mkF m 62 #[.val (.int i0), .val (.int i1)] [(.int i0)])) (fun _ kt => XS.iloadN X.here hx rfl (hb hby d18_61) rfl kt) ?_
    refine OFin.to (T.setTop (mkF m 63 #[.val (.int i0), .val (.int i1)] [(.int (4 : Int32)), (.int i0)])) (fun _ kt => XS.iconst X.here hx rfl (hb hby d18_62) kt) ?_
    by_cases hc63 : i0 < (4 : Int32)
    · have hr := (if_pos hc63).symm.trans hr
      refine OFin.to (T.setTop (mkF m 73 #[.val (.int i0), .val (.int i1)] [])) (fun _ kt => XS.icmpYes X.here hx rfl (pc0 := 63) (pc' := 73) rfl (hb hby d18_63) rfl (XT.ii_lt_t hc63) (by decide) (by decide) kt) ?_
      exact B73 T i0 i1 X eT hr
    · have hr := (if_neg hc63).symm.trans hr
      refine OFin.to (T.setTop (mkF m 66 #[.val (.int i0), .val (.int i1)] [])) (fun _ kt => XS.icmpNo X.here hx rfl (hb hby d18_63) rfl (XT.ii_lt_f hc63) kt) ?_
      refine OFin.to (T.setTop (mkF m 69 #[.val (.int i0), .val (.int (i1 + (-2 : Int32)))] [])) (fun _ kt => XS.iinc X.here hx rfl (hb hby d18_66) rfl (l' := #[.val (.int i0), .val (.int (i1 + (-2 : Int32)))]) rfl kt) ?_
      refine OFin.to (T.setTop (mkF m 70 #[.val (.int i0), .val (.int (i1 + (-2 : Int32)))] [(.int i0)])) (fun _ kt => XS.iloadN X.here hx rfl (hb hby d18_69) rfl kt) ?_
      refine OFin.to (T.setTop (mkF m 71 #[.val (.int i0), .val (.int (i1 + (-2 : Int32)))] [(.int (2 : Int32)), (.int i0)])) (fun _ kt => XS.iconst X.here hx rfl (hb hby d18_70) kt) ?_
      refine OFin.to (T.setTop (mkF m 72 #[.val (.int i0), .val (.int (i1 + (-2 : Int32)))] [(.int ((i0.toUInt32 >>> ((2 : Int32) &&& 31).toUInt32).toInt32))])) (fun _ kt => XS.iushr X.here hx rfl (hb hby d18_71) rfl kt) ?_
      refine OFin.to (T.setTop (mkF m 73 #[.val (.int ((i0.toUInt32 >>> ((2 : Int32) &&& 31).toUInt32).toInt32)), .val (.int (i1 + (-2 : Int32)))] [])) (fun _ kt => XS.istoreN X.here hx rfl (hb hby d18_72) rfl (l' := #[.val (.int ((i0.toUInt32 >>> ((2 : Int32) &&& 31).toUInt32).toInt32)), .val (.int (i1 + (-2 : Int32)))]) rfl kt) ?_
      exact B73 T ((i0.toUInt32 >>> ((2 : Int32) &&& 31).toUInt32).toInt32) (i1 + (-2 : Int32)) X eT hr
  have B48 : ∀ (T : State) (i0 : Int32) (i1 : Int32), Stand p l e ({ frames := 0, cells := 0, slots := 0, locals := 0 } : Room) s m args below meth c T locs cells slots → T.heap = h → f18_48 i0 i1 = r → OFin p e below s ce sl Q (T.setTop (mkF m 48 #[.val (.int i0), .val (.int i1)] [])) := by
    intro T i0 i1 X eT hr
    refine OFin.to (T.setTop (mkF m 49 #[.val (.int i0), .val (.int i1)] [(.int i0)])) (fun _ kt => XS.iloadN X.here hx rfl (hb hby d18_48) rfl kt) ?_
    refine OFin.to (T.setTop (mkF m 51 #[.val (.int i0), .val (.int i1)] [(.int (16 : Int32)), (.int i0)])) (fun _ kt => XS.bipush X.here hx rfl (hb hby d18_49) kt) ?_
    by_cases hc51 : i0 < (16 : Int32)
    · have hr := (if_pos hc51).symm.trans hr
      refine OFin.to (T.setTop (mkF m 61 #[.val (.int i0), .val (.int i1)] [])) (fun _ kt => XS.icmpYes X.here hx rfl (pc0 := 51) (pc' := 61) rfl (hb hby d18_51) rfl (XT.ii_lt_t hc51) (by decide) (by decide) kt) ?_
      exact B61 T i0 i1 X eT hr
    · have hr := (if_neg hc51).symm.trans hr
      refine OFin.to (T.setTop (mkF m 54 #[.val (.int i0), .val (.int i1)] [])) (fun _ kt => XS.icmpNo X.here hx rfl (hb hby d18_51) rfl (XT.ii_lt_f hc51) kt) ?_
      refine OFin.to (T.setTop (mkF m 57 #[.val (.int i0), .val (.int (i1 + (-4 : Int32)))] [])) (fun _ kt => XS.iinc X.here hx rfl (hb hby d18_54) rfl (l' := #[.val (.int i0), .val (.int (i1 + (-4 : Int32)))]) rfl kt) ?_
      refine OFin.to (T.setTop (mkF m 58 #[.val (.int i0), .val (.int (i1 + (-4 : Int32)))] [(.int i0)])) (fun _ kt => XS.iloadN X.here hx rfl (hb hby d18_57) rfl kt) ?_
      refine OFin.to (T.setTop (mkF m 59 #[.val (.int i0), .val (.int (i1 + (-4 : Int32)))] [(.int (4 : Int32)), (.int i0)])) (fun _ kt => XS.iconst X.here hx rfl (hb hby d18_58) kt) ?_
      refine OFin.to (T.setTop (mkF m 60 #[.val (.int i0), .val (.int (i1 + (-4 : Int32)))] [(.int ((i0.toUInt32 >>> ((4 : Int32) &&& 31).toUInt32).toInt32))])) (fun _ kt => XS.iushr X.here hx rfl (hb hby d18_59) rfl kt) ?_
      refine OFin.to (T.setTop (mkF m 61 #[.val (.int ((i0.toUInt32 >>> ((4 : Int32) &&& 31).toUInt32).toInt32)), .val (.int (i1 + (-4 : Int32)))] [])) (fun _ kt => XS.istoreN X.here hx rfl (hb hby d18_60) rfl (l' := #[.val (.int ((i0.toUInt32 >>> ((4 : Int32) &&& 31).toUInt32).toInt32)), .val (.int (i1 + (-4 : Int32)))]) rfl kt) ?_
      exact B61 T ((i0.toUInt32 >>> ((4 : Int32) &&& 31).toUInt32).toInt32) (i1 + (-4 : Int32)) X eT hr
  have B33 : ∀ (T : State) (i0 : Int32) (i1 : Int32), Stand p l e ({ frames := 0, cells := 0, slots := 0, locals := 0 } : Room) s m args below meth c T locs cells slots → T.heap = h → f18_33 i0 i1 = r → OFin p e below s ce sl Q (T.setTop (mkF m 33 #[.val (.int i0), .val (.int i1)] [])) := by
    intro T i0 i1 X eT hr
    refine OFin.to (T.setTop (mkF m 34 #[.val (.int i0), .val (.int i1)] [(.int i0)])) (fun _ kt => XS.iloadN X.here hx rfl (hb hby d18_33) rfl kt) ?_
    refine OFin.to (T.setTop (mkF m 37 #[.val (.int i0), .val (.int i1)] [(.int (256 : Int32)), (.int i0)])) (fun _ kt => XS.sipush X.here hx rfl (hb hby d18_34) kt) ?_
    by_cases hc37 : i0 < (256 : Int32)
    · have hr := (if_pos hc37).symm.trans hr
      refine OFin.to (T.setTop (mkF m 48 #[.val (.int i0), .val (.int i1)] [])) (fun _ kt => XS.icmpYes X.here hx rfl (pc0 := 37) (pc' := 48) rfl (hb hby d18_37) rfl (XT.ii_lt_t hc37) (by decide) (by decide) kt) ?_
      exact B48 T i0 i1 X eT hr
    · have hr := (if_neg hc37).symm.trans hr
      refine OFin.to (T.setTop (mkF m 40 #[.val (.int i0), .val (.int i1)] [])) (fun _ kt => XS.icmpNo X.here hx rfl (hb hby d18_37) rfl (XT.ii_lt_f hc37) kt) ?_
      refine OFin.to (T.setTop (mkF m 43 #[.val (.int i0), .val (.int (i1 + (-8 : Int32)))] [])) (fun _ kt => XS.iinc X.here hx rfl (hb hby d18_40) rfl (l' := #[.val (.int i0), .val (.int (i1 + (-8 : Int32)))]) rfl kt) ?_
      refine OFin.to (T.setTop (mkF m 44 #[.val (.int i0), .val (.int (i1 + (-8 : Int32)))] [(.int i0)])) (fun _ kt => XS.iloadN X.here hx rfl (hb hby d18_43) rfl kt) ?_
      refine OFin.to (T.setTop (mkF m 46 #[.val (.int i0), .val (.int (i1 + (-8 : Int32)))] [(.int (8 : Int32)), (.int i0)])) (fun _ kt => XS.bipush X.here hx rfl (hb hby d18_44) kt) ?_
      refine OFin.to (T.setTop (mkF m 47 #[.val (.int i0), .val (.int (i1 + (-8 : Int32)))] [(.int ((i0.toUInt32 >>> ((8 : Int32) &&& 31).toUInt32).toInt32))])) (fun _ kt => XS.iushr X.here hx rfl (hb hby d18_46) rfl kt) ?_
      refine OFin.to (T.setTop (mkF m 48 #[.val (.int ((i0.toUInt32 >>> ((8 : Int32) &&& 31).toUInt32).toInt32)), .val (.int (i1 + (-8 : Int32)))] [])) (fun _ kt => XS.istoreN X.here hx rfl (hb hby d18_47) rfl (l' := #[.val (.int ((i0.toUInt32 >>> ((8 : Int32) &&& 31).toUInt32).toInt32)), .val (.int (i1 + (-8 : Int32)))]) rfl kt) ?_
      exact B48 T ((i0.toUInt32 >>> ((8 : Int32) &&& 31).toUInt32).toInt32) (i1 + (-8 : Int32)) X eT hr
  have B14 : ∀ (T : State) (i0 : Int32) (t0 : Int32), Stand p l e ({ frames := 0, cells := 0, slots := 0, locals := 0 } : Room) s m args below meth c T locs cells slots → T.heap = h → f18_14 i0 t0 = r → OFin p e below s ce sl Q (T.setTop (mkF m 14 #[.val (.int i0), .unset] [(.int t0)])) := by
    intro T i0 t0 X eT hr
    exact OFin.retI X hx hret hlk (hb hby d18_14) hc hs (own_q hr eT hQ)
  have B0 : ∀ (T : State) , Stand p l e ({ frames := 0, cells := 0, slots := 0, locals := 0 } : Room) s m args below meth c T locs cells slots → T.heap = h → f18_0 p0 = r → OFin p e below s ce sl Q (T.setTop (mkF m 0 #[.val (.int p0), .unset] [])) := by
    intro T  X eT hr
    refine OFin.to (T.setTop (mkF m 1 #[.val (.int p0), .unset] [(.int p0)])) (fun _ kt => XS.iloadN X.here hx rfl (hb hby d18_0) rfl kt) ?_
    by_cases hc1 : (0 : Int32) < p0
    · have hr := (if_pos hc1).symm.trans hr
      refine OFin.to (T.setTop (mkF m 15 #[.val (.int p0), .unset] [])) (fun _ kt => XS.ifYes X.here hx rfl (pc0 := 1) (pc' := 15) rfl (hb hby d18_1) rfl (XT.i0_gt_t hc1) (by decide) (by decide) kt) ?_
      refine OFin.to (T.setTop (mkF m 17 #[.val (.int p0), .unset] [(.int (31 : Int32))])) (fun _ kt => XS.bipush X.here hx rfl (hb hby d18_15) kt) ?_
      refine OFin.to (T.setTop (mkF m 18 #[.val (.int p0), .val (.int (31 : Int32))] [])) (fun _ kt => XS.istoreN X.here hx rfl (hb hby d18_17) rfl (l' := #[.val (.int p0), .val (.int (31 : Int32))]) rfl kt) ?_
      refine OFin.to (T.setTop (mkF m 19 #[.val (.int p0), .val (.int (31 : Int32))] [(.int p0)])) (fun _ kt => XS.iloadN X.here hx rfl (hb hby d18_18) rfl kt) ?_
      refine OFin.to (T.setTop (mkF m 22 #[.val (.int p0), .val (.int (31 : Int32))] [(.int (65536 : Int32)), (.int p0)])) (fun _ kt => X.ldcWI hx hown (mvT hZ (hw _ (List.mem_of_getElem? (i := 186) rfl))) (g := (mkF m 19 #[.val (.int p0), .val (.int (31 : Int32))] [(.int p0)])) rfl (hb hby d18_19) kt) ?_
      by_cases hc22 : p0 < (65536 : Int32)
      · have hr := (if_pos hc22).symm.trans hr
        refine OFin.to (T.setTop (mkF m 33 #[.val (.int p0), .val (.int (31 : Int32))] [])) (fun _ kt => XS.icmpYes X.here hx rfl (pc0 := 22) (pc' := 33) rfl (hb hby d18_22) rfl (XT.ii_lt_t hc22) (by decide) (by decide) kt) ?_
        exact B33 T p0 (31 : Int32) X eT hr
      · have hr := (if_neg hc22).symm.trans hr
        refine OFin.to (T.setTop (mkF m 25 #[.val (.int p0), .val (.int (31 : Int32))] [])) (fun _ kt => XS.icmpNo X.here hx rfl (hb hby d18_22) rfl (XT.ii_lt_f hc22) kt) ?_
        refine OFin.to (T.setTop (mkF m 28 #[.val (.int p0), .val (.int ((31 : Int32) + (-16 : Int32)))] [])) (fun _ kt => XS.iinc X.here hx rfl (hb hby d18_25) rfl (l' := #[.val (.int p0), .val (.int ((31 : Int32) + (-16 : Int32)))]) rfl kt) ?_
        refine OFin.to (T.setTop (mkF m 29 #[.val (.int p0), .val (.int ((31 : Int32) + (-16 : Int32)))] [(.int p0)])) (fun _ kt => XS.iloadN X.here hx rfl (hb hby d18_28) rfl kt) ?_
        refine OFin.to (T.setTop (mkF m 31 #[.val (.int p0), .val (.int ((31 : Int32) + (-16 : Int32)))] [(.int (16 : Int32)), (.int p0)])) (fun _ kt => XS.bipush X.here hx rfl (hb hby d18_29) kt) ?_
        refine OFin.to (T.setTop (mkF m 32 #[.val (.int p0), .val (.int ((31 : Int32) + (-16 : Int32)))] [(.int ((p0.toUInt32 >>> ((16 : Int32) &&& 31).toUInt32).toInt32))])) (fun _ kt => XS.iushr X.here hx rfl (hb hby d18_31) rfl kt) ?_
        refine OFin.to (T.setTop (mkF m 33 #[.val (.int ((p0.toUInt32 >>> ((16 : Int32) &&& 31).toUInt32).toInt32)), .val (.int ((31 : Int32) + (-16 : Int32)))] [])) (fun _ kt => XS.istoreN X.here hx rfl (hb hby d18_32) rfl (l' := #[.val (.int ((p0.toUInt32 >>> ((16 : Int32) &&& 31).toUInt32).toInt32)), .val (.int ((31 : Int32) + (-16 : Int32)))]) rfl kt) ?_
        exact B33 T ((p0.toUInt32 >>> ((16 : Int32) &&& 31).toUInt32).toInt32) ((31 : Int32) + (-16 : Int32)) X eT hr
    · have hr := (if_neg hc1).symm.trans hr
      refine OFin.to (T.setTop (mkF m 4 #[.val (.int p0), .unset] [])) (fun _ kt => XS.ifNo X.here hx rfl (hb hby d18_1) rfl (XT.i0_gt_f hc1) kt) ?_
      refine OFin.to (T.setTop (mkF m 5 #[.val (.int p0), .unset] [(.int p0)])) (fun _ kt => XS.iloadN X.here hx rfl (hb hby d18_4) rfl kt) ?_
      by_cases hc5 : p0 = (0 : Int32)
      · have hr := (if_pos hc5).symm.trans hr
        refine OFin.to (T.setTop (mkF m 8 #[.val (.int p0), .unset] [])) (fun _ kt => XS.ifNo X.here hx rfl (hb hby d18_5) rfl (XT.i0_ne_f hc5) kt) ?_
        refine OFin.to (T.setTop (mkF m 10 #[.val (.int p0), .unset] [(.int (32 : Int32))])) (fun _ kt => XS.bipush X.here hx rfl (hb hby d18_8) kt) ?_
        refine OFin.to (T.setTop (mkF m 14 #[.val (.int p0), .unset] [(.int (32 : Int32))])) (fun _ kt => XS.goto X.here hx rfl (pc0 := 10) (pc' := 14) rfl (hb hby d18_10) (by decide) (by decide) kt) ?_
        exact B14 T p0 (32 : Int32) X eT hr
      · have hr := (if_neg hc5).symm.trans hr
        refine OFin.to (T.setTop (mkF m 13 #[.val (.int p0), .unset] [])) (fun _ kt => XS.ifYes X.here hx rfl (pc0 := 5) (pc' := 13) rfl (hb hby d18_5) rfl (XT.i0_ne_t hc5) (by decide) (by decide) kt) ?_
        refine OFin.to (T.setTop (mkF m 14 #[.val (.int p0), .unset] [(.int (0 : Int32))])) (fun _ kt => XS.iconst X.here hx rfl (hb hby d18_13) kt) ?_
        exact B14 T p0 (0 : Int32) X eT hr
  exact B0 T X eT hr0
theorem pn_18 : plainName "java/lang/Integer" = true := by first | (simp [plainName, overriddenIn]; done) | decide +kernel
theorem ef_18 (m : MethodId) (p0 : Int32) : entryFrame m #[(.int p0)] 2 = mkF m 0 #[.val (.int p0), .unset] [] := by first | (simp [entryFrame, mkF, argsToLocals, Value.category]; done) | rfl
set_option maxRecDepth 65536 in
set_option maxHeartbeats 40000000 in
theorem rm18 (l : Launch) (Z : State) (a0 : Array Value) (hw : ∀ d ∈ tables_1, d.before a0 Z = true) (ws : List Jvm.Cond) (p0 : Int32) (h0 : Heap) :
    MetFree l (⟨"java/lang/Integer", "numberOfLeadingZeros", "(I)I"⟩ : MethodName) (head1 (Jvm.Cond.code (⟨"java/lang/Integer", "numberOfLeadingZeros", "(I)I"⟩ : MethodName) jdk_33_method_47_code 2 (some .int) :: ws) ({ frames := 0, cells := 0, slots := 0, locals := 0 } : Room)) (fun a_ U => a_ = #[(.int p0)] ∧ Z.Warmed39 U.vm ∧ U.heap = h0) (fun _ _ _ _ _ => True) (fun _ U o_ U' => ∃ v L, o_ = .returned v ∧ OQ (fun v h L => v = some (.int (f18_0 p0)) ∧ h = h0 ∧ L = []) v U'.heap L ∧ FrameEnd U o_ U' L ({ frames := 0, cells := 0, slots := 0, locals := 0 } : Room).cells ({ frames := 0, cells := 0, slots := 0, locals := 0 } : Room).slots) := by
  refine MetFree.of_bodySF (plainFor_of_name pn_18) hisR ?_
  intro p e s m args below meth c s₁ Bd hml0 hP hK
  obtain ⟨rfl, hZ, hh⟩ := hP
  have hx := Bd.exec
  have hby := Bd.bytes
  have hml : c.maxLocals = 2 := hml0
  have hown : s.vm.findClass "java/lang/Integer" = some m.cls := findClass_of_methodNamed Bd.named
  have hnm := (name_of_methodNamed Bd.named Bd.method).1
  have hret := Bd.returns
  have hlk : meth.locks = false := Bd.notSynchronized
  have X0 : Stand p l e ({ frames := 0, cells := 0, slots := 0, locals := 0 } : Room) s m #[(.int p0)] below meth c s₁ [] 0 0 := Stand.of_body Bd
  have e0 : s₁.heap = h0 := by rw [← hh, Bd.state]; rfl
  refine OFin.start (Q := fun v h L => v = some (.int (f18_0 p0)) ∧ h = h0 ∧ L = []) (s := s) (fun t kt => castTop (ef_18 m p0) kt) ?_
  exact ro18_0 p0 X0 hx hZ hw hby hml hown hret hlk e0 (Nat.zero_le _) (Nat.zero_le _) (Nat.zero_le _) (Nat.zero_le _)  ⟨rfl, rfl, rfl⟩
theorem d17_0 : decode jdk_33_method_45_code 0 = .ok (.iload_n 0, 1) := by decide +kernel
theorem d17_1 : decode jdk_33_method_45_code 1 = .ok (.ldc 127, 2) := by decide +kernel
theorem d17_3 : decode jdk_33_method_45_code 3 = .ok (.iload_n 0, 1) := by decide +kernel
theorem d17_4 : decode jdk_33_method_45_code 4 = .ok (.invokestatic 51, 3) := by decide +kernel
theorem d17_7 : decode jdk_33_method_45_code 7 = .ok (.iushr, 1) := by decide +kernel
theorem d17_8 : decode jdk_33_method_45_code 8 = .ok (.iand, 1) := by decide +kernel
theorem d17_9 : decode jdk_33_method_45_code 9 = .ok (.ireturn, 1) := by decide +kernel
def f17_0 (p0 : Int32) : Int32 := (p0 &&& (((-2147483648 : Int32).toUInt32 >>> ((f18_0 p0) &&& 31).toUInt32).toInt32))
set_option maxRecDepth 65536 in
set_option maxHeartbeats 40000000 in
theorem ro17_0 {p : Program} {l : Launch} {e : Env} {s : State} {m : MethodId} {args : Array Value} {below : List Frame} {meth : Method} {c : Code} {T : State} {locs : List Loc} {cells slots : Nat} {Z : State} {a0 : Array Value} {h : Heap} {ce sl : Nat} {Q : Option Value → Heap → List Loc → Prop} (p0 : Int32)
    (X : Stand p l e ({ frames := 1, cells := 0, slots := 0, locals := 15 } : Room) s m args below meth c T locs cells slots) (hx : p.tables.exec = Jvm.exec) (hZ : Z.Warmed39 s.vm) (hw : ∀ d ∈ tables_1, d.before a0 Z = true) (hby : c.code = jdk_33_method_45_code) (hml : c.maxLocals = 1) (hown : s.vm.findClass "java/lang/Integer" = some m.cls) (hret : meth.sig.returnType = some .int) (hlk : meth.locks = false) (eT : T.heap = h) (hc : cells ≤ ce) (hs : slots ≤ sl) (hcR : cells ≤ (({ frames := 1, cells := 0, slots := 0, locals := 15 } : Room)).cells) (hsR : slots ≤ (({ frames := 1, cells := 0, slots := 0, locals := 15 } : Room)).slots)
    (hQ : Q (some (.int (f17_0 p0))) h locs) : OFin p e below s ce sl Q (T.setTop (mkF m 0 #[.val (.int p0)] [])) := by
  obtain ⟨r, hr0⟩ : ∃ r, f17_0 p0 = r := ⟨_, rfl⟩
  rw [hr0] at hQ
  have B0 : ∀ (T : State) , Stand p l e ({ frames := 1, cells := 0, slots := 0, locals := 15 } : Room) s m args below meth c T locs cells slots → T.heap = h → f17_0 p0 = r → OFin p e below s ce sl Q (T.setTop (mkF m 0 #[.val (.int p0)] [])) := by
    intro T  X eT hr
    refine OFin.to (T.setTop (mkF m 1 #[.val (.int p0)] [(.int p0)])) (fun _ kt => XS.iloadN X.here hx rfl (hb hby d17_0) rfl kt) ?_
    refine OFin.to (T.setTop (mkF m 3 #[.val (.int p0)] [(.int (-2147483648 : Int32)), (.int p0)])) (fun _ kt => X.ldcI hx hown (mvT hZ (hw _ (List.mem_of_getElem? (i := 182) rfl))) (g := (mkF m 1 #[.val (.int p0)] [(.int p0)])) rfl (hb hby d17_1) kt) ?_
    refine OFin.to (T.setTop (mkF m 4 #[.val (.int p0)] [(.int p0), (.int (-2147483648 : Int32)), (.int p0)])) (fun _ kt => XS.iloadN X.here hx rfl (hb hby d17_3) rfl kt) ?_
    obtain ⟨T1, X1, e1, st1⟩ := own_callSP X hx hZ hown (hw _ (List.mem_of_getElem? (i := 183) rfl)) (hw _ (List.mem_of_getElem? (i := 184) rfl)) (hw _ (List.mem_of_getElem? (i := 180) rfl)) (hw _ (List.mem_of_getElem? (i := 185) rfl)) (by decide) eT (rm18 l Z a0 hw [] p0 h ) rfl rfl 2 (by decide) (by decide) hcR hsR (g := (mkF m 4 #[.val (.int p0)] [(.int p0), (.int (-2147483648 : Int32)), (.int p0)])) rfl (by rw [hml]; rfl) (rest := [(.int (-2147483648 : Int32)), (.int p0)]) (lenOf pd_0 rfl) rfl (by show 2 * 0 + _ ≤ _; exact Nat.le_of_eq rfl) (hb hby d17_4)
    refine OFin.to (T1.setTop (mkF m 7 #[.val (.int p0)] [(.int (f18_0 p0)), (.int (-2147483648 : Int32)), (.int p0)])) st1 ?_
    refine OFin.to (T1.setTop (mkF m 8 #[.val (.int p0)] [(.int (((-2147483648 : Int32).toUInt32 >>> ((f18_0 p0) &&& 31).toUInt32).toInt32)), (.int p0)])) (fun _ kt => XS.iushr X1.here hx rfl (hb hby d17_7) rfl kt) ?_
    refine OFin.to (T1.setTop (mkF m 9 #[.val (.int p0)] [(.int (p0 &&& (((-2147483648 : Int32).toUInt32 >>> ((f18_0 p0) &&& 31).toUInt32).toInt32)))])) (fun _ kt => XS.iand X1.here hx rfl (hb hby d17_8) rfl kt) ?_
    exact OFin.retI X1 hx hret hlk (hb hby d17_9) hc hs (own_q hr e1 hQ)
  exact B0 T X eT hr0
theorem pn_17 : plainName "java/lang/Integer" = true := by first | (simp [plainName, overriddenIn]; done) | decide +kernel
theorem ef_17 (m : MethodId) (p0 : Int32) : entryFrame m #[(.int p0)] 1 = mkF m 0 #[.val (.int p0)] [] := by first | (simp [entryFrame, mkF, argsToLocals, Value.category]; done) | rfl
set_option maxRecDepth 65536 in
set_option maxHeartbeats 40000000 in
theorem rm17 (l : Launch) (Z : State) (a0 : Array Value) (hw : ∀ d ∈ tables_1, d.before a0 Z = true) (ws : List Jvm.Cond) (p0 : Int32) (h0 : Heap) :
    MetFree l (⟨"java/lang/Integer", "highestOneBit", "(I)I"⟩ : MethodName) (head1 (Jvm.Cond.code (⟨"java/lang/Integer", "highestOneBit", "(I)I"⟩ : MethodName) jdk_33_method_45_code 1 (some .int) :: ws) ({ frames := 1, cells := 0, slots := 0, locals := 15 } : Room)) (fun a_ U => a_ = #[(.int p0)] ∧ Z.Warmed39 U.vm ∧ U.heap = h0) (fun _ _ _ _ _ => True) (fun _ U o_ U' => ∃ v L, o_ = .returned v ∧ OQ (fun v h L => v = some (.int (f17_0 p0)) ∧ h = h0 ∧ L = []) v U'.heap L ∧ FrameEnd U o_ U' L ({ frames := 1, cells := 0, slots := 0, locals := 15 } : Room).cells ({ frames := 1, cells := 0, slots := 0, locals := 15 } : Room).slots) := by
  refine MetFree.of_bodySF (plainFor_of_name pn_17) hisR ?_
  intro p e s m args below meth c s₁ Bd hml0 hP hK
  obtain ⟨rfl, hZ, hh⟩ := hP
  have hx := Bd.exec
  have hby := Bd.bytes
  have hml : c.maxLocals = 1 := hml0
  have hown : s.vm.findClass "java/lang/Integer" = some m.cls := findClass_of_methodNamed Bd.named
  have hnm := (name_of_methodNamed Bd.named Bd.method).1
  have hret := Bd.returns
  have hlk : meth.locks = false := Bd.notSynchronized
  have X0 : Stand p l e ({ frames := 1, cells := 0, slots := 0, locals := 15 } : Room) s m #[(.int p0)] below meth c s₁ [] 0 0 := Stand.of_body Bd
  have e0 : s₁.heap = h0 := by rw [← hh, Bd.state]; rfl
  refine OFin.start (Q := fun v h L => v = some (.int (f17_0 p0)) ∧ h = h0 ∧ L = []) (s := s) (fun t kt => castTop (ef_17 m p0) kt) ?_
  exact ro17_0 p0 X0 hx hZ hw hby hml hown hret hlk e0 (Nat.zero_le _) (Nat.zero_le _) (Nat.zero_le _) (Nat.zero_le _)  ⟨rfl, rfl, rfl⟩
theorem d23_0 : decode prog_18_method_46_code 0 = .ok (.iload_n 0, 1) := by decide +kernel
theorem d23_1 : decode prog_18_method_46_code 1 = .ok (.i2l, 1) := by decide +kernel
theorem d23_2 : decode prog_18_method_46_code 2 = .ok (.bipush 32, 2) := by decide +kernel
theorem d23_4 : decode prog_18_method_46_code 4 = .ok (.lshl, 1) := by decide +kernel
theorem d23_5 : decode prog_18_method_46_code 5 = .ok (.iload_n 1, 1) := by decide +kernel
theorem d23_6 : decode prog_18_method_46_code 6 = .ok (.i2l, 1) := by decide +kernel
theorem d23_7 : decode prog_18_method_46_code 7 = .ok (.ldc2_w 369, 3) := by decide +kernel
theorem d23_10 : decode prog_18_method_46_code 10 = .ok (.land, 1) := by decide +kernel
theorem d23_11 : decode prog_18_method_46_code 11 = .ok (.lor, 1) := by decide +kernel
theorem d23_12 : decode prog_18_method_46_code 12 = .ok (.lreturn, 1) := by decide +kernel
def f23_0 (p0 : Int32) (p1 : Int32) : Int64 := (((p0.toInt64) <<< ((32 : Int32) &&& 0x3f).toInt64) ||| ((p1.toInt64) &&& (4294967295 : Int64)))
set_option maxRecDepth 65536 in
set_option maxHeartbeats 40000000 in
theorem ro23_0 {p : Program} {l : Launch} {e : Env} {s : State} {m : MethodId} {args : Array Value} {below : List Frame} {meth : Method} {c : Code} {T : State} {locs : List Loc} {cells slots : Nat} {Z : State} {a0 : Array Value} {h : Heap} {ce sl : Nat} {Q : Option Value → Heap → List Loc → Prop} (p0 : Int32) (p1 : Int32)
    (X : Stand p l e ({ frames := 0, cells := 0, slots := 0, locals := 0 } : Room) s m args below meth c T locs cells slots) (hx : p.tables.exec = Jvm.exec) (hZ : Z.Warmed39 s.vm) (hw : ∀ d ∈ tables_1, d.before a0 Z = true) (hby : c.code = prog_18_method_46_code) (hml : c.maxLocals = 2) (hown : s.vm.findClass "com/example/fixpoint_checker/fixpointchecker/bdd/DecisionDiagrams" = some m.cls) (hret : meth.sig.returnType = some .long) (hlk : meth.locks = false) (eT : T.heap = h) (hc : cells ≤ ce) (hs : slots ≤ sl) (hcR : cells ≤ (({ frames := 0, cells := 0, slots := 0, locals := 0 } : Room)).cells) (hsR : slots ≤ (({ frames := 0, cells := 0, slots := 0, locals := 0 } : Room)).slots)
    (hQ : Q (some (.long (f23_0 p0 p1))) h locs) : OFin p e below s ce sl Q (T.setTop (mkF m 0 #[.val (.int p0), .val (.int p1)] [])) := by
  obtain ⟨r, hr0⟩ : ∃ r, f23_0 p0 p1 = r := ⟨_, rfl⟩
  rw [hr0] at hQ
  have B0 : ∀ (T : State) , Stand p l e ({ frames := 0, cells := 0, slots := 0, locals := 0 } : Room) s m args below meth c T locs cells slots → T.heap = h → f23_0 p0 p1 = r → OFin p e below s ce sl Q (T.setTop (mkF m 0 #[.val (.int p0), .val (.int p1)] [])) := by
    intro T  X eT hr
    refine OFin.to (T.setTop (mkF m 1 #[.val (.int p0), .val (.int p1)] [(.int p0)])) (fun _ kt => XS.iloadN X.here hx rfl (hb hby d23_0) rfl kt) ?_
    refine OFin.to (T.setTop (mkF m 2 #[.val (.int p0), .val (.int p1)] [(.long (p0.toInt64))])) (fun _ kt => XS.i2l X.here hx rfl (hb hby d23_1) rfl kt) ?_
    refine OFin.to (T.setTop (mkF m 4 #[.val (.int p0), .val (.int p1)] [(.int (32 : Int32)), (.long (p0.toInt64))])) (fun _ kt => XS.bipush X.here hx rfl (hb hby d23_2) kt) ?_
    refine OFin.to (T.setTop (mkF m 5 #[.val (.int p0), .val (.int p1)] [(.long ((p0.toInt64) <<< ((32 : Int32) &&& 0x3f).toInt64))])) (fun _ kt => XS.lshl X.here hx rfl (hb hby d23_4) rfl kt) ?_
    refine OFin.to (T.setTop (mkF m 6 #[.val (.int p0), .val (.int p1)] [(.int p1), (.long ((p0.toInt64) <<< ((32 : Int32) &&& 0x3f).toInt64))])) (fun _ kt => XS.iloadN X.here hx rfl (hb hby d23_5) rfl kt) ?_
    refine OFin.to (T.setTop (mkF m 7 #[.val (.int p0), .val (.int p1)] [(.long (p1.toInt64)), (.long ((p0.toInt64) <<< ((32 : Int32) &&& 0x3f).toInt64))])) (fun _ kt => XS.i2l X.here hx rfl (hb hby d23_6) rfl kt) ?_
    refine OFin.to (T.setTop (mkF m 10 #[.val (.int p0), .val (.int p1)] [(.long (4294967295 : Int64)), (.long (p1.toInt64)), (.long ((p0.toInt64) <<< ((32 : Int32) &&& 0x3f).toInt64))])) (fun _ kt => X.ldc2J hx hown (mvT hZ (hw _ (List.mem_of_getElem? (i := 212) rfl))) (g := (mkF m 7 #[.val (.int p0), .val (.int p1)] [(.long (p1.toInt64)), (.long ((p0.toInt64) <<< ((32 : Int32) &&& 0x3f).toInt64))])) rfl (hb hby d23_7) kt) ?_
    refine OFin.to (T.setTop (mkF m 11 #[.val (.int p0), .val (.int p1)] [(.long ((p1.toInt64) &&& (4294967295 : Int64))), (.long ((p0.toInt64) <<< ((32 : Int32) &&& 0x3f).toInt64))])) (fun _ kt => XS.land X.here hx rfl (hb hby d23_10) rfl kt) ?_
    refine OFin.to (T.setTop (mkF m 12 #[.val (.int p0), .val (.int p1)] [(.long (((p0.toInt64) <<< ((32 : Int32) &&& 0x3f).toInt64) ||| ((p1.toInt64) &&& (4294967295 : Int64))))])) (fun _ kt => XS.lor X.here hx rfl (hb hby d23_11) rfl kt) ?_
    exact OFin.retJ X hx hret hlk (hb hby d23_12) hc hs (own_qJ hr eT hQ)
  exact B0 T X eT hr0
theorem pn_23 : plainName "com/example/fixpoint_checker/fixpointchecker/bdd/DecisionDiagrams" = true := by first | (simp [plainName, overriddenIn]; done) | decide +kernel
theorem ef_23 (m : MethodId) (p0 : Int32) (p1 : Int32) : entryFrame m #[(.int p0), (.int p1)] 2 = mkF m 0 #[.val (.int p0), .val (.int p1)] [] := by first | (simp [entryFrame, mkF, argsToLocals, Value.category]; done) | rfl
set_option maxRecDepth 65536 in
set_option maxHeartbeats 40000000 in
theorem rm23 (l : Launch) (Z : State) (a0 : Array Value) (hw : ∀ d ∈ tables_1, d.before a0 Z = true) (ws : List Jvm.Cond) (p0 : Int32) (p1 : Int32) (h0 : Heap) :
    MetFree l (⟨"com/example/fixpoint_checker/fixpointchecker/bdd/DecisionDiagrams", "children", "(II)J"⟩ : MethodName) (head1 (Jvm.Cond.code (⟨"com/example/fixpoint_checker/fixpointchecker/bdd/DecisionDiagrams", "children", "(II)J"⟩ : MethodName) prog_18_method_46_code 2 (some .long) :: ws) ({ frames := 0, cells := 0, slots := 0, locals := 0 } : Room)) (fun a_ U => a_ = #[(.int p0), (.int p1)] ∧ Z.Warmed39 U.vm ∧ U.heap = h0) (fun _ _ _ _ _ => True) (fun _ U o_ U' => ∃ v L, o_ = .returned v ∧ OQ (fun v h L => v = some (.long (f23_0 p0 p1)) ∧ h = h0 ∧ L = []) v U'.heap L ∧ FrameEnd U o_ U' L ({ frames := 0, cells := 0, slots := 0, locals := 0 } : Room).cells ({ frames := 0, cells := 0, slots := 0, locals := 0 } : Room).slots) := by
  refine MetFree.of_bodySF (plainFor_of_name pn_23) hisR ?_
  intro p e s m args below meth c s₁ Bd hml0 hP hK
  obtain ⟨rfl, hZ, hh⟩ := hP
  have hx := Bd.exec
  have hby := Bd.bytes
  have hml : c.maxLocals = 2 := hml0
  have hown : s.vm.findClass "com/example/fixpoint_checker/fixpointchecker/bdd/DecisionDiagrams" = some m.cls := findClass_of_methodNamed Bd.named
  have hnm := (name_of_methodNamed Bd.named Bd.method).1
  have hret := Bd.returns
  have hlk : meth.locks = false := Bd.notSynchronized
  have X0 : Stand p l e ({ frames := 0, cells := 0, slots := 0, locals := 0 } : Room) s m #[(.int p0), (.int p1)] below meth c s₁ [] 0 0 := Stand.of_body Bd
  have e0 : s₁.heap = h0 := by rw [← hh, Bd.state]; rfl
  refine OFin.start (Q := fun v h L => v = some (.long (f23_0 p0 p1)) ∧ h = h0 ∧ L = []) (s := s) (fun t kt => castTop (ef_23 m p0 p1) kt) ?_
  exact ro23_0 p0 p1 X0 hx hZ hw hby hml hown hret hlk e0 (Nat.zero_le _) (Nat.zero_le _) (Nat.zero_le _) (Nat.zero_le _)  ⟨rfl, rfl, rfl⟩
theorem d5_0 : decode jdk_71_method_1_code 0 = .ok (.aload_n 0, 1) := by decide +kernel
theorem d5_1 : decode jdk_71_method_1_code 1 = .ok (.invokespecial 1, 3) := by decide +kernel
theorem d5_4 : decode jdk_71_method_1_code 4 = .ok (.return_, 1) := by decide +kernel
theorem pn_5 : plainName "java/util/AbstractMap" = true := by first | (simp [plainName, overriddenIn]; done) | decide +kernel
theorem ef_5 (m : MethodId) (a0 : Addr) : entryFrame m #[(.ref a0)] 1 = mkF m 0 #[.val (.ref a0)] [] := by first | (simp [entryFrame, mkF, argsToLocals, Value.category]; done) | rfl
set_option maxRecDepth 65536 in
set_option maxHeartbeats 40000000 in
theorem rm5 (l : Launch) (Z : State) (a0 : Array Value) (hw : ∀ d ∈ tables_1, d.before a0 Z = true) (ws : List Jvm.Cond) (o : Addr) (h0 : Heap) (n0 : Nat) (Z0 : n0 ≤ h0.size) :
    MetFree l (⟨"java/util/AbstractMap", "<init>", "()V"⟩ : MethodName) (head1 (Jvm.Cond.code (⟨"java/util/AbstractMap", "<init>", "()V"⟩ : MethodName) jdk_71_method_1_code 1 none :: ws) ({ frames := 1, cells := 0, slots := 0, locals := 12 } : Room)) (fun a_ U => a_ = #[(.ref o)] ∧ Z.Warmed39 U.vm ∧ U.heap = h0) (fun _ _ _ _ _ => True) (fun _ U o_ U' => ∃ v L, o_ = .returned v ∧ OQ (fun v h L => v = none ∧ Keep h0 h [] ∧ Fr n0 L) v U'.heap L ∧ FrameEnd U o_ U' L ({ frames := 1, cells := 0, slots := 0, locals := 12 } : Room).cells ({ frames := 1, cells := 0, slots := 0, locals := 12 } : Room).slots) := by
  refine MetFree.of_bodySF (plainFor_of_name pn_5) hisR ?_
  intro p e s m args below meth c s₁ Bd hml0 hP hK
  obtain ⟨rfl, hZ, hh⟩ := hP
  have hx := Bd.exec
  have hby := Bd.bytes
  have hml : c.maxLocals = 1 := hml0
  have hown : s.vm.findClass "java/util/AbstractMap" = some m.cls := findClass_of_methodNamed Bd.named
  have hnm := (name_of_methodNamed Bd.named Bd.method).1
  have hret := Bd.returns
  have hlk : meth.locks = false := Bd.notSynchronized
  have X0 : Stand p l e ({ frames := 1, cells := 0, slots := 0, locals := 12 } : Room) s m #[(.ref o)] below meth c s₁ [] 0 0 := Stand.of_body Bd
  have e0 : s₁.heap = h0 := by rw [← hh, Bd.state]; rfl
  refine OFin.start (Q := fun v h L => v = none ∧ Keep h0 h [] ∧ Fr n0 L) (s := s) (fun t kt => castTop (ef_5 m (o)) kt) ?_
  refine OFin.to (s₁.setTop (mkF m 1 #[.val (.ref o)] [(.ref o)])) (fun _ kt => XS.aloadN X0.here hx rfl (hb hby d5_0) rfl rfl kt) ?_
  obtain ⟨T1, X1, e1, st1⟩ := initO X0 hx hZ hown (hw _ (List.mem_of_getElem? (i := 26) rfl)) (hw _ (List.mem_of_getElem? (i := 12) rfl)) (hw _ (List.mem_of_getElem? (i := 13) rfl)) e0 (g := (mkF m 1 #[.val (.ref o)] [(.ref o)])) rfl (by rw [hml]; rfl) rfl (hb hby d5_1) (by decide) (W := 0) (by show 2 * 0 + _ ≤ _; exact Nat.le_of_eq rfl) (by decide)
  refine OFin.to (T1.setTop (mkF m 4 #[.val (.ref o)] [])) st1 ?_
  exact OFin.retV X1 hx hret hlk (hb hby d5_4) (by decide) (by decide) (by rw [e1]; exact ⟨rfl, (Keep.refl h0 []), (Fr.nil n0)⟩)
theorem d12_0 : decode jdk_22_method_1_code 0 = .ok (.aload_n 0, 1) := by decide +kernel
theorem d12_1 : decode jdk_22_method_1_code 1 = .ok (.invokespecial 1, 3) := by decide +kernel
theorem d12_4 : decode jdk_22_method_1_code 4 = .ok (.return_, 1) := by decide +kernel
theorem pn_12 : plainName "java/util/AbstractCollection" = true := by first | (simp [plainName, overriddenIn]; done) | decide +kernel
theorem ef_12 (m : MethodId) (a0 : Addr) : entryFrame m #[(.ref a0)] 1 = mkF m 0 #[.val (.ref a0)] [] := by first | (simp [entryFrame, mkF, argsToLocals, Value.category]; done) | rfl
set_option maxRecDepth 65536 in
set_option maxHeartbeats 40000000 in
theorem rm12 (l : Launch) (Z : State) (a0 : Array Value) (hw : ∀ d ∈ tables_1, d.before a0 Z = true) (ws : List Jvm.Cond) (o : Addr) (h0 : Heap) (n0 : Nat) (Z0 : n0 ≤ h0.size) :
    MetFree l (⟨"java/util/AbstractCollection", "<init>", "()V"⟩ : MethodName) (head1 (Jvm.Cond.code (⟨"java/util/AbstractCollection", "<init>", "()V"⟩ : MethodName) jdk_22_method_1_code 1 none :: ws) ({ frames := 1, cells := 0, slots := 0, locals := 12 } : Room)) (fun a_ U => a_ = #[(.ref o)] ∧ Z.Warmed39 U.vm ∧ U.heap = h0) (fun _ _ _ _ _ => True) (fun _ U o_ U' => ∃ v L, o_ = .returned v ∧ OQ (fun v h L => v = none ∧ Keep h0 h [] ∧ Fr n0 L) v U'.heap L ∧ FrameEnd U o_ U' L ({ frames := 1, cells := 0, slots := 0, locals := 12 } : Room).cells ({ frames := 1, cells := 0, slots := 0, locals := 12 } : Room).slots) := by
  refine MetFree.of_bodySF (plainFor_of_name pn_12) hisR ?_
  intro p e s m args below meth c s₁ Bd hml0 hP hK
  obtain ⟨rfl, hZ, hh⟩ := hP
  have hx := Bd.exec
  have hby := Bd.bytes
  have hml : c.maxLocals = 1 := hml0
  have hown : s.vm.findClass "java/util/AbstractCollection" = some m.cls := findClass_of_methodNamed Bd.named
  have hnm := (name_of_methodNamed Bd.named Bd.method).1
  have hret := Bd.returns
  have hlk : meth.locks = false := Bd.notSynchronized
  have X0 : Stand p l e ({ frames := 1, cells := 0, slots := 0, locals := 12 } : Room) s m #[(.ref o)] below meth c s₁ [] 0 0 := Stand.of_body Bd
  have e0 : s₁.heap = h0 := by rw [← hh, Bd.state]; rfl
  refine OFin.start (Q := fun v h L => v = none ∧ Keep h0 h [] ∧ Fr n0 L) (s := s) (fun t kt => castTop (ef_12 m (o)) kt) ?_
  refine OFin.to (s₁.setTop (mkF m 1 #[.val (.ref o)] [(.ref o)])) (fun _ kt => XS.aloadN X0.here hx rfl (hb hby d12_0) rfl rfl kt) ?_
  obtain ⟨T1, X1, e1, st1⟩ := initO X0 hx hZ hown (hw _ (List.mem_of_getElem? (i := 109) rfl)) (hw _ (List.mem_of_getElem? (i := 12) rfl)) (hw _ (List.mem_of_getElem? (i := 13) rfl)) e0 (g := (mkF m 1 #[.val (.ref o)] [(.ref o)])) rfl (by rw [hml]; rfl) rfl (hb hby d12_1) (by decide) (W := 0) (by show 2 * 0 + _ ≤ _; exact Nat.le_of_eq rfl) (by decide)
  refine OFin.to (T1.setTop (mkF m 4 #[.val (.ref o)] [])) st1 ?_
  exact OFin.retV X1 hx hret hlk (hb hby d12_4) (by decide) (by decide) (by rw [e1]; exact ⟨rfl, (Keep.refl h0 []), (Fr.nil n0)⟩)
theorem d4_0 : decode jdk_69_method_7_code 0 = .ok (.aload_n 0, 1) := by decide +kernel
theorem d4_1 : decode jdk_69_method_7_code 1 = .ok (.invokespecial 43, 3) := by decide +kernel
theorem d4_4 : decode jdk_69_method_7_code 4 = .ok (.aload_n 0, 1) := by decide +kernel
theorem d4_5 : decode jdk_69_method_7_code 5 = .ok (.ldc 92, 2) := by decide +kernel
theorem d4_7 : decode jdk_69_method_7_code 7 = .ok (.putfield 81, 3) := by decide +kernel
theorem d4_10 : decode jdk_69_method_7_code 10 = .ok (.return_, 1) := by decide +kernel
theorem pn_4 : plainName "java/util/HashMap" = true := by first | (simp [plainName, overriddenIn]; done) | decide +kernel
theorem ef_4 (m : MethodId) (a0 : Addr) : entryFrame m #[(.ref a0)] 1 = mkF m 0 #[.val (.ref a0)] [] := by first | (simp [entryFrame, mkF, argsToLocals, Value.category]; done) | rfl
set_option maxRecDepth 65536 in
set_option maxHeartbeats 40000000 in
theorem rm4 (l : Launch) (Z : State) (a0 : Array Value) (hw : ∀ d ∈ tables_1, d.before a0 Z = true) (ws : List Jvm.Cond) (o : Addr)  (h0 : Heap) (n0 : Nat) (Z0 : n0 ≤ h0.size) (g_o : n0 ≤ o) (E_o : Exa Z h0 o "java/util/HashMap") {u_loadFactor : Value} (F_loadFactor_o : Fld Z h0 o "java/util/HashMap" "loadFactor" "F" u_loadFactor) :
    MetFree l (⟨"java/util/HashMap", "<init>", "()V"⟩ : MethodName) (head1 (Jvm.Cond.code (⟨"java/util/HashMap", "<init>", "()V"⟩ : MethodName) jdk_69_method_7_code 1 none :: ws) ({ frames := 2, cells := 0, slots := 0, locals := 24 } : Room)) (fun a_ U => a_ = #[(.ref o)] ∧ Z.Warmed39 U.vm ∧ U.heap = h0) (fun _ _ _ _ _ => True) (fun _ U o_ U' => ∃ v L, o_ = .returned v ∧ OQ (fun v h L => v = none ∧ Keep h0 h [o] ∧ Fr n0 L) v U'.heap L ∧ FrameEnd U o_ U' L ({ frames := 2, cells := 0, slots := 0, locals := 24 } : Room).cells ({ frames := 2, cells := 0, slots := 0, locals := 24 } : Room).slots) := by
  refine MetFree.of_bodySF (plainFor_of_name pn_4) hisR ?_
  intro p e s m args below meth c s₁ Bd hml0 hP hK
  obtain ⟨rfl, hZ, hh⟩ := hP
  have hx := Bd.exec
  have hby := Bd.bytes
  have hml : c.maxLocals = 1 := hml0
  have hown : s.vm.findClass "java/util/HashMap" = some m.cls := findClass_of_methodNamed Bd.named
  have hnm := (name_of_methodNamed Bd.named Bd.method).1
  have hret := Bd.returns
  have hlk : meth.locks = false := Bd.notSynchronized
  have X0 : Stand p l e ({ frames := 2, cells := 0, slots := 0, locals := 24 } : Room) s m #[(.ref o)] below meth c s₁ [] 0 0 := Stand.of_body Bd
  have e0 : s₁.heap = h0 := by rw [← hh, Bd.state]; rfl
  refine OFin.start (Q := fun v h L => v = none ∧ Keep h0 h [o] ∧ Fr n0 L) (s := s) (fun t kt => castTop (ef_4 m (o)) kt) ?_
  refine OFin.to (s₁.setTop (mkF m 1 #[.val (.ref o)] [(.ref o)])) (fun _ kt => XS.aloadN X0.here hx rfl (hb hby d4_0) rfl rfl kt) ?_
  obtain ⟨v1, T1, L1, hQ1, X1, st1⟩ := own_callN X0 hx hZ hown rfl (hw _ (List.mem_of_getElem? (i := 20) rfl)) (hw _ (List.mem_of_getElem? (i := 21) rfl)) (hw _ (List.mem_of_getElem? (i := 25) rfl)) (hw _ (List.mem_of_getElem? (i := 24) rfl)) (by decide) e0 (rm5 l Z a0 hw [] o h0 n0 Z0 ) 0 (by decide) (by decide) (by decide) (by decide) (g := (mkF m 1 #[.val (.ref o)] [(.ref o)])) rfl (by rw [hml]; rfl) (rest := []) (lenOf pd_1 rfl) rfl (by show 2 * 0 + _ ≤ _; exact Nat.le_of_eq rfl) (hb hby d4_1)
  obtain ⟨rfl, Kq1, Nq1⟩ := hQ1
  refine OFin.to (T1.setTop (mkF m 4 #[.val (.ref o)] [])) st1 ?_
  have N1 := Fr.app (Fr.nil n0) Nq1
  have Z1 := Nat.le_trans Z0 Kq1.1
  have E_o_1 := E_o.keep Kq1
  have F_loadFactor_o_1 := F_loadFactor_o.keep Kq1 nin0
  have KK1 := (Keep.refl h0 [o]).trans Kq1 (fun x hx' => absurd hx' nin0)
  refine OFin.to (T1.setTop (mkF m 5 #[.val (.ref o)] [(.ref o)])) (fun _ kt => XS.aloadN X1.here hx rfl (hb hby d4_4) rfl rfl kt) ?_
  refine OFin.to (T1.setTop (mkF m 7 #[.val (.ref o)] [(.float (1061158912 : UInt32)), (.ref o)])) (X1.ldcFloatC hx hown (mvT hZ (hw _ (List.mem_of_getElem? (i := 27) rfl))) (g := (mkF m 5 #[.val (.ref o)] [(.ref o)])) rfl (hb hby d4_5)) ?_
  obtain ⟨T2, h2, X2, e2, W2, st2⟩ := putF X1 hx hZ hown (host := "") (Or.inl (hw _ (List.mem_of_getElem? (i := 28) rfl))) Via.refl rfl F_loadFactor_o_1 E_o_1 (Or.inr ⟨(hw _ (List.mem_of_getElem? (i := 29) rfl)), rfl, hnm⟩) (hw _ (List.mem_of_getElem? (i := 15) rfl)) (ty := .float) (by decide) rfl rfl (g := (mkF m 7 #[.val (.ref o)] [(.float (1061158912 : UInt32)), (.ref o)])) rfl rfl (hb hby d4_7)
  have E_o_2 := E_o_1.wr W2
  have F_loadFactor_o_2 := F_loadFactor_o_1.same W2
  have K2 := KK1.wr W2 (Or.inl (by simp))
  have N2 := Fr.snoc X2 N1 g_o
  have Z2 := Nat.le_trans Z1 (Keep.of_wr W2).1
  refine OFin.to (T2.setTop (mkF m 10 #[.val (.ref o)] [])) st2 ?_
  exact OFin.retV X2 hx hret hlk (hb hby d4_10) (by decide) (by decide) (by rw [e2]; exact ⟨rfl, K2, N2⟩)
theorem d9_0 : decode prog_2_method_2_code 0 = .ok (.aload_n 0, 1) := by decide +kernel
theorem d9_1 : decode prog_2_method_2_code 1 = .ok (.invokespecial 9, 3) := by decide +kernel
theorem d9_4 : decode prog_2_method_2_code 4 = .ok (.aload_n 0, 1) := by decide +kernel
theorem d9_5 : decode prog_2_method_2_code 5 = .ok (.iload_n 1, 1) := by decide +kernel
theorem d9_6 : decode prog_2_method_2_code 6 = .ok (.iconst 1, 1) := by decide +kernel
theorem d9_7 : decode prog_2_method_2_code 7 = .ok (.invokestatic 14, 3) := by decide +kernel
theorem d9_10 : decode prog_2_method_2_code 10 = .ok (.newarray .int, 2) := by decide +kernel
theorem d9_12 : decode prog_2_method_2_code 12 = .ok (.putfield 20, 3) := by decide +kernel
theorem d9_15 : decode prog_2_method_2_code 15 = .ok (.return_, 1) := by decide +kernel
theorem pn_9 : plainName "com/example/fixpoint_checker/fixpointchecker/IntList" = true := by first | (simp [plainName, overriddenIn]; done) | decide +kernel
theorem ef_9 (m : MethodId) (a0 : Addr) (p1 : Int32) : entryFrame m #[(.ref a0), (.int p1)] 2 = mkF m 0 #[.val (.ref a0), .val (.int p1)] [] := by first | (simp [entryFrame, mkF, argsToLocals, Value.category]; done) | rfl
set_option maxRecDepth 65536 in
set_option maxHeartbeats 40000000 in
theorem rm9 (l : Launch) (Z : State) (a0 : Array Value) (hw : ∀ d ∈ tables_1, d.before a0 Z = true) (ws : List Jvm.Cond) (o : Addr)  (h0 : Heap) (n0 : Nat) (Z0 : n0 ≤ h0.size) (g_o : n0 ≤ o) (E_o : Exa Z h0 o "com/example/fixpoint_checker/fixpointchecker/IntList") {u_values : Value} (F_values_o : Fld Z h0 o "com/example/fixpoint_checker/fixpointchecker/IntList" "values" "[I" u_values) :
    MetFree l (⟨"com/example/fixpoint_checker/fixpointchecker/IntList", "<init>", "(I)V"⟩ : MethodName) (head1 (Jvm.Cond.code (⟨"com/example/fixpoint_checker/fixpointchecker/IntList", "<init>", "(I)V"⟩ : MethodName) prog_2_method_2_code 2 none :: ws) ({ frames := 1, cells := 1, slots := 16, locals := 14 } : Room)) (fun a_ U => a_ = #[(.ref o), (.int (16 : Int32))] ∧ Z.Warmed39 U.vm ∧ U.heap = h0) (fun _ _ _ _ _ => True) (fun _ U o_ U' => ∃ v L, o_ = .returned v ∧ OQ (fun v h L => v = none ∧ Keep h0 h [o] ∧ Fr n0 L) v U'.heap L ∧ FrameEnd U o_ U' L ({ frames := 1, cells := 1, slots := 16, locals := 14 } : Room).cells ({ frames := 1, cells := 1, slots := 16, locals := 14 } : Room).slots) := by
  refine MetFree.of_bodySF (plainFor_of_name pn_9) hisR ?_
  intro p e s m args below meth c s₁ Bd hml0 hP hK
  obtain ⟨rfl, hZ, hh⟩ := hP
  have hx := Bd.exec
  have hby := Bd.bytes
  have hml : c.maxLocals = 2 := hml0
  have hown : s.vm.findClass "com/example/fixpoint_checker/fixpointchecker/IntList" = some m.cls := findClass_of_methodNamed Bd.named
  have hnm := (name_of_methodNamed Bd.named Bd.method).1
  have hret := Bd.returns
  have hlk : meth.locks = false := Bd.notSynchronized
  have X0 : Stand p l e ({ frames := 1, cells := 1, slots := 16, locals := 14 } : Room) s m #[(.ref o), (.int (16 : Int32))] below meth c s₁ [] 0 0 := Stand.of_body Bd
  have e0 : s₁.heap = h0 := by rw [← hh, Bd.state]; rfl
  refine OFin.start (Q := fun v h L => v = none ∧ Keep h0 h [o] ∧ Fr n0 L) (s := s) (fun t kt => castTop (ef_9 m (o) ((16 : Int32))) kt) ?_
  refine OFin.to (s₁.setTop (mkF m 1 #[.val (.ref o), .val (.int (16 : Int32))] [(.ref o)])) (fun _ kt => XS.aloadN X0.here hx rfl (hb hby d9_0) rfl rfl kt) ?_
  obtain ⟨T1, X1, e1, st1⟩ := initO X0 hx hZ hown (hw _ (List.mem_of_getElem? (i := 77) rfl)) (hw _ (List.mem_of_getElem? (i := 12) rfl)) (hw _ (List.mem_of_getElem? (i := 13) rfl)) e0 (g := (mkF m 1 #[.val (.ref o), .val (.int (16 : Int32))] [(.ref o)])) rfl (by rw [hml]; rfl) rfl (hb hby d9_1) (by decide) (W := 0) (by show 2 * 0 + _ ≤ _; exact Nat.le_of_eq rfl) (by decide)
  refine OFin.to (T1.setTop (mkF m 4 #[.val (.ref o), .val (.int (16 : Int32))] [])) st1 ?_
  refine OFin.to (T1.setTop (mkF m 5 #[.val (.ref o), .val (.int (16 : Int32))] [(.ref o)])) (fun _ kt => XS.aloadN X1.here hx rfl (hb hby d9_4) rfl rfl kt) ?_
  refine OFin.to (T1.setTop (mkF m 6 #[.val (.ref o), .val (.int (16 : Int32))] [(.int (16 : Int32)), (.ref o)])) (fun _ kt => XS.iloadN X1.here hx rfl (hb hby d9_5) rfl kt) ?_
  refine OFin.to (T1.setTop (mkF m 7 #[.val (.ref o), .val (.int (16 : Int32))] [(.int (1 : Int32)), (.int (16 : Int32)), (.ref o)])) (fun _ kt => XS.iconst X1.here hx rfl (hb hby d9_6) kt) ?_
  obtain ⟨v2, T2, L2, hQ2, X2, st2⟩ := own_callS X1 hx hZ hown (hw _ (List.mem_of_getElem? (i := 78) rfl)) (hw _ (List.mem_of_getElem? (i := 2) rfl)) (hw _ (List.mem_of_getElem? (i := 3) rfl)) (hw _ (List.mem_of_getElem? (i := 4) rfl)) (by decide) e1 (rm1 l Z a0 hw [] (16 : Int32) (1 : Int32) h0) 1 (by decide) (by decide) (by decide) (by decide) (g := (mkF m 7 #[.val (.ref o), .val (.int (16 : Int32))] [(.int (1 : Int32)), (.int (16 : Int32)), (.ref o)])) rfl (by rw [hml]; rfl) (rest := [(.ref o)]) (lenOf pd_2 rfl) rfl (by show 2 * 0 + _ ≤ _; exact Nat.le_of_eq rfl) (hb hby d9_7)
  obtain ⟨rfl, e2, rfl⟩ := hQ2
  rw [List.append_nil] at X2
  refine OFin.to (T2.setTop (mkF m 10 #[.val (.ref o), .val (.int (16 : Int32))] [(.int (f1_0 (16 : Int32) (1 : Int32))), (.ref o)])) st2 ?_
  rw [show (f1_0 (16 : Int32) (1 : Int32)) = (16 : Int32) from by decide +kernel]
  obtain ⟨T3, h3, X3, e3, E3, V3, st3⟩ := own_newP X2 hx hZ (hw _ (List.mem_of_getElem? (i := 59) rfl)) e2 (g := (mkF m 10 #[.val (.ref o), .val (.int (16 : Int32))] [(.int (16 : Int32)), (.ref o)])) rfl (hb hby d9_10) rfl (by decide) (16) rfl (cap := 16) (Nat.le_refl _) (by decide) (by decide) (by decide)
  obtain ⟨b3, g3⟩ : ∃ z, z = h0.size := ⟨_, rfl⟩
  rw [← g3] at V3 st3
  rw [own_rep] at V3
  have g_b3 : n0 ≤ b3 := by rw [g3]; exact Z0
  have ne_o_b3 : o ≠ b3 := by rw [g3]; exact Nat.ne_of_lt E_o.lt
  have sz_b3 : h0.size ≤ b3 := by rw [g3]; exact (Keep.refl h0 [o]).1
  have E_o_3 := E_o.ext E3
  have F_values_o_3 := F_values_o.ext E3
  have Z3 := Nat.le_trans Z0 E3.1
  have K3 := (Keep.refl h0 [o]).ext E3
  refine OFin.to (T3.setTop (mkF m 12 #[.val (.ref o), .val (.int (16 : Int32))] [(.ref b3), (.ref o)])) st3 ?_
  obtain ⟨T4, h4, X4, e4, W4, st4⟩ := putF X3 hx hZ hown (host := "") (Or.inl (hw _ (List.mem_of_getElem? (i := 79) rfl))) Via.refl e3 F_values_o_3 E_o_3 (Or.inl (hw _ (List.mem_of_getElem? (i := 80) rfl))) (hw _ (List.mem_of_getElem? (i := 69) rfl)) (ty := (.array .int)) (by decide) rfl rfl (g := (mkF m 12 #[.val (.ref o), .val (.int (16 : Int32))] [(.ref b3), (.ref o)])) rfl rfl (hb hby d9_12)
  have E_o_4 := E_o_3.wr W4
  have F_values_o_4 := F_values_o_3.same W4
  have K4 := K3.wr W4 (Or.inl (by simp))
  have N4 := Fr.snoc X4 (Fr.nil n0) g_o
  have Z4 := Nat.le_trans Z3 (Keep.of_wr W4).1
  refine OFin.to (T4.setTop (mkF m 15 #[.val (.ref o), .val (.int (16 : Int32))] [])) st4 ?_
  exact OFin.retV X4 hx hret hlk (hb hby d9_15) (by decide) (by decide) (by rw [e4]; exact ⟨rfl, K4, N4⟩)
theorem d8_0 : decode prog_2_method_1_code 0 = .ok (.aload_n 0, 1) := by decide +kernel
theorem d8_1 : decode prog_2_method_1_code 1 = .ok (.bipush 16, 2) := by decide +kernel
theorem d8_3 : decode prog_2_method_1_code 3 = .ok (.invokespecial 3, 3) := by decide +kernel
theorem d8_6 : decode prog_2_method_1_code 6 = .ok (.return_, 1) := by decide +kernel
theorem pn_8 : plainName "com/example/fixpoint_checker/fixpointchecker/IntList" = true := by first | (simp [plainName, overriddenIn]; done) | decide +kernel
theorem ef_8 (m : MethodId) (a0 : Addr) : entryFrame m #[(.ref a0)] 1 = mkF m 0 #[.val (.ref a0)] [] := by first | (simp [entryFrame, mkF, argsToLocals, Value.category]; done) | rfl
set_option maxRecDepth 65536 in
set_option maxHeartbeats 40000000 in
theorem rm8 (l : Launch) (Z : State) (a0 : Array Value) (hw : ∀ d ∈ tables_1, d.before a0 Z = true) (ws : List Jvm.Cond) (o : Addr)  (h0 : Heap) (n0 : Nat) (Z0 : n0 ≤ h0.size) (g_o : n0 ≤ o) (E_o : Exa Z h0 o "com/example/fixpoint_checker/fixpointchecker/IntList") {u_values : Value} (F_values_o : Fld Z h0 o "com/example/fixpoint_checker/fixpointchecker/IntList" "values" "[I" u_values) :
    MetFree l (⟨"com/example/fixpoint_checker/fixpointchecker/IntList", "<init>", "()V"⟩ : MethodName) (head1 (Jvm.Cond.code (⟨"com/example/fixpoint_checker/fixpointchecker/IntList", "<init>", "()V"⟩ : MethodName) prog_2_method_1_code 1 none :: ws) ({ frames := 2, cells := 1, slots := 16, locals := 27 } : Room)) (fun a_ U => a_ = #[(.ref o)] ∧ Z.Warmed39 U.vm ∧ U.heap = h0) (fun _ _ _ _ _ => True) (fun _ U o_ U' => ∃ v L, o_ = .returned v ∧ OQ (fun v h L => v = none ∧ Keep h0 h [o] ∧ Fr n0 L) v U'.heap L ∧ FrameEnd U o_ U' L ({ frames := 2, cells := 1, slots := 16, locals := 27 } : Room).cells ({ frames := 2, cells := 1, slots := 16, locals := 27 } : Room).slots) := by
  refine MetFree.of_bodySF (plainFor_of_name pn_8) hisR ?_
  intro p e s m args below meth c s₁ Bd hml0 hP hK
  obtain ⟨rfl, hZ, hh⟩ := hP
  have hx := Bd.exec
  have hby := Bd.bytes
  have hml : c.maxLocals = 1 := hml0
  have hown : s.vm.findClass "com/example/fixpoint_checker/fixpointchecker/IntList" = some m.cls := findClass_of_methodNamed Bd.named
  have hnm := (name_of_methodNamed Bd.named Bd.method).1
  have hret := Bd.returns
  have hlk : meth.locks = false := Bd.notSynchronized
  have X0 : Stand p l e ({ frames := 2, cells := 1, slots := 16, locals := 27 } : Room) s m #[(.ref o)] below meth c s₁ [] 0 0 := Stand.of_body Bd
  have e0 : s₁.heap = h0 := by rw [← hh, Bd.state]; rfl
  refine OFin.start (Q := fun v h L => v = none ∧ Keep h0 h [o] ∧ Fr n0 L) (s := s) (fun t kt => castTop (ef_8 m (o)) kt) ?_
  refine OFin.to (s₁.setTop (mkF m 1 #[.val (.ref o)] [(.ref o)])) (fun _ kt => XS.aloadN X0.here hx rfl (hb hby d8_0) rfl rfl kt) ?_
  refine OFin.to (s₁.setTop (mkF m 3 #[.val (.ref o)] [(.int (16 : Int32)), (.ref o)])) (fun _ kt => XS.bipush X0.here hx rfl (hb hby d8_1) kt) ?_
  obtain ⟨v1, T1, L1, hQ1, X1, st1⟩ := own_callN X0 hx hZ hown rfl (hw _ (List.mem_of_getElem? (i := 74) rfl)) (hw _ (List.mem_of_getElem? (i := 75) rfl)) (hw _ (List.mem_of_getElem? (i := 76) rfl)) (hw _ (List.mem_of_getElem? (i := 70) rfl)) (by decide) e0 (rm9 l Z a0 hw [] o h0 n0 Z0 g_o E_o F_values_o  ) 0 (by decide) (by decide) (by decide) (by decide) (g := (mkF m 3 #[.val (.ref o)] [(.int (16 : Int32)), (.ref o)])) rfl (by rw [hml]; rfl) (rest := []) (lenOf pd_3 rfl) rfl (by show 2 * 0 + _ ≤ _; exact Nat.le_of_eq rfl) (hb hby d8_3)
  obtain ⟨rfl, Kq1, Nq1⟩ := hQ1
  refine OFin.to (T1.setTop (mkF m 6 #[.val (.ref o)] [])) st1 ?_
  have N1 := Fr.app (Fr.nil n0) Nq1
  have Z1 := Nat.le_trans Z0 Kq1.1
  have E_o_1 := E_o.keep Kq1
  have KK1 := (Keep.refl h0 [o]).trans Kq1 (fun x hx' => by cases List.mem_singleton.mp hx'; exact Or.inl (by simp))
  exact OFin.retV X1 hx hret hlk (hb hby d8_6) (by decide) (by decide) ⟨rfl, KK1, N1⟩
theorem d11_0 : decode jdk_39_method_1_code 0 = .ok (.aload_n 0, 1) := by decide +kernel
theorem d11_1 : decode jdk_39_method_1_code 1 = .ok (.invokespecial 1, 3) := by decide +kernel
theorem d11_4 : decode jdk_39_method_1_code 4 = .ok (.aload_n 0, 1) := by decide +kernel
theorem d11_5 : decode jdk_39_method_1_code 5 = .ok (.iconst 0, 1) := by decide +kernel
theorem d11_6 : decode jdk_39_method_1_code 6 = .ok (.putfield 7, 3) := by decide +kernel
theorem d11_9 : decode jdk_39_method_1_code 9 = .ok (.return_, 1) := by decide +kernel
theorem pn_11 : plainName "java/util/AbstractList" = true := by first | (simp [plainName, overriddenIn]; done) | decide +kernel
theorem ef_11 (m : MethodId) (a0 : Addr) : entryFrame m #[(.ref a0)] 1 = mkF m 0 #[.val (.ref a0)] [] := by first | (simp [entryFrame, mkF, argsToLocals, Value.category]; done) | rfl
set_option maxRecDepth 65536 in
set_option maxHeartbeats 40000000 in
theorem rm11 (l : Launch) (Z : State) (a0 : Array Value) (hw : ∀ d ∈ tables_1, d.before a0 Z = true) (ws : List Jvm.Cond) (o : Addr)  (h0 : Heap) (n0 : Nat) (Z0 : n0 ≤ h0.size) (g_o : n0 ≤ o) (E_o : Exa Z h0 o "java/util/ArrayList") {u_modCount : Value} (F_modCount_o : Fld Z h0 o "java/util/AbstractList" "modCount" "I" u_modCount) {u_elementData : Value} (F_elementData_o : Fld Z h0 o "java/util/ArrayList" "elementData" "[Ljava/lang/Object;" u_elementData) :
    MetFree l (⟨"java/util/AbstractList", "<init>", "()V"⟩ : MethodName) (head1 (Jvm.Cond.code (⟨"java/util/AbstractList", "<init>", "()V"⟩ : MethodName) jdk_39_method_1_code 1 none :: ws) ({ frames := 2, cells := 0, slots := 0, locals := 24 } : Room)) (fun a_ U => a_ = #[(.ref o)] ∧ Z.Warmed39 U.vm ∧ U.heap = h0) (fun _ _ _ _ _ => True) (fun _ U o_ U' => ∃ v L, o_ = .returned v ∧ OQ (fun v h L => v = none ∧ Keep h0 h [o] ∧ Fr n0 L ∧ Fld Z h o "java/util/ArrayList" "elementData" "[Ljava/lang/Object;" u_elementData) v U'.heap L ∧ FrameEnd U o_ U' L ({ frames := 2, cells := 0, slots := 0, locals := 24 } : Room).cells ({ frames := 2, cells := 0, slots := 0, locals := 24 } : Room).slots) := by
  refine MetFree.of_bodySF (plainFor_of_name pn_11) hisR ?_
  intro p e s m args below meth c s₁ Bd hml0 hP hK
  obtain ⟨rfl, hZ, hh⟩ := hP
  have hx := Bd.exec
  have hby := Bd.bytes
  have hml : c.maxLocals = 1 := hml0
  have hown : s.vm.findClass "java/util/AbstractList" = some m.cls := findClass_of_methodNamed Bd.named
  have hnm := (name_of_methodNamed Bd.named Bd.method).1
  have hret := Bd.returns
  have hlk : meth.locks = false := Bd.notSynchronized
  have X0 : Stand p l e ({ frames := 2, cells := 0, slots := 0, locals := 24 } : Room) s m #[(.ref o)] below meth c s₁ [] 0 0 := Stand.of_body Bd
  have e0 : s₁.heap = h0 := by rw [← hh, Bd.state]; rfl
  refine OFin.start (Q := fun v h L => v = none ∧ Keep h0 h [o] ∧ Fr n0 L ∧ Fld Z h o "java/util/ArrayList" "elementData" "[Ljava/lang/Object;" u_elementData) (s := s) (fun t kt => castTop (ef_11 m (o)) kt) ?_
  refine OFin.to (s₁.setTop (mkF m 1 #[.val (.ref o)] [(.ref o)])) (fun _ kt => XS.aloadN X0.here hx rfl (hb hby d11_0) rfl rfl kt) ?_
  obtain ⟨v1, T1, L1, hQ1, X1, st1⟩ := own_callN X0 hx hZ hown rfl (hw _ (List.mem_of_getElem? (i := 103) rfl)) (hw _ (List.mem_of_getElem? (i := 104) rfl)) (hw _ (List.mem_of_getElem? (i := 108) rfl)) (hw _ (List.mem_of_getElem? (i := 107) rfl)) (by decide) e0 (rm12 l Z a0 hw [] o h0 n0 Z0 ) 0 (by decide) (by decide) (by decide) (by decide) (g := (mkF m 1 #[.val (.ref o)] [(.ref o)])) rfl (by rw [hml]; rfl) (rest := []) (lenOf pd_1 rfl) rfl (by show 2 * 0 + _ ≤ _; exact Nat.le_of_eq rfl) (hb hby d11_1)
  obtain ⟨rfl, Kq1, Nq1⟩ := hQ1
  refine OFin.to (T1.setTop (mkF m 4 #[.val (.ref o)] [])) st1 ?_
  have N1 := Fr.app (Fr.nil n0) Nq1
  have Z1 := Nat.le_trans Z0 Kq1.1
  have E_o_1 := E_o.keep Kq1
  have F_modCount_o_1 := F_modCount_o.keep Kq1 nin0
  have F_elementData_o_1 := F_elementData_o.keep Kq1 nin0
  have KK1 := (Keep.refl h0 [o]).trans Kq1 (fun x hx' => absurd hx' nin0)
  refine OFin.to (T1.setTop (mkF m 5 #[.val (.ref o)] [(.ref o)])) (fun _ kt => XS.aloadN X1.here hx rfl (hb hby d11_4) rfl rfl kt) ?_
  refine OFin.to (T1.setTop (mkF m 6 #[.val (.ref o)] [(.int (0 : Int32)), (.ref o)])) (fun _ kt => XS.iconst X1.here hx rfl (hb hby d11_5) kt) ?_
  obtain ⟨T2, h2, X2, e2, W2, st2⟩ := putF X1 hx hZ hown (host := "") (Or.inl (hw _ (List.mem_of_getElem? (i := 110) rfl))) Via.refl rfl F_modCount_o_1 E_o_1 (Or.inl (hw _ (List.mem_of_getElem? (i := 111) rfl))) (hw _ (List.mem_of_getElem? (i := 92) rfl)) (ty := .int) (by decide) rfl rfl (g := (mkF m 6 #[.val (.ref o)] [(.int (0 : Int32)), (.ref o)])) rfl rfl (hb hby d11_6)
  have E_o_2 := E_o_1.wr W2
  have F_elementData_o_2 := F_elementData_o_1.other W2 (Or.inr (slot_ne (Or.inl (hw _ (List.mem_of_getElem? (i := 114) rfl))) (Or.inl (hw _ (List.mem_of_getElem? (i := 111) rfl))) (by decide) (t := (.array (.object "java/lang/Object"))) (t' := .int) (by decide) (by decide)))
  have F_modCount_o_2 := F_modCount_o_1.same W2
  have K2 := KK1.wr W2 (Or.inl (by simp))
  have N2 := Fr.snoc X2 N1 g_o
  have Z2 := Nat.le_trans Z1 (Keep.of_wr W2).1
  refine OFin.to (T2.setTop (mkF m 9 #[.val (.ref o)] [])) st2 ?_
  exact OFin.retV X2 hx hret hlk (hb hby d11_9) (by decide) (by decide) (by rw [e2]; exact ⟨rfl, K2, N2, F_elementData_o_2⟩)
theorem d10_0 : decode jdk_38_method_2_code 0 = .ok (.aload_n 0, 1) := by decide +kernel
theorem d10_1 : decode jdk_38_method_2_code 1 = .ok (.invokespecial 1, 3) := by decide +kernel
theorem d10_4 : decode jdk_38_method_2_code 4 = .ok (.aload_n 0, 1) := by decide +kernel
theorem d10_5 : decode jdk_38_method_2_code 5 = .ok (.getstatic 39, 3) := by decide +kernel
theorem d10_8 : decode jdk_38_method_2_code 8 = .ok (.putfield 9, 3) := by decide +kernel
theorem d10_11 : decode jdk_38_method_2_code 11 = .ok (.return_, 1) := by decide +kernel
theorem pn_10 : plainName "java/util/ArrayList" = true := by first | (simp [plainName, overriddenIn]; done) | decide +kernel
theorem ef_10 (m : MethodId) (a0 : Addr) : entryFrame m #[(.ref a0)] 1 = mkF m 0 #[.val (.ref a0)] [] := by first | (simp [entryFrame, mkF, argsToLocals, Value.category]; done) | rfl
set_option maxRecDepth 65536 in
set_option maxHeartbeats 40000000 in
theorem rm10 (l : Launch) (Z : State) (a0 : Array Value) (hw : ∀ d ∈ tables_1, d.before a0 Z = true) (ws : List Jvm.Cond) (o : Addr)  (h0 : Heap) (n0 : Nat) (Z0 : n0 ≤ h0.size) (g_o : n0 ≤ o) (E_o : Exa Z h0 o "java/util/ArrayList") {u_modCount : Value} (F_modCount_o : Fld Z h0 o "java/util/AbstractList" "modCount" "I" u_modCount) {u_elementData : Value} (F_elementData_o : Fld Z h0 o "java/util/ArrayList" "elementData" "[Ljava/lang/Object;" u_elementData) (aS : Addr) (HS : Sta Z Z.heap "java/util/ArrayList" "DEFAULTCAPACITY_EMPTY_ELEMENTDATA" "[Ljava/lang/Object;" (.ref aS)) (HOld : Old Z n0 h0) :
    MetFree l (⟨"java/util/ArrayList", "<init>", "()V"⟩ : MethodName) (head1 (Jvm.Cond.code (⟨"java/util/ArrayList", "<init>", "()V"⟩ : MethodName) jdk_38_method_2_code 1 none :: ws) ({ frames := 3, cells := 0, slots := 0, locals := 36 } : Room)) (fun a_ U => a_ = #[(.ref o)] ∧ Z.Warmed39 U.vm ∧ U.heap = h0) (fun _ _ _ _ _ => True) (fun _ U o_ U' => ∃ v L, o_ = .returned v ∧ OQ (fun v h L => v = none ∧ Keep h0 h [o] ∧ Fr n0 L) v U'.heap L ∧ FrameEnd U o_ U' L ({ frames := 3, cells := 0, slots := 0, locals := 36 } : Room).cells ({ frames := 3, cells := 0, slots := 0, locals := 36 } : Room).slots) := by
  refine MetFree.of_bodySF (plainFor_of_name pn_10) hisR ?_
  intro p e s m args below meth c s₁ Bd hml0 hP hK
  obtain ⟨rfl, hZ, hh⟩ := hP
  have hx := Bd.exec
  have hby := Bd.bytes
  have hml : c.maxLocals = 1 := hml0
  have hown : s.vm.findClass "java/util/ArrayList" = some m.cls := findClass_of_methodNamed Bd.named
  have hnm := (name_of_methodNamed Bd.named Bd.method).1
  have hret := Bd.returns
  have hlk : meth.locks = false := Bd.notSynchronized
  have X0 : Stand p l e ({ frames := 3, cells := 0, slots := 0, locals := 36 } : Room) s m #[(.ref o)] below meth c s₁ [] 0 0 := Stand.of_body Bd
  have e0 : s₁.heap = h0 := by rw [← hh, Bd.state]; rfl
  refine OFin.start (Q := fun v h L => v = none ∧ Keep h0 h [o] ∧ Fr n0 L) (s := s) (fun t kt => castTop (ef_10 m (o)) kt) ?_
  refine OFin.to (s₁.setTop (mkF m 1 #[.val (.ref o)] [(.ref o)])) (fun _ kt => XS.aloadN X0.here hx rfl (hb hby d10_0) rfl rfl kt) ?_
  obtain ⟨v1, T1, L1, hQ1, X1, st1⟩ := own_callN X0 hx hZ hown rfl (hw _ (List.mem_of_getElem? (i := 97) rfl)) (hw _ (List.mem_of_getElem? (i := 98) rfl)) (hw _ (List.mem_of_getElem? (i := 102) rfl)) (hw _ (List.mem_of_getElem? (i := 101) rfl)) (by decide) e0 (rm11 l Z a0 hw [] o h0 n0 Z0 g_o E_o F_modCount_o F_elementData_o  ) 0 (by decide) (by decide) (by decide) (by decide) (g := (mkF m 1 #[.val (.ref o)] [(.ref o)])) rfl (by rw [hml]; rfl) (rest := []) (lenOf pd_1 rfl) rfl (by show 2 * 0 + _ ≤ _; exact Nat.le_of_eq rfl) (hb hby d10_1)
  obtain ⟨rfl, Kq1, Nq1, Fq1_elementData⟩ := hQ1
  refine OFin.to (T1.setTop (mkF m 4 #[.val (.ref o)] [])) st1 ?_
  have N1 := Fr.app (Fr.nil n0) Nq1
  have Z1 := Nat.le_trans Z0 Kq1.1
  have E_o_1 := E_o.keep Kq1
  have HOld_1 := HOld.keep Kq1 (allS g_o all0)
  have KK1 := (Keep.refl h0 [o]).trans Kq1 (fun x hx' => by cases List.mem_singleton.mp hx'; exact Or.inl (by simp))
  refine OFin.to (T1.setTop (mkF m 5 #[.val (.ref o)] [(.ref o)])) (fun _ kt => XS.aloadN X1.here hx rfl (hb hby d10_4) rfl rfl kt) ?_
  obtain ⟨T2, X2, e2, st2⟩ := getS2 X1 hx hZ hown (host := "") (Or.inl (hw _ (List.mem_of_getElem? (i := 112) rfl))) Via.refl rfl (HS.ext HOld_1.2) (g := (mkF m 5 #[.val (.ref o)] [(.ref o)])) rfl (hb hby d10_5)
  refine OFin.to (T2.setTop (mkF m 8 #[.val (.ref o)] [(.ref aS), (.ref o)])) st2 ?_
  obtain ⟨T3, h3, X3, e3, W3, st3⟩ := putF X2 hx hZ hown (host := "") (Or.inl (hw _ (List.mem_of_getElem? (i := 113) rfl))) Via.refl e2 Fq1_elementData E_o_1 (Or.inl (hw _ (List.mem_of_getElem? (i := 114) rfl))) (hw _ (List.mem_of_getElem? (i := 92) rfl)) (ty := (.array (.object "java/lang/Object"))) (by decide) rfl rfl (g := (mkF m 8 #[.val (.ref o)] [(.ref aS), (.ref o)])) rfl rfl (hb hby d10_8)
  have E_o_3 := E_o_1.wr W3
  have HOld_3 := HOld_1.wr W3 g_o
  have F_elementData_o_3 := Fq1_elementData.same W3
  have K3 := KK1.wr W3 (Or.inl (by simp))
  have N3 := Fr.snoc X3 N1 g_o
  have Z3 := Nat.le_trans Z1 (Keep.of_wr W3).1
  refine OFin.to (T3.setTop (mkF m 11 #[.val (.ref o)] [])) st3 ?_
  exact OFin.retV X3 hx hret hlk (hb hby d10_11) (by decide) (by decide) (by rw [e3]; exact ⟨rfl, K3, N3⟩)
theorem d14_0 : decode jdk_92_method_6_code 0 = .ok (.aload_n 0, 1) := by decide +kernel
theorem d14_1 : decode jdk_92_method_6_code 1 = .ok (.iload_n 1, 1) := by decide +kernel
theorem d14_2 : decode jdk_92_method_6_code 2 = .ok (.iconst 1, 1) := by decide +kernel
theorem d14_3 : decode jdk_92_method_6_code 3 = .ok (.isub, 1) := by decide +kernel
theorem d14_4 : decode jdk_92_method_6_code 4 = .ok (.invokestatic 52, 3) := by decide +kernel
theorem d14_7 : decode jdk_92_method_6_code 7 = .ok (.iconst 1, 1) := by decide +kernel
theorem d14_8 : decode jdk_92_method_6_code 8 = .ok (.iadd, 1) := by decide +kernel
theorem d14_9 : decode jdk_92_method_6_code 9 = .ok (.newarray .long, 2) := by decide +kernel
theorem d14_11 : decode jdk_92_method_6_code 11 = .ok (.putfield 11, 3) := by decide +kernel
theorem d14_14 : decode jdk_92_method_6_code 14 = .ok (.return_, 1) := by decide +kernel
theorem pn_14 : plainName "java/util/BitSet" = true := by first | (simp [plainName, overriddenIn]; done) | decide +kernel
theorem ef_14 (m : MethodId) (a0 : Addr) (p1 : Int32) : entryFrame m #[(.ref a0), (.int p1)] 2 = mkF m 0 #[.val (.ref a0), .val (.int p1)] [] := by first | (simp [entryFrame, mkF, argsToLocals, Value.category]; done) | rfl
set_option maxRecDepth 65536 in
set_option maxHeartbeats 40000000 in
theorem rm14 (l : Launch) (Z : State) (a0 : Array Value) (hw : ∀ d ∈ tables_1, d.before a0 Z = true) (ws : List Jvm.Cond) (o : Addr)  (h0 : Heap) (n0 : Nat) (Z0 : n0 ≤ h0.size) (g_o : n0 ≤ o) (E_o : Exa Z h0 o "java/util/BitSet") {u_words : Value} (F_words_o : Fld Z h0 o "java/util/BitSet" "words" "[J" u_words) {u_sizeIsSticky : Value} (F_sizeIsSticky_o : Fld Z h0 o "java/util/BitSet" "sizeIsSticky" "Z" u_sizeIsSticky) :
    MetFree l (⟨"java/util/BitSet", "initWords", "(I)V"⟩ : MethodName) (head1 (Jvm.Cond.code (⟨"java/util/BitSet", "initWords", "(I)V"⟩ : MethodName) jdk_92_method_6_code 2 none :: ws) ({ frames := 1, cells := 1, slots := 1, locals := 13 } : Room)) (fun a_ U => a_ = #[(.ref o), (.int (64 : Int32))] ∧ Z.Warmed39 U.vm ∧ U.heap = h0) (fun _ _ _ _ _ => True) (fun _ U o_ U' => ∃ v L, o_ = .returned v ∧ OQ (fun v h L => v = none ∧ Keep h0 h [o] ∧ Fr n0 L ∧ Fld Z h o "java/util/BitSet" "sizeIsSticky" "Z" u_sizeIsSticky) v U'.heap L ∧ FrameEnd U o_ U' L ({ frames := 1, cells := 1, slots := 1, locals := 13 } : Room).cells ({ frames := 1, cells := 1, slots := 1, locals := 13 } : Room).slots) := by
  refine MetFree.of_bodySF (plainFor_of_name pn_14) hisR ?_
  intro p e s m args below meth c s₁ Bd hml0 hP hK
  obtain ⟨rfl, hZ, hh⟩ := hP
  have hx := Bd.exec
  have hby := Bd.bytes
  have hml : c.maxLocals = 2 := hml0
  have hown : s.vm.findClass "java/util/BitSet" = some m.cls := findClass_of_methodNamed Bd.named
  have hnm := (name_of_methodNamed Bd.named Bd.method).1
  have hret := Bd.returns
  have hlk : meth.locks = false := Bd.notSynchronized
  have X0 : Stand p l e ({ frames := 1, cells := 1, slots := 1, locals := 13 } : Room) s m #[(.ref o), (.int (64 : Int32))] below meth c s₁ [] 0 0 := Stand.of_body Bd
  have e0 : s₁.heap = h0 := by rw [← hh, Bd.state]; rfl
  refine OFin.start (Q := fun v h L => v = none ∧ Keep h0 h [o] ∧ Fr n0 L ∧ Fld Z h o "java/util/BitSet" "sizeIsSticky" "Z" u_sizeIsSticky) (s := s) (fun t kt => castTop (ef_14 m (o) ((64 : Int32))) kt) ?_
  refine OFin.to (s₁.setTop (mkF m 1 #[.val (.ref o), .val (.int (64 : Int32))] [(.ref o)])) (fun _ kt => XS.aloadN X0.here hx rfl (hb hby d14_0) rfl rfl kt) ?_
  refine OFin.to (s₁.setTop (mkF m 2 #[.val (.ref o), .val (.int (64 : Int32))] [(.int (64 : Int32)), (.ref o)])) (fun _ kt => XS.iloadN X0.here hx rfl (hb hby d14_1) rfl kt) ?_
  refine OFin.to (s₁.setTop (mkF m 3 #[.val (.ref o), .val (.int (64 : Int32))] [(.int (1 : Int32)), (.int (64 : Int32)), (.ref o)])) (fun _ kt => XS.iconst X0.here hx rfl (hb hby d14_2) kt) ?_
  refine OFin.to (s₁.setTop (mkF m 4 #[.val (.ref o), .val (.int (64 : Int32))] [(.int ((64 : Int32) - (1 : Int32))), (.ref o)])) (fun _ kt => XS.isub X0.here hx rfl (hb hby d14_3) rfl kt) ?_
  obtain ⟨v1, T1, L1, hQ1, X1, st1⟩ := own_callS X0 hx hZ hown (hw _ (List.mem_of_getElem? (i := 157) rfl)) (hw _ (List.mem_of_getElem? (i := 158) rfl)) (hw _ (List.mem_of_getElem? (i := 143) rfl)) (hw _ (List.mem_of_getElem? (i := 159) rfl)) (by decide) e0 (rm15 l Z a0 hw [] ((64 : Int32) - (1 : Int32)) h0) 1 (by decide) (by decide) (by decide) (by decide) (g := (mkF m 4 #[.val (.ref o), .val (.int (64 : Int32))] [(.int ((64 : Int32) - (1 : Int32))), (.ref o)])) rfl (by rw [hml]; rfl) (rest := [(.ref o)]) (lenOf pd_0 rfl) rfl (by show 2 * 0 + _ ≤ _; exact Nat.le_of_eq rfl) (hb hby d14_4)
  obtain ⟨rfl, e1, rfl⟩ := hQ1
  rw [List.append_nil] at X1
  refine OFin.to (T1.setTop (mkF m 7 #[.val (.ref o), .val (.int (64 : Int32))] [(.int (f15_0 ((64 : Int32) - (1 : Int32)))), (.ref o)])) st1 ?_
  rw [show (f15_0 ((64 : Int32) - (1 : Int32))) = (0 : Int32) from by decide +kernel]
  refine OFin.to (T1.setTop (mkF m 8 #[.val (.ref o), .val (.int (64 : Int32))] [(.int (1 : Int32)), (.int (0 : Int32)), (.ref o)])) (fun _ kt => XS.iconst X1.here hx rfl (hb hby d14_7) kt) ?_
  refine OFin.to (T1.setTop (mkF m 9 #[.val (.ref o), .val (.int (64 : Int32))] [(.int ((0 : Int32) + (1 : Int32))), (.ref o)])) (fun _ kt => XS.iadd X1.here hx rfl (hb hby d14_8) rfl kt) ?_
  rw [show ((0 : Int32) + (1 : Int32)) = (1 : Int32) from by decide]
  obtain ⟨T2, h2, X2, e2, E2, V2, st2⟩ := own_newP X1 hx hZ (hw _ (List.mem_of_getElem? (i := 56) rfl)) e1 (g := (mkF m 9 #[.val (.ref o), .val (.int (64 : Int32))] [(.int (1 : Int32)), (.ref o)])) rfl (hb hby d14_9) rfl (by decide) (1) rfl (cap := 1) (Nat.le_refl _) (by decide) (by decide) (by decide)
  obtain ⟨b2, g2⟩ : ∃ z, z = h0.size := ⟨_, rfl⟩
  rw [← g2] at V2 st2
  rw [own_rep] at V2
  have g_b2 : n0 ≤ b2 := by rw [g2]; exact Z0
  have ne_o_b2 : o ≠ b2 := by rw [g2]; exact Nat.ne_of_lt E_o.lt
  have sz_b2 : h0.size ≤ b2 := by rw [g2]; exact (Keep.refl h0 [o]).1
  have E_o_2 := E_o.ext E2
  have F_words_o_2 := F_words_o.ext E2
  have F_sizeIsSticky_o_2 := F_sizeIsSticky_o.ext E2
  have Z2 := Nat.le_trans Z0 E2.1
  have K2 := (Keep.refl h0 [o]).ext E2
  refine OFin.to (T2.setTop (mkF m 11 #[.val (.ref o), .val (.int (64 : Int32))] [(.ref b2), (.ref o)])) st2 ?_
  obtain ⟨T3, h3, X3, e3, W3, st3⟩ := putF X2 hx hZ hown (host := "") (Or.inl (hw _ (List.mem_of_getElem? (i := 160) rfl))) Via.refl e2 F_words_o_2 E_o_2 (Or.inl (hw _ (List.mem_of_getElem? (i := 161) rfl))) (hw _ (List.mem_of_getElem? (i := 142) rfl)) (ty := (.array .long)) (by decide) rfl rfl (g := (mkF m 11 #[.val (.ref o), .val (.int (64 : Int32))] [(.ref b2), (.ref o)])) rfl rfl (hb hby d14_11)
  have E_o_3 := E_o_2.wr W3
  have F_sizeIsSticky_o_3 := F_sizeIsSticky_o_2.other W3 (Or.inr (slot_ne (Or.inl (hw _ (List.mem_of_getElem? (i := 151) rfl))) (Or.inl (hw _ (List.mem_of_getElem? (i := 161) rfl))) (by decide) (t := .boolean) (t' := (.array .long)) (by decide) (by decide)))
  have F_words_o_3 := F_words_o_2.same W3
  have K3 := K2.wr W3 (Or.inl (by simp))
  have N3 := Fr.snoc X3 (Fr.nil n0) g_o
  have Z3 := Nat.le_trans Z2 (Keep.of_wr W3).1
  refine OFin.to (T3.setTop (mkF m 14 #[.val (.ref o), .val (.int (64 : Int32))] [])) st3 ?_
  exact OFin.retV X3 hx hret hlk (hb hby d14_14) (by decide) (by decide) (by rw [e3]; exact ⟨rfl, K3, N3, F_sizeIsSticky_o_3⟩)
theorem d13_0 : decode jdk_92_method_4_code 0 = .ok (.aload_n 0, 1) := by decide +kernel
theorem d13_1 : decode jdk_92_method_4_code 1 = .ok (.invokespecial 21, 3) := by decide +kernel
theorem d13_4 : decode jdk_92_method_4_code 4 = .ok (.aload_n 0, 1) := by decide +kernel
theorem d13_5 : decode jdk_92_method_4_code 5 = .ok (.iconst 0, 1) := by decide +kernel
theorem d13_6 : decode jdk_92_method_4_code 6 = .ok (.putfield 7, 3) := by decide +kernel
theorem d13_9 : decode jdk_92_method_4_code 9 = .ok (.aload_n 0, 1) := by decide +kernel
theorem d13_10 : decode jdk_92_method_4_code 10 = .ok (.iconst 0, 1) := by decide +kernel
theorem d13_11 : decode jdk_92_method_4_code 11 = .ok (.putfield 24, 3) := by decide +kernel
theorem d13_14 : decode jdk_92_method_4_code 14 = .ok (.aload_n 0, 1) := by decide +kernel
theorem d13_15 : decode jdk_92_method_4_code 15 = .ok (.bipush 64, 2) := by decide +kernel
theorem d13_17 : decode jdk_92_method_4_code 17 = .ok (.invokevirtual 27, 3) := by decide +kernel
theorem d13_20 : decode jdk_92_method_4_code 20 = .ok (.aload_n 0, 1) := by decide +kernel
theorem d13_21 : decode jdk_92_method_4_code 21 = .ok (.iconst 0, 1) := by decide +kernel
theorem d13_22 : decode jdk_92_method_4_code 22 = .ok (.putfield 24, 3) := by decide +kernel
theorem d13_25 : decode jdk_92_method_4_code 25 = .ok (.return_, 1) := by decide +kernel
theorem pn_13 : plainName "java/util/BitSet" = true := by first | (simp [plainName, overriddenIn]; done) | decide +kernel
theorem ef_13 (m : MethodId) (a0 : Addr) : entryFrame m #[(.ref a0)] 1 = mkF m 0 #[.val (.ref a0)] [] := by first | (simp [entryFrame, mkF, argsToLocals, Value.category]; done) | rfl
set_option maxRecDepth 65536 in
set_option maxHeartbeats 40000000 in
theorem rm13 (l : Launch) (Z : State) (a0 : Array Value) (hw : ∀ d ∈ tables_1, d.before a0 Z = true) (ws : List Jvm.Cond) (o : Addr)  (h0 : Heap) (n0 : Nat) (Z0 : n0 ≤ h0.size) (g_o : n0 ≤ o) (E_o : Exa Z h0 o "java/util/BitSet") {u_wordsInUse : Value} (F_wordsInUse_o : Fld Z h0 o "java/util/BitSet" "wordsInUse" "I" u_wordsInUse) {u_sizeIsSticky : Value} (F_sizeIsSticky_o : Fld Z h0 o "java/util/BitSet" "sizeIsSticky" "Z" u_sizeIsSticky) {u_words : Value} (F_words_o : Fld Z h0 o "java/util/BitSet" "words" "[J" u_words) :
    MetFree l (⟨"java/util/BitSet", "<init>", "()V"⟩ : MethodName) (head1 (Jvm.Cond.code (⟨"java/util/BitSet", "<init>", "()V"⟩ : MethodName) jdk_92_method_4_code 1 none :: ws) ({ frames := 2, cells := 1, slots := 1, locals := 26 } : Room)) (fun a_ U => a_ = #[(.ref o)] ∧ Z.Warmed39 U.vm ∧ U.heap = h0) (fun _ _ _ _ _ => True) (fun _ U o_ U' => ∃ v L, o_ = .returned v ∧ OQ (fun v h L => v = none ∧ Keep h0 h [o] ∧ Fr n0 L) v U'.heap L ∧ FrameEnd U o_ U' L ({ frames := 2, cells := 1, slots := 1, locals := 26 } : Room).cells ({ frames := 2, cells := 1, slots := 1, locals := 26 } : Room).slots) := by
  refine MetFree.of_bodySF (plainFor_of_name pn_13) hisR ?_
  intro p e s m args below meth c s₁ Bd hml0 hP hK
  obtain ⟨rfl, hZ, hh⟩ := hP
  have hx := Bd.exec
  have hby := Bd.bytes
  have hml : c.maxLocals = 1 := hml0
  have hown : s.vm.findClass "java/util/BitSet" = some m.cls := findClass_of_methodNamed Bd.named
  have hnm := (name_of_methodNamed Bd.named Bd.method).1
  have hret := Bd.returns
  have hlk : meth.locks = false := Bd.notSynchronized
  have X0 : Stand p l e ({ frames := 2, cells := 1, slots := 1, locals := 26 } : Room) s m #[(.ref o)] below meth c s₁ [] 0 0 := Stand.of_body Bd
  have e0 : s₁.heap = h0 := by rw [← hh, Bd.state]; rfl
  refine OFin.start (Q := fun v h L => v = none ∧ Keep h0 h [o] ∧ Fr n0 L) (s := s) (fun t kt => castTop (ef_13 m (o)) kt) ?_
  refine OFin.to (s₁.setTop (mkF m 1 #[.val (.ref o)] [(.ref o)])) (fun _ kt => XS.aloadN X0.here hx rfl (hb hby d13_0) rfl rfl kt) ?_
  obtain ⟨T1, X1, e1, st1⟩ := initO X0 hx hZ hown (hw _ (List.mem_of_getElem? (i := 147) rfl)) (hw _ (List.mem_of_getElem? (i := 12) rfl)) (hw _ (List.mem_of_getElem? (i := 13) rfl)) e0 (g := (mkF m 1 #[.val (.ref o)] [(.ref o)])) rfl (by rw [hml]; rfl) rfl (hb hby d13_1) (by decide) (W := 0) (by show 2 * 0 + _ ≤ _; exact Nat.le_of_eq rfl) (by decide)
  refine OFin.to (T1.setTop (mkF m 4 #[.val (.ref o)] [])) st1 ?_
  refine OFin.to (T1.setTop (mkF m 5 #[.val (.ref o)] [(.ref o)])) (fun _ kt => XS.aloadN X1.here hx rfl (hb hby d13_4) rfl rfl kt) ?_
  refine OFin.to (T1.setTop (mkF m 6 #[.val (.ref o)] [(.int (0 : Int32)), (.ref o)])) (fun _ kt => XS.iconst X1.here hx rfl (hb hby d13_5) kt) ?_
  obtain ⟨T2, h2, X2, e2, W2, st2⟩ := putF X1 hx hZ hown (host := "") (Or.inl (hw _ (List.mem_of_getElem? (i := 148) rfl))) Via.refl e1 F_wordsInUse_o E_o (Or.inl (hw _ (List.mem_of_getElem? (i := 149) rfl))) (hw _ (List.mem_of_getElem? (i := 142) rfl)) (ty := .int) (by decide) rfl rfl (g := (mkF m 6 #[.val (.ref o)] [(.int (0 : Int32)), (.ref o)])) rfl rfl (hb hby d13_6)
  have E_o_2 := E_o.wr W2
  have F_sizeIsSticky_o_2 := F_sizeIsSticky_o.other W2 (Or.inr (slot_ne (Or.inl (hw _ (List.mem_of_getElem? (i := 151) rfl))) (Or.inl (hw _ (List.mem_of_getElem? (i := 149) rfl))) (by decide) (t := .boolean) (t' := .int) (by decide) (by decide)))
  have F_words_o_2 := F_words_o.other W2 (Or.inr (slot_ne (Or.inl (hw _ (List.mem_of_getElem? (i := 161) rfl))) (Or.inl (hw _ (List.mem_of_getElem? (i := 149) rfl))) (by decide) (t := (.array .long)) (t' := .int) (by decide) (by decide)))
  have F_wordsInUse_o_2 := F_wordsInUse_o.same W2
  have K2 := (Keep.refl h0 [o]).wr W2 (Or.inl (by simp))
  have N2 := Fr.snoc X2 (Fr.nil n0) g_o
  have Z2 := Nat.le_trans Z0 (Keep.of_wr W2).1
  refine OFin.to (T2.setTop (mkF m 9 #[.val (.ref o)] [])) st2 ?_
  refine OFin.to (T2.setTop (mkF m 10 #[.val (.ref o)] [(.ref o)])) (fun _ kt => XS.aloadN X2.here hx rfl (hb hby d13_9) rfl rfl kt) ?_
  refine OFin.to (T2.setTop (mkF m 11 #[.val (.ref o)] [(.int (0 : Int32)), (.ref o)])) (fun _ kt => XS.iconst X2.here hx rfl (hb hby d13_10) kt) ?_
  obtain ⟨T3, h3, X3, e3, W3, st3⟩ := putFN X2 hx hZ hown (hw _ (List.mem_of_getElem? (i := 150) rfl)) Via.refl e2 F_sizeIsSticky_o_2 E_o_2 (Or.inl (hw _ (List.mem_of_getElem? (i := 151) rfl))) (hw _ (List.mem_of_getElem? (i := 142) rfl)) (ty := .boolean) (v' := .int (nar .boolean (0 : Int32))) (by decide) rfl (fits_nar_bool _) (g := (mkF m 11 #[.val (.ref o)] [(.int (0 : Int32)), (.ref o)])) rfl rfl (hb hby d13_11)
  have E_o_3 := E_o_2.wr W3
  have F_wordsInUse_o_3 := F_wordsInUse_o_2.other W3 (Or.inr (slot_ne (Or.inl (hw _ (List.mem_of_getElem? (i := 149) rfl))) (Or.inl (hw _ (List.mem_of_getElem? (i := 151) rfl))) (by decide) (t := .int) (t' := .boolean) (by decide) (by decide)))
  have F_words_o_3 := F_words_o_2.other W3 (Or.inr (slot_ne (Or.inl (hw _ (List.mem_of_getElem? (i := 161) rfl))) (Or.inl (hw _ (List.mem_of_getElem? (i := 151) rfl))) (by decide) (t := (.array .long)) (t' := .boolean) (by decide) (by decide)))
  have F_sizeIsSticky_o_3 := F_sizeIsSticky_o_2.same W3
  have K3 := K2.wr W3 (Or.inl (by simp))
  have N3 := Fr.snoc X3 N2 g_o
  have Z3 := Nat.le_trans Z2 (Keep.of_wr W3).1
  refine OFin.to (T3.setTop (mkF m 14 #[.val (.ref o)] [])) st3 ?_
  refine OFin.to (T3.setTop (mkF m 15 #[.val (.ref o)] [(.ref o)])) (fun _ kt => XS.aloadN X3.here hx rfl (hb hby d13_14) rfl rfl kt) ?_
  refine OFin.to (T3.setTop (mkF m 17 #[.val (.ref o)] [(.int (64 : Int32)), (.ref o)])) (fun _ kt => XS.bipush X3.here hx rfl (hb hby d13_15) kt) ?_
  obtain ⟨v4, T4, L4, hQ4, X4, st4⟩ := own_callP X3 hx hZ hown (hw _ (List.mem_of_getElem? (i := 152) rfl)) (own_selI hZ (hw _ (List.mem_of_getElem? (i := 142) rfl)) (hw _ (List.mem_of_getElem? (i := 154) rfl)) (hw _ (List.mem_of_getElem? (i := 153) rfl)) (by decide)) (hw _ (List.mem_of_getElem? (i := 154) rfl)) (hw _ (List.mem_of_getElem? (i := 153) rfl)) (hw _ (List.mem_of_getElem? (i := 156) rfl)) (hw _ (List.mem_of_getElem? (i := 143) rfl)) (by decide) e3 E_o_3 (rm14 l Z a0 hw [] o h3 n0 Z3 g_o E_o_3 F_words_o_3 F_sizeIsSticky_o_3  ) 0 (by decide) (by decide) (by decide) (by decide) (g := (mkF m 17 #[.val (.ref o)] [(.int (64 : Int32)), (.ref o)])) rfl (by rw [hml]; rfl) (rest := []) (lenOf pd_3 rfl) rfl (by show 2 * 0 + _ ≤ _; exact Nat.le_of_eq rfl) (hb hby d13_17)
  obtain ⟨rfl, Kq4, Nq4, Fq4_sizeIsSticky⟩ := hQ4
  refine OFin.to (T4.setTop (mkF m 20 #[.val (.ref o)] [])) st4 ?_
  have N4 := Fr.app N3 Nq4
  have Z4 := Nat.le_trans Z3 Kq4.1
  have E_o_4 := E_o_3.keep Kq4
  have KK4 := K3.trans Kq4 (fun x hx' => by cases List.mem_singleton.mp hx'; exact Or.inl (by simp))
  refine OFin.to (T4.setTop (mkF m 21 #[.val (.ref o)] [(.ref o)])) (fun _ kt => XS.aloadN X4.here hx rfl (hb hby d13_20) rfl rfl kt) ?_
  refine OFin.to (T4.setTop (mkF m 22 #[.val (.ref o)] [(.int (0 : Int32)), (.ref o)])) (fun _ kt => XS.iconst X4.here hx rfl (hb hby d13_21) kt) ?_
  obtain ⟨T5, h5, X5, e5, W5, st5⟩ := putFN X4 hx hZ hown (hw _ (List.mem_of_getElem? (i := 150) rfl)) Via.refl rfl Fq4_sizeIsSticky E_o_4 (Or.inl (hw _ (List.mem_of_getElem? (i := 151) rfl))) (hw _ (List.mem_of_getElem? (i := 142) rfl)) (ty := .boolean) (v' := .int (nar .boolean (0 : Int32))) (by decide) rfl (fits_nar_bool _) (g := (mkF m 22 #[.val (.ref o)] [(.int (0 : Int32)), (.ref o)])) rfl rfl (hb hby d13_22)
  have E_o_5 := E_o_4.wr W5
  have F_sizeIsSticky_o_5 := Fq4_sizeIsSticky.same W5
  have K5 := KK4.wr W5 (Or.inl (by simp))
  have N5 := Fr.snoc X5 N4 g_o
  have Z5 := Nat.le_trans Z4 (Keep.of_wr W5).1
  refine OFin.to (T5.setTop (mkF m 25 #[.val (.ref o)] [])) st5 ?_
  exact OFin.retV X5 hx hret hlk (hb hby d13_25) (by decide) (by decide) (by rw [e5]; exact ⟨rfl, K5, N5⟩)
theorem d7_0 : decode prog_19_method_1_code 0 = .ok (.aload_n 0, 1) := by decide +kernel
theorem d7_1 : decode prog_19_method_1_code 1 = .ok (.invokespecial 3, 3) := by decide +kernel
theorem d7_4 : decode prog_19_method_1_code 4 = .ok (.aload_n 0, 1) := by decide +kernel
theorem d7_5 : decode prog_19_method_1_code 5 = .ok (.bipush 64, 2) := by decide +kernel
theorem d7_7 : decode prog_19_method_1_code 7 = .ok (.newarray .long, 2) := by decide +kernel
theorem d7_9 : decode prog_19_method_1_code 9 = .ok (.putfield 9, 3) := by decide +kernel
theorem d7_12 : decode prog_19_method_1_code 12 = .ok (.aload_n 0, 1) := by decide +kernel
theorem d7_13 : decode prog_19_method_1_code 13 = .ok (.bipush 64, 2) := by decide +kernel
theorem d7_15 : decode prog_19_method_1_code 15 = .ok (.newarray .int, 2) := by decide +kernel
theorem d7_17 : decode prog_19_method_1_code 17 = .ok (.putfield 15, 3) := by decide +kernel
theorem d7_20 : decode prog_19_method_1_code 20 = .ok (.aload_n 0, 1) := by decide +kernel
theorem d7_21 : decode prog_19_method_1_code 21 = .ok (.bipush 64, 2) := by decide +kernel
theorem d7_23 : decode prog_19_method_1_code 23 = .ok (.newarray .int, 2) := by decide +kernel
theorem d7_25 : decode prog_19_method_1_code 25 = .ok (.putfield 19, 3) := by decide +kernel
theorem d7_28 : decode prog_19_method_1_code 28 = .ok (.aload_n 0, 1) := by decide +kernel
theorem d7_29 : decode prog_19_method_1_code 29 = .ok (.bipush 64, 2) := by decide +kernel
theorem d7_31 : decode prog_19_method_1_code 31 = .ok (.newarray .int, 2) := by decide +kernel
theorem d7_33 : decode prog_19_method_1_code 33 = .ok (.putfield 22, 3) := by decide +kernel
theorem d7_36 : decode prog_19_method_1_code 36 = .ok (.aload_n 0, 1) := by decide +kernel
theorem d7_37 : decode prog_19_method_1_code 37 = .ok (.bipush 64, 2) := by decide +kernel
theorem d7_39 : decode prog_19_method_1_code 39 = .ok (.newarray .int, 2) := by decide +kernel
theorem d7_41 : decode prog_19_method_1_code 41 = .ok (.putfield 25, 3) := by decide +kernel
theorem d7_44 : decode prog_19_method_1_code 44 = .ok (.aload_n 0, 1) := by decide +kernel
theorem d7_45 : decode prog_19_method_1_code 45 = .ok (.new 28, 3) := by decide +kernel
theorem d7_48 : decode prog_19_method_1_code 48 = .ok (.dup, 1) := by decide +kernel
theorem d7_49 : decode prog_19_method_1_code 49 = .ok (.invokespecial 30, 3) := by decide +kernel
theorem d7_52 : decode prog_19_method_1_code 52 = .ok (.putfield 31, 3) := by decide +kernel
theorem d7_55 : decode prog_19_method_1_code 55 = .ok (.aload_n 0, 1) := by decide +kernel
theorem d7_56 : decode prog_19_method_1_code 56 = .ok (.sipush 4096, 3) := by decide +kernel
theorem d7_59 : decode prog_19_method_1_code 59 = .ok (.newarray .int, 2) := by decide +kernel
theorem d7_61 : decode prog_19_method_1_code 61 = .ok (.putfield 35, 3) := by decide +kernel
theorem d7_64 : decode prog_19_method_1_code 64 = .ok (.aload_n 0, 1) := by decide +kernel
theorem d7_65 : decode prog_19_method_1_code 65 = .ok (.sipush 8192, 3) := by decide +kernel
theorem d7_68 : decode prog_19_method_1_code 68 = .ok (.newarray .long, 2) := by decide +kernel
theorem d7_70 : decode prog_19_method_1_code 70 = .ok (.putfield 38, 3) := by decide +kernel
theorem d7_73 : decode prog_19_method_1_code 73 = .ok (.aload_n 0, 1) := by decide +kernel
theorem d7_74 : decode prog_19_method_1_code 74 = .ok (.aload_n 1, 1) := by decide +kernel
theorem d7_75 : decode prog_19_method_1_code 75 = .ok (.putfield 41, 3) := by decide +kernel
theorem d7_78 : decode prog_19_method_1_code 78 = .ok (.return_, 1) := by decide +kernel
theorem pn_7 : plainName "com/example/fixpoint_checker/fixpointchecker/bdd/WideConjunction" = true := by first | (simp [plainName, overriddenIn]; done) | decide +kernel
theorem ef_7 (m : MethodId) (a0 : Addr) (a1 : Addr) : entryFrame m #[(.ref a0), (.ref a1)] 2 = mkF m 0 #[.val (.ref a0), .val (.ref a1)] [] := by first | (simp [entryFrame, mkF, argsToLocals, Value.category]; done) | rfl
set_option maxRecDepth 65536 in
set_option maxHeartbeats 40000000 in
theorem rm7 (l : Launch) (Z : State) (a0 : Array Value) (hw : ∀ d ∈ tables_1, d.before a0 Z = true) (ws : List Jvm.Cond) (o : Addr) (dd : Addr) (h0 : Heap) (n0 : Nat) (Z0 : n0 ≤ h0.size) (g_o : n0 ≤ o) (E_o : Exa Z h0 o "com/example/fixpoint_checker/fixpointchecker/bdd/WideConjunction") {u_lists : Value} (F_lists_o : Fld Z h0 o "com/example/fixpoint_checker/fixpointchecker/bdd/WideConjunction" "lists" "[J" u_lists) {u_frameStarts : Value} (F_frameStarts_o : Fld Z h0 o "com/example/fixpoint_checker/fixpointchecker/bdd/WideConjunction" "frameStarts" "[I" u_frameStarts) {u_frameLengths : Value} (F_frameLengths_o : Fld Z h0 o "com/example/fixpoint_checker/fixpointchecker/bdd/WideConjunction" "frameLengths" "[I" u_frameLengths) {u_frameLevels : Value} (F_frameLevels_o : Fld Z h0 o "com/example/fixpoint_checker/fixpointchecker/bdd/WideConjunction" "frameLevels" "[I" u_frameLevels) {u_frameStates : Value} (F_frameStates_o : Fld Z h0 o "com/example/fixpoint_checker/fixpointchecker/bdd/WideConjunction" "frameStates" "[I" u_frameStates) {u_results : Value} (F_results_o : Fld Z h0 o "com/example/fixpoint_checker/fixpointchecker/bdd/WideConjunction" "results" "Lcom/example/fixpoint_checker/fixpointchecker/IntList;" u_results) {u_table : Value} (F_table_o : Fld Z h0 o "com/example/fixpoint_checker/fixpointchecker/bdd/WideConjunction" "table" "[I" u_table) {u_keys : Value} (F_keys_o : Fld Z h0 o "com/example/fixpoint_checker/fixpointchecker/bdd/WideConjunction" "keys" "[J" u_keys) {u_diagrams : Value} (F_diagrams_o : Fld Z h0 o "com/example/fixpoint_checker/fixpointchecker/bdd/WideConjunction" "diagrams" "Lcom/example/fixpoint_checker/fixpointchecker/bdd/DecisionDiagrams;" u_diagrams) :
    MetFree l (⟨"com/example/fixpoint_checker/fixpointchecker/bdd/WideConjunction", "<init>", "(Lcom/example/fixpoint_checker/fixpointchecker/bdd/DecisionDiagrams;)V"⟩ : MethodName) (head1 (Jvm.Cond.code (⟨"com/example/fixpoint_checker/fixpointchecker/bdd/WideConjunction", "<init>", "(Lcom/example/fixpoint_checker/fixpointchecker/bdd/DecisionDiagrams;)V"⟩ : MethodName) prog_19_method_1_code 2 none :: ws) ({ frames := 3, cells := 9, slots := 12626, locals := 41 } : Room)) (fun a_ U => a_ = #[(.ref o), (.ref dd)] ∧ Z.Warmed39 U.vm ∧ U.heap = h0) (fun _ _ _ _ _ => True) (fun _ U o_ U' => ∃ v L, o_ = .returned v ∧ OQ (fun v h L => v = none ∧ Keep h0 h [o] ∧ Fr n0 L) v U'.heap L ∧ FrameEnd U o_ U' L ({ frames := 3, cells := 9, slots := 12626, locals := 41 } : Room).cells ({ frames := 3, cells := 9, slots := 12626, locals := 41 } : Room).slots) := by
  refine MetFree.of_bodySF (plainFor_of_name pn_7) hisR ?_
  intro p e s m args below meth c s₁ Bd hml0 hP hK
  obtain ⟨rfl, hZ, hh⟩ := hP
  have hx := Bd.exec
  have hby := Bd.bytes
  have hml : c.maxLocals = 2 := hml0
  have hown : s.vm.findClass "com/example/fixpoint_checker/fixpointchecker/bdd/WideConjunction" = some m.cls := findClass_of_methodNamed Bd.named
  have hnm := (name_of_methodNamed Bd.named Bd.method).1
  have hret := Bd.returns
  have hlk : meth.locks = false := Bd.notSynchronized
  have X0 : Stand p l e ({ frames := 3, cells := 9, slots := 12626, locals := 41 } : Room) s m #[(.ref o), (.ref dd)] below meth c s₁ [] 0 0 := Stand.of_body Bd
  have e0 : s₁.heap = h0 := by rw [← hh, Bd.state]; rfl
  refine OFin.start (Q := fun v h L => v = none ∧ Keep h0 h [o] ∧ Fr n0 L) (s := s) (fun t kt => castTop (ef_7 m (o) (dd)) kt) ?_
  refine OFin.to (s₁.setTop (mkF m 1 #[.val (.ref o), .val (.ref dd)] [(.ref o)])) (fun _ kt => XS.aloadN X0.here hx rfl (hb hby d7_0) rfl rfl kt) ?_
  obtain ⟨T1, X1, e1, st1⟩ := initO X0 hx hZ hown (hw _ (List.mem_of_getElem? (i := 55) rfl)) (hw _ (List.mem_of_getElem? (i := 12) rfl)) (hw _ (List.mem_of_getElem? (i := 13) rfl)) e0 (g := (mkF m 1 #[.val (.ref o), .val (.ref dd)] [(.ref o)])) rfl (by rw [hml]; rfl) rfl (hb hby d7_1) (by decide) (W := 0) (by show 2 * 0 + _ ≤ _; exact Nat.le_of_eq rfl) (by decide)
  refine OFin.to (T1.setTop (mkF m 4 #[.val (.ref o), .val (.ref dd)] [])) st1 ?_
  refine OFin.to (T1.setTop (mkF m 5 #[.val (.ref o), .val (.ref dd)] [(.ref o)])) (fun _ kt => XS.aloadN X1.here hx rfl (hb hby d7_4) rfl rfl kt) ?_
  refine OFin.to (T1.setTop (mkF m 7 #[.val (.ref o), .val (.ref dd)] [(.int (64 : Int32)), (.ref o)])) (fun _ kt => XS.bipush X1.here hx rfl (hb hby d7_5) kt) ?_
  obtain ⟨T2, h2, X2, e2, E2, V2, st2⟩ := own_newP X1 hx hZ (hw _ (List.mem_of_getElem? (i := 56) rfl)) e1 (g := (mkF m 7 #[.val (.ref o), .val (.ref dd)] [(.int (64 : Int32)), (.ref o)])) rfl (hb hby d7_7) rfl (by decide) (64) rfl (cap := 64) (Nat.le_refl _) (by decide) (by decide) (by decide)
  obtain ⟨b2, g2⟩ : ∃ z, z = h0.size := ⟨_, rfl⟩
  rw [← g2] at V2 st2
  rw [own_rep] at V2
  have g_b2 : n0 ≤ b2 := by rw [g2]; exact Z0
  have ne_o_b2 : o ≠ b2 := by rw [g2]; exact Nat.ne_of_lt E_o.lt
  have sz_b2 : h0.size ≤ b2 := by rw [g2]; exact (Keep.refl h0 [o]).1
  have E_o_2 := E_o.ext E2
  have F_lists_o_2 := F_lists_o.ext E2
  have F_frameStarts_o_2 := F_frameStarts_o.ext E2
  have F_frameLengths_o_2 := F_frameLengths_o.ext E2
  have F_frameLevels_o_2 := F_frameLevels_o.ext E2
  have F_frameStates_o_2 := F_frameStates_o.ext E2
  have F_results_o_2 := F_results_o.ext E2
  have F_table_o_2 := F_table_o.ext E2
  have F_keys_o_2 := F_keys_o.ext E2
  have F_diagrams_o_2 := F_diagrams_o.ext E2
  have Z2 := Nat.le_trans Z0 E2.1
  have K2 := (Keep.refl h0 [o]).ext E2
  refine OFin.to (T2.setTop (mkF m 9 #[.val (.ref o), .val (.ref dd)] [(.ref b2), (.ref o)])) st2 ?_
  obtain ⟨T3, h3, X3, e3, W3, st3⟩ := putF X2 hx hZ hown (host := "") (Or.inl (hw _ (List.mem_of_getElem? (i := 57) rfl))) Via.refl e2 F_lists_o_2 E_o_2 (Or.inl (hw _ (List.mem_of_getElem? (i := 58) rfl))) (hw _ (List.mem_of_getElem? (i := 50) rfl)) (ty := (.array .long)) (by decide) rfl rfl (g := (mkF m 9 #[.val (.ref o), .val (.ref dd)] [(.ref b2), (.ref o)])) rfl rfl (hb hby d7_9)
  have E_o_3 := E_o_2.wr W3
  have F_frameStarts_o_3 := F_frameStarts_o_2.other W3 (Or.inr (slot_ne (Or.inl (hw _ (List.mem_of_getElem? (i := 61) rfl))) (Or.inl (hw _ (List.mem_of_getElem? (i := 58) rfl))) (by decide) (t := (.array .int)) (t' := (.array .long)) (by decide) (by decide)))
  have F_frameLengths_o_3 := F_frameLengths_o_2.other W3 (Or.inr (slot_ne (Or.inl (hw _ (List.mem_of_getElem? (i := 63) rfl))) (Or.inl (hw _ (List.mem_of_getElem? (i := 58) rfl))) (by decide) (t := (.array .int)) (t' := (.array .long)) (by decide) (by decide)))
  have F_frameLevels_o_3 := F_frameLevels_o_2.other W3 (Or.inr (slot_ne (Or.inl (hw _ (List.mem_of_getElem? (i := 65) rfl))) (Or.inl (hw _ (List.mem_of_getElem? (i := 58) rfl))) (by decide) (t := (.array .int)) (t' := (.array .long)) (by decide) (by decide)))
  have F_frameStates_o_3 := F_frameStates_o_2.other W3 (Or.inr (slot_ne (Or.inl (hw _ (List.mem_of_getElem? (i := 67) rfl))) (Or.inl (hw _ (List.mem_of_getElem? (i := 58) rfl))) (by decide) (t := (.array .int)) (t' := (.array .long)) (by decide) (by decide)))
  have F_results_o_3 := F_results_o_2.other W3 (Or.inr (slot_ne (Or.inr (hw _ (List.mem_of_getElem? (i := 82) rfl))) (Or.inl (hw _ (List.mem_of_getElem? (i := 58) rfl))) (by decide) (t := (.object "com/example/fixpoint_checker/fixpointchecker/IntList")) (t' := (.array .long)) (by decide) (by decide)))
  have F_table_o_3 := F_table_o_2.other W3 (Or.inr (slot_ne (Or.inl (hw _ (List.mem_of_getElem? (i := 84) rfl))) (Or.inl (hw _ (List.mem_of_getElem? (i := 58) rfl))) (by decide) (t := (.array .int)) (t' := (.array .long)) (by decide) (by decide)))
  have F_keys_o_3 := F_keys_o_2.other W3 (Or.inr (slot_ne (Or.inl (hw _ (List.mem_of_getElem? (i := 86) rfl))) (Or.inl (hw _ (List.mem_of_getElem? (i := 58) rfl))) (by decide) (t := (.array .long)) (t' := (.array .long)) (by decide) (by decide)))
  have F_diagrams_o_3 := F_diagrams_o_2.other W3 (Or.inr (slot_ne (Or.inr (hw _ (List.mem_of_getElem? (i := 88) rfl))) (Or.inl (hw _ (List.mem_of_getElem? (i := 58) rfl))) (by decide) (t := (.object "com/example/fixpoint_checker/fixpointchecker/bdd/DecisionDiagrams")) (t' := (.array .long)) (by decide) (by decide)))
  have F_lists_o_3 := F_lists_o_2.same W3
  have K3 := K2.wr W3 (Or.inl (by simp))
  have N3 := Fr.snoc X3 (Fr.nil n0) g_o
  have Z3 := Nat.le_trans Z2 (Keep.of_wr W3).1
  refine OFin.to (T3.setTop (mkF m 12 #[.val (.ref o), .val (.ref dd)] [])) st3 ?_
  refine OFin.to (T3.setTop (mkF m 13 #[.val (.ref o), .val (.ref dd)] [(.ref o)])) (fun _ kt => XS.aloadN X3.here hx rfl (hb hby d7_12) rfl rfl kt) ?_
  refine OFin.to (T3.setTop (mkF m 15 #[.val (.ref o), .val (.ref dd)] [(.int (64 : Int32)), (.ref o)])) (fun _ kt => XS.bipush X3.here hx rfl (hb hby d7_13) kt) ?_
  obtain ⟨T4, h4, X4, e4, E4, V4, st4⟩ := own_newP X3 hx hZ (hw _ (List.mem_of_getElem? (i := 59) rfl)) e3 (g := (mkF m 15 #[.val (.ref o), .val (.ref dd)] [(.int (64 : Int32)), (.ref o)])) rfl (hb hby d7_15) rfl (by decide) (64) rfl (cap := 64) (Nat.le_refl _) (by decide) (by decide) (by decide)
  obtain ⟨b4, g4⟩ : ∃ z, z = h3.size := ⟨_, rfl⟩
  rw [← g4] at V4 st4
  rw [own_rep] at V4
  have g_b4 : n0 ≤ b4 := by rw [g4]; exact Z3
  have ne_o_b4 : o ≠ b4 := by rw [g4]; exact Nat.ne_of_lt E_o_3.lt
  have sz_b4 : h0.size ≤ b4 := by rw [g4]; exact K3.1
  have E_o_4 := E_o_3.ext E4
  have F_frameStarts_o_4 := F_frameStarts_o_3.ext E4
  have F_frameLengths_o_4 := F_frameLengths_o_3.ext E4
  have F_frameLevels_o_4 := F_frameLevels_o_3.ext E4
  have F_frameStates_o_4 := F_frameStates_o_3.ext E4
  have F_results_o_4 := F_results_o_3.ext E4
  have F_table_o_4 := F_table_o_3.ext E4
  have F_keys_o_4 := F_keys_o_3.ext E4
  have F_diagrams_o_4 := F_diagrams_o_3.ext E4
  have Z4 := Nat.le_trans Z3 E4.1
  have K4 := K3.ext E4
  refine OFin.to (T4.setTop (mkF m 17 #[.val (.ref o), .val (.ref dd)] [(.ref b4), (.ref o)])) st4 ?_
  obtain ⟨T5, h5, X5, e5, W5, st5⟩ := putF X4 hx hZ hown (host := "") (Or.inl (hw _ (List.mem_of_getElem? (i := 60) rfl))) Via.refl e4 F_frameStarts_o_4 E_o_4 (Or.inl (hw _ (List.mem_of_getElem? (i := 61) rfl))) (hw _ (List.mem_of_getElem? (i := 50) rfl)) (ty := (.array .int)) (by decide) rfl rfl (g := (mkF m 17 #[.val (.ref o), .val (.ref dd)] [(.ref b4), (.ref o)])) rfl rfl (hb hby d7_17)
  have E_o_5 := E_o_4.wr W5
  have F_frameLengths_o_5 := F_frameLengths_o_4.other W5 (Or.inr (slot_ne (Or.inl (hw _ (List.mem_of_getElem? (i := 63) rfl))) (Or.inl (hw _ (List.mem_of_getElem? (i := 61) rfl))) (by decide) (t := (.array .int)) (t' := (.array .int)) (by decide) (by decide)))
  have F_frameLevels_o_5 := F_frameLevels_o_4.other W5 (Or.inr (slot_ne (Or.inl (hw _ (List.mem_of_getElem? (i := 65) rfl))) (Or.inl (hw _ (List.mem_of_getElem? (i := 61) rfl))) (by decide) (t := (.array .int)) (t' := (.array .int)) (by decide) (by decide)))
  have F_frameStates_o_5 := F_frameStates_o_4.other W5 (Or.inr (slot_ne (Or.inl (hw _ (List.mem_of_getElem? (i := 67) rfl))) (Or.inl (hw _ (List.mem_of_getElem? (i := 61) rfl))) (by decide) (t := (.array .int)) (t' := (.array .int)) (by decide) (by decide)))
  have F_results_o_5 := F_results_o_4.other W5 (Or.inr (slot_ne (Or.inr (hw _ (List.mem_of_getElem? (i := 82) rfl))) (Or.inl (hw _ (List.mem_of_getElem? (i := 61) rfl))) (by decide) (t := (.object "com/example/fixpoint_checker/fixpointchecker/IntList")) (t' := (.array .int)) (by decide) (by decide)))
  have F_table_o_5 := F_table_o_4.other W5 (Or.inr (slot_ne (Or.inl (hw _ (List.mem_of_getElem? (i := 84) rfl))) (Or.inl (hw _ (List.mem_of_getElem? (i := 61) rfl))) (by decide) (t := (.array .int)) (t' := (.array .int)) (by decide) (by decide)))
  have F_keys_o_5 := F_keys_o_4.other W5 (Or.inr (slot_ne (Or.inl (hw _ (List.mem_of_getElem? (i := 86) rfl))) (Or.inl (hw _ (List.mem_of_getElem? (i := 61) rfl))) (by decide) (t := (.array .long)) (t' := (.array .int)) (by decide) (by decide)))
  have F_diagrams_o_5 := F_diagrams_o_4.other W5 (Or.inr (slot_ne (Or.inr (hw _ (List.mem_of_getElem? (i := 88) rfl))) (Or.inl (hw _ (List.mem_of_getElem? (i := 61) rfl))) (by decide) (t := (.object "com/example/fixpoint_checker/fixpointchecker/bdd/DecisionDiagrams")) (t' := (.array .int)) (by decide) (by decide)))
  have F_frameStarts_o_5 := F_frameStarts_o_4.same W5
  have K5 := K4.wr W5 (Or.inl (by simp))
  have N5 := Fr.snoc X5 N3 g_o
  have Z5 := Nat.le_trans Z4 (Keep.of_wr W5).1
  refine OFin.to (T5.setTop (mkF m 20 #[.val (.ref o), .val (.ref dd)] [])) st5 ?_
  refine OFin.to (T5.setTop (mkF m 21 #[.val (.ref o), .val (.ref dd)] [(.ref o)])) (fun _ kt => XS.aloadN X5.here hx rfl (hb hby d7_20) rfl rfl kt) ?_
  refine OFin.to (T5.setTop (mkF m 23 #[.val (.ref o), .val (.ref dd)] [(.int (64 : Int32)), (.ref o)])) (fun _ kt => XS.bipush X5.here hx rfl (hb hby d7_21) kt) ?_
  obtain ⟨T6, h6, X6, e6, E6, V6, st6⟩ := own_newP X5 hx hZ (hw _ (List.mem_of_getElem? (i := 59) rfl)) e5 (g := (mkF m 23 #[.val (.ref o), .val (.ref dd)] [(.int (64 : Int32)), (.ref o)])) rfl (hb hby d7_23) rfl (by decide) (64) rfl (cap := 64) (Nat.le_refl _) (by decide) (by decide) (by decide)
  obtain ⟨b6, g6⟩ : ∃ z, z = h5.size := ⟨_, rfl⟩
  rw [← g6] at V6 st6
  rw [own_rep] at V6
  have g_b6 : n0 ≤ b6 := by rw [g6]; exact Z5
  have ne_o_b6 : o ≠ b6 := by rw [g6]; exact Nat.ne_of_lt E_o_5.lt
  have sz_b6 : h0.size ≤ b6 := by rw [g6]; exact K5.1
  have E_o_6 := E_o_5.ext E6
  have F_frameLengths_o_6 := F_frameLengths_o_5.ext E6
  have F_frameLevels_o_6 := F_frameLevels_o_5.ext E6
  have F_frameStates_o_6 := F_frameStates_o_5.ext E6
  have F_results_o_6 := F_results_o_5.ext E6
  have F_table_o_6 := F_table_o_5.ext E6
  have F_keys_o_6 := F_keys_o_5.ext E6
  have F_diagrams_o_6 := F_diagrams_o_5.ext E6
  have Z6 := Nat.le_trans Z5 E6.1
  have K6 := K5.ext E6
  refine OFin.to (T6.setTop (mkF m 25 #[.val (.ref o), .val (.ref dd)] [(.ref b6), (.ref o)])) st6 ?_
  obtain ⟨T7, h7, X7, e7, W7, st7⟩ := putF X6 hx hZ hown (host := "") (Or.inl (hw _ (List.mem_of_getElem? (i := 62) rfl))) Via.refl e6 F_frameLengths_o_6 E_o_6 (Or.inl (hw _ (List.mem_of_getElem? (i := 63) rfl))) (hw _ (List.mem_of_getElem? (i := 50) rfl)) (ty := (.array .int)) (by decide) rfl rfl (g := (mkF m 25 #[.val (.ref o), .val (.ref dd)] [(.ref b6), (.ref o)])) rfl rfl (hb hby d7_25)
  have E_o_7 := E_o_6.wr W7
  have F_frameLevels_o_7 := F_frameLevels_o_6.other W7 (Or.inr (slot_ne (Or.inl (hw _ (List.mem_of_getElem? (i := 65) rfl))) (Or.inl (hw _ (List.mem_of_getElem? (i := 63) rfl))) (by decide) (t := (.array .int)) (t' := (.array .int)) (by decide) (by decide)))
  have F_frameStates_o_7 := F_frameStates_o_6.other W7 (Or.inr (slot_ne (Or.inl (hw _ (List.mem_of_getElem? (i := 67) rfl))) (Or.inl (hw _ (List.mem_of_getElem? (i := 63) rfl))) (by decide) (t := (.array .int)) (t' := (.array .int)) (by decide) (by decide)))
  have F_results_o_7 := F_results_o_6.other W7 (Or.inr (slot_ne (Or.inr (hw _ (List.mem_of_getElem? (i := 82) rfl))) (Or.inl (hw _ (List.mem_of_getElem? (i := 63) rfl))) (by decide) (t := (.object "com/example/fixpoint_checker/fixpointchecker/IntList")) (t' := (.array .int)) (by decide) (by decide)))
  have F_table_o_7 := F_table_o_6.other W7 (Or.inr (slot_ne (Or.inl (hw _ (List.mem_of_getElem? (i := 84) rfl))) (Or.inl (hw _ (List.mem_of_getElem? (i := 63) rfl))) (by decide) (t := (.array .int)) (t' := (.array .int)) (by decide) (by decide)))
  have F_keys_o_7 := F_keys_o_6.other W7 (Or.inr (slot_ne (Or.inl (hw _ (List.mem_of_getElem? (i := 86) rfl))) (Or.inl (hw _ (List.mem_of_getElem? (i := 63) rfl))) (by decide) (t := (.array .long)) (t' := (.array .int)) (by decide) (by decide)))
  have F_diagrams_o_7 := F_diagrams_o_6.other W7 (Or.inr (slot_ne (Or.inr (hw _ (List.mem_of_getElem? (i := 88) rfl))) (Or.inl (hw _ (List.mem_of_getElem? (i := 63) rfl))) (by decide) (t := (.object "com/example/fixpoint_checker/fixpointchecker/bdd/DecisionDiagrams")) (t' := (.array .int)) (by decide) (by decide)))
  have F_frameLengths_o_7 := F_frameLengths_o_6.same W7
  have K7 := K6.wr W7 (Or.inl (by simp))
  have N7 := Fr.snoc X7 N5 g_o
  have Z7 := Nat.le_trans Z6 (Keep.of_wr W7).1
  refine OFin.to (T7.setTop (mkF m 28 #[.val (.ref o), .val (.ref dd)] [])) st7 ?_
  refine OFin.to (T7.setTop (mkF m 29 #[.val (.ref o), .val (.ref dd)] [(.ref o)])) (fun _ kt => XS.aloadN X7.here hx rfl (hb hby d7_28) rfl rfl kt) ?_
  refine OFin.to (T7.setTop (mkF m 31 #[.val (.ref o), .val (.ref dd)] [(.int (64 : Int32)), (.ref o)])) (fun _ kt => XS.bipush X7.here hx rfl (hb hby d7_29) kt) ?_
  obtain ⟨T8, h8, X8, e8, E8, V8, st8⟩ := own_newP X7 hx hZ (hw _ (List.mem_of_getElem? (i := 59) rfl)) e7 (g := (mkF m 31 #[.val (.ref o), .val (.ref dd)] [(.int (64 : Int32)), (.ref o)])) rfl (hb hby d7_31) rfl (by decide) (64) rfl (cap := 64) (Nat.le_refl _) (by decide) (by decide) (by decide)
  obtain ⟨b8, g8⟩ : ∃ z, z = h7.size := ⟨_, rfl⟩
  rw [← g8] at V8 st8
  rw [own_rep] at V8
  have g_b8 : n0 ≤ b8 := by rw [g8]; exact Z7
  have ne_o_b8 : o ≠ b8 := by rw [g8]; exact Nat.ne_of_lt E_o_7.lt
  have sz_b8 : h0.size ≤ b8 := by rw [g8]; exact K7.1
  have E_o_8 := E_o_7.ext E8
  have F_frameLevels_o_8 := F_frameLevels_o_7.ext E8
  have F_frameStates_o_8 := F_frameStates_o_7.ext E8
  have F_results_o_8 := F_results_o_7.ext E8
  have F_table_o_8 := F_table_o_7.ext E8
  have F_keys_o_8 := F_keys_o_7.ext E8
  have F_diagrams_o_8 := F_diagrams_o_7.ext E8
  have Z8 := Nat.le_trans Z7 E8.1
  have K8 := K7.ext E8
  refine OFin.to (T8.setTop (mkF m 33 #[.val (.ref o), .val (.ref dd)] [(.ref b8), (.ref o)])) st8 ?_
  obtain ⟨T9, h9, X9, e9, W9, st9⟩ := putF X8 hx hZ hown (host := "") (Or.inl (hw _ (List.mem_of_getElem? (i := 64) rfl))) Via.refl e8 F_frameLevels_o_8 E_o_8 (Or.inl (hw _ (List.mem_of_getElem? (i := 65) rfl))) (hw _ (List.mem_of_getElem? (i := 50) rfl)) (ty := (.array .int)) (by decide) rfl rfl (g := (mkF m 33 #[.val (.ref o), .val (.ref dd)] [(.ref b8), (.ref o)])) rfl rfl (hb hby d7_33)
  have E_o_9 := E_o_8.wr W9
  have F_frameStates_o_9 := F_frameStates_o_8.other W9 (Or.inr (slot_ne (Or.inl (hw _ (List.mem_of_getElem? (i := 67) rfl))) (Or.inl (hw _ (List.mem_of_getElem? (i := 65) rfl))) (by decide) (t := (.array .int)) (t' := (.array .int)) (by decide) (by decide)))
  have F_results_o_9 := F_results_o_8.other W9 (Or.inr (slot_ne (Or.inr (hw _ (List.mem_of_getElem? (i := 82) rfl))) (Or.inl (hw _ (List.mem_of_getElem? (i := 65) rfl))) (by decide) (t := (.object "com/example/fixpoint_checker/fixpointchecker/IntList")) (t' := (.array .int)) (by decide) (by decide)))
  have F_table_o_9 := F_table_o_8.other W9 (Or.inr (slot_ne (Or.inl (hw _ (List.mem_of_getElem? (i := 84) rfl))) (Or.inl (hw _ (List.mem_of_getElem? (i := 65) rfl))) (by decide) (t := (.array .int)) (t' := (.array .int)) (by decide) (by decide)))
  have F_keys_o_9 := F_keys_o_8.other W9 (Or.inr (slot_ne (Or.inl (hw _ (List.mem_of_getElem? (i := 86) rfl))) (Or.inl (hw _ (List.mem_of_getElem? (i := 65) rfl))) (by decide) (t := (.array .long)) (t' := (.array .int)) (by decide) (by decide)))
  have F_diagrams_o_9 := F_diagrams_o_8.other W9 (Or.inr (slot_ne (Or.inr (hw _ (List.mem_of_getElem? (i := 88) rfl))) (Or.inl (hw _ (List.mem_of_getElem? (i := 65) rfl))) (by decide) (t := (.object "com/example/fixpoint_checker/fixpointchecker/bdd/DecisionDiagrams")) (t' := (.array .int)) (by decide) (by decide)))
  have F_frameLevels_o_9 := F_frameLevels_o_8.same W9
  have K9 := K8.wr W9 (Or.inl (by simp))
  have N9 := Fr.snoc X9 N7 g_o
  have Z9 := Nat.le_trans Z8 (Keep.of_wr W9).1
  refine OFin.to (T9.setTop (mkF m 36 #[.val (.ref o), .val (.ref dd)] [])) st9 ?_
  refine OFin.to (T9.setTop (mkF m 37 #[.val (.ref o), .val (.ref dd)] [(.ref o)])) (fun _ kt => XS.aloadN X9.here hx rfl (hb hby d7_36) rfl rfl kt) ?_
  refine OFin.to (T9.setTop (mkF m 39 #[.val (.ref o), .val (.ref dd)] [(.int (64 : Int32)), (.ref o)])) (fun _ kt => XS.bipush X9.here hx rfl (hb hby d7_37) kt) ?_
  obtain ⟨T10, h10, X10, e10, E10, V10, st10⟩ := own_newP X9 hx hZ (hw _ (List.mem_of_getElem? (i := 59) rfl)) e9 (g := (mkF m 39 #[.val (.ref o), .val (.ref dd)] [(.int (64 : Int32)), (.ref o)])) rfl (hb hby d7_39) rfl (by decide) (64) rfl (cap := 64) (Nat.le_refl _) (by decide) (by decide) (by decide)
  obtain ⟨b10, g10⟩ : ∃ z, z = h9.size := ⟨_, rfl⟩
  rw [← g10] at V10 st10
  rw [own_rep] at V10
  have g_b10 : n0 ≤ b10 := by rw [g10]; exact Z9
  have ne_o_b10 : o ≠ b10 := by rw [g10]; exact Nat.ne_of_lt E_o_9.lt
  have sz_b10 : h0.size ≤ b10 := by rw [g10]; exact K9.1
  have E_o_10 := E_o_9.ext E10
  have F_frameStates_o_10 := F_frameStates_o_9.ext E10
  have F_results_o_10 := F_results_o_9.ext E10
  have F_table_o_10 := F_table_o_9.ext E10
  have F_keys_o_10 := F_keys_o_9.ext E10
  have F_diagrams_o_10 := F_diagrams_o_9.ext E10
  have Z10 := Nat.le_trans Z9 E10.1
  have K10 := K9.ext E10
  refine OFin.to (T10.setTop (mkF m 41 #[.val (.ref o), .val (.ref dd)] [(.ref b10), (.ref o)])) st10 ?_
  obtain ⟨T11, h11, X11, e11, W11, st11⟩ := putF X10 hx hZ hown (host := "") (Or.inl (hw _ (List.mem_of_getElem? (i := 66) rfl))) Via.refl e10 F_frameStates_o_10 E_o_10 (Or.inl (hw _ (List.mem_of_getElem? (i := 67) rfl))) (hw _ (List.mem_of_getElem? (i := 50) rfl)) (ty := (.array .int)) (by decide) rfl rfl (g := (mkF m 41 #[.val (.ref o), .val (.ref dd)] [(.ref b10), (.ref o)])) rfl rfl (hb hby d7_41)
  have E_o_11 := E_o_10.wr W11
  have F_results_o_11 := F_results_o_10.other W11 (Or.inr (slot_ne (Or.inr (hw _ (List.mem_of_getElem? (i := 82) rfl))) (Or.inl (hw _ (List.mem_of_getElem? (i := 67) rfl))) (by decide) (t := (.object "com/example/fixpoint_checker/fixpointchecker/IntList")) (t' := (.array .int)) (by decide) (by decide)))
  have F_table_o_11 := F_table_o_10.other W11 (Or.inr (slot_ne (Or.inl (hw _ (List.mem_of_getElem? (i := 84) rfl))) (Or.inl (hw _ (List.mem_of_getElem? (i := 67) rfl))) (by decide) (t := (.array .int)) (t' := (.array .int)) (by decide) (by decide)))
  have F_keys_o_11 := F_keys_o_10.other W11 (Or.inr (slot_ne (Or.inl (hw _ (List.mem_of_getElem? (i := 86) rfl))) (Or.inl (hw _ (List.mem_of_getElem? (i := 67) rfl))) (by decide) (t := (.array .long)) (t' := (.array .int)) (by decide) (by decide)))
  have F_diagrams_o_11 := F_diagrams_o_10.other W11 (Or.inr (slot_ne (Or.inr (hw _ (List.mem_of_getElem? (i := 88) rfl))) (Or.inl (hw _ (List.mem_of_getElem? (i := 67) rfl))) (by decide) (t := (.object "com/example/fixpoint_checker/fixpointchecker/bdd/DecisionDiagrams")) (t' := (.array .int)) (by decide) (by decide)))
  have F_frameStates_o_11 := F_frameStates_o_10.same W11
  have K11 := K10.wr W11 (Or.inl (by simp))
  have N11 := Fr.snoc X11 N9 g_o
  have Z11 := Nat.le_trans Z10 (Keep.of_wr W11).1
  refine OFin.to (T11.setTop (mkF m 44 #[.val (.ref o), .val (.ref dd)] [])) st11 ?_
  refine OFin.to (T11.setTop (mkF m 45 #[.val (.ref o), .val (.ref dd)] [(.ref o)])) (fun _ kt => XS.aloadN X11.here hx rfl (hb hby d7_44) rfl rfl kt) ?_
  obtain ⟨T12, h12, X12, e12, E12, A12, D12, -, st12⟩ := newO X11 hx hZ hown (hw _ (List.mem_of_getElem? (i := 68) rfl)) (hw _ (List.mem_of_getElem? (i := 69) rfl)) (hw _ (List.mem_of_getElem? (i := 70) rfl)) e11 (g := (mkF m 45 #[.val (.ref o), .val (.ref dd)] [(.ref o)])) rfl (hb hby d7_45) (by decide) (by decide)
  obtain ⟨b12, g12⟩ : ∃ z, z = h11.size := ⟨_, rfl⟩
  rw [← g12] at A12 D12 st12
  have g_b12 : n0 ≤ b12 := by rw [g12]; exact Z11
  have ne_o_b12 : o ≠ b12 := by rw [g12]; exact Nat.ne_of_lt E_o_11.lt
  have sz_b12 : h0.size ≤ b12 := by rw [g12]; exact K11.1
  have E_o_12 := E_o_11.ext E12
  have F_results_o_12 := F_results_o_11.ext E12
  have F_table_o_12 := F_table_o_11.ext E12
  have F_keys_o_12 := F_keys_o_11.ext E12
  have F_diagrams_o_12 := F_diagrams_o_11.ext E12
  have Z12 := Nat.le_trans Z11 E12.1
  have K12 := K11.ext E12
  have E_b12 := A12
  have F_values_b12 : Fld Z h12 b12 "com/example/fixpoint_checker/fixpointchecker/IntList" "values" "[I" .null := D12 (Or.inl (hw _ (List.mem_of_getElem? (i := 80) rfl))) (ty := (.array .int)) (by decide)
  refine OFin.to (T12.setTop (mkF m 48 #[.val (.ref o), .val (.ref dd)] [(.ref b12), (.ref o)])) st12 ?_
  refine OFin.to (T12.setTop (mkF m 49 #[.val (.ref o), .val (.ref dd)] [(.ref b12), (.ref b12), (.ref o)])) (fun _ kt => XS.dup X12.here hx rfl (hb hby d7_48) rfl rfl kt) ?_
  obtain ⟨v13, T13, L13, hQ13, X13, st13⟩ := own_callN X12 hx hZ hown rfl (hw _ (List.mem_of_getElem? (i := 71) rfl)) (hw _ (List.mem_of_getElem? (i := 72) rfl)) (hw _ (List.mem_of_getElem? (i := 73) rfl)) (hw _ (List.mem_of_getElem? (i := 70) rfl)) (by decide) e12 (rm8 l Z a0 hw [] b12 h12 n0 Z12 g_b12 E_b12 F_values_b12  ) 2 (by decide) (by decide) (by decide) (by decide) (g := (mkF m 49 #[.val (.ref o), .val (.ref dd)] [(.ref b12), (.ref b12), (.ref o)])) rfl (by rw [hml]; rfl) (rest := [(.ref b12), (.ref o)]) (lenOf pd_1 rfl) rfl (by show 2 * 0 + _ ≤ _; exact Nat.le_of_eq rfl) (hb hby d7_49)
  obtain ⟨rfl, Kq13, Nq13⟩ := hQ13
  refine OFin.to (T13.setTop (mkF m 52 #[.val (.ref o), .val (.ref dd)] [(.ref b12), (.ref o)])) st13 ?_
  have N13 := Fr.app N11 Nq13
  have Z13 := Nat.le_trans Z12 Kq13.1
  have E_o_13 := E_o_12.keep Kq13
  have F_results_o_13 := F_results_o_12.keep Kq13 (ninS ne_o_b12 nin0)
  have F_table_o_13 := F_table_o_12.keep Kq13 (ninS ne_o_b12 nin0)
  have F_keys_o_13 := F_keys_o_12.keep Kq13 (ninS ne_o_b12 nin0)
  have F_diagrams_o_13 := F_diagrams_o_12.keep Kq13 (ninS ne_o_b12 nin0)
  have E_b12_13 := E_b12.keep Kq13
  have KK13 := K12.trans Kq13 (fun x hx' => by cases List.mem_singleton.mp hx'; exact Or.inr sz_b12)
  obtain ⟨T14, h14, X14, e14, W14, st14⟩ := putF X13 hx hZ hown (host := "") (Or.inl (hw _ (List.mem_of_getElem? (i := 81) rfl))) Via.refl rfl F_results_o_13 E_o_13 (Or.inr ⟨(hw _ (List.mem_of_getElem? (i := 82) rfl)), rfl, hnm⟩) (hw _ (List.mem_of_getElem? (i := 50) rfl)) (ty := (.object "com/example/fixpoint_checker/fixpointchecker/IntList")) (by decide) rfl rfl (g := (mkF m 52 #[.val (.ref o), .val (.ref dd)] [(.ref b12), (.ref o)])) rfl rfl (hb hby d7_52)
  have E_o_14 := E_o_13.wr W14
  have F_table_o_14 := F_table_o_13.other W14 (Or.inr (slot_ne (Or.inl (hw _ (List.mem_of_getElem? (i := 84) rfl))) (Or.inr (hw _ (List.mem_of_getElem? (i := 82) rfl))) (by decide) (t := (.array .int)) (t' := (.object "com/example/fixpoint_checker/fixpointchecker/IntList")) (by decide) (by decide)))
  have F_keys_o_14 := F_keys_o_13.other W14 (Or.inr (slot_ne (Or.inl (hw _ (List.mem_of_getElem? (i := 86) rfl))) (Or.inr (hw _ (List.mem_of_getElem? (i := 82) rfl))) (by decide) (t := (.array .long)) (t' := (.object "com/example/fixpoint_checker/fixpointchecker/IntList")) (by decide) (by decide)))
  have F_diagrams_o_14 := F_diagrams_o_13.other W14 (Or.inr (slot_ne (Or.inr (hw _ (List.mem_of_getElem? (i := 88) rfl))) (Or.inr (hw _ (List.mem_of_getElem? (i := 82) rfl))) (by decide) (t := (.object "com/example/fixpoint_checker/fixpointchecker/bdd/DecisionDiagrams")) (t' := (.object "com/example/fixpoint_checker/fixpointchecker/IntList")) (by decide) (by decide)))
  have F_results_o_14 := F_results_o_13.same W14
  have K14 := KK13.wr W14 (Or.inl (by simp))
  have N14 := Fr.snoc X14 N13 g_o
  have Z14 := Nat.le_trans Z13 (Keep.of_wr W14).1
  refine OFin.to (T14.setTop (mkF m 55 #[.val (.ref o), .val (.ref dd)] [])) st14 ?_
  refine OFin.to (T14.setTop (mkF m 56 #[.val (.ref o), .val (.ref dd)] [(.ref o)])) (fun _ kt => XS.aloadN X14.here hx rfl (hb hby d7_55) rfl rfl kt) ?_
  refine OFin.to (T14.setTop (mkF m 59 #[.val (.ref o), .val (.ref dd)] [(.int (4096 : Int32)), (.ref o)])) (fun _ kt => XS.sipush X14.here hx rfl (hb hby d7_56) kt) ?_
  obtain ⟨T15, h15, X15, e15, E15, V15, st15⟩ := own_newP X14 hx hZ (hw _ (List.mem_of_getElem? (i := 59) rfl)) e14 (g := (mkF m 59 #[.val (.ref o), .val (.ref dd)] [(.int (4096 : Int32)), (.ref o)])) rfl (hb hby d7_59) rfl (by decide) (4096) rfl (cap := 4096) (Nat.le_refl _) (by decide) (by decide) (by decide)
  obtain ⟨b15, g15⟩ : ∃ z, z = h14.size := ⟨_, rfl⟩
  rw [← g15] at V15 st15
  rw [own_rep] at V15
  have g_b15 : n0 ≤ b15 := by rw [g15]; exact Z14
  have ne_o_b15 : o ≠ b15 := by rw [g15]; exact Nat.ne_of_lt E_o_14.lt
  have sz_b15 : h0.size ≤ b15 := by rw [g15]; exact K14.1
  have E_o_15 := E_o_14.ext E15
  have F_table_o_15 := F_table_o_14.ext E15
  have F_keys_o_15 := F_keys_o_14.ext E15
  have F_diagrams_o_15 := F_diagrams_o_14.ext E15
  have Z15 := Nat.le_trans Z14 E15.1
  have K15 := K14.ext E15
  refine OFin.to (T15.setTop (mkF m 61 #[.val (.ref o), .val (.ref dd)] [(.ref b15), (.ref o)])) st15 ?_
  obtain ⟨T16, h16, X16, e16, W16, st16⟩ := putF X15 hx hZ hown (host := "") (Or.inl (hw _ (List.mem_of_getElem? (i := 83) rfl))) Via.refl e15 F_table_o_15 E_o_15 (Or.inl (hw _ (List.mem_of_getElem? (i := 84) rfl))) (hw _ (List.mem_of_getElem? (i := 50) rfl)) (ty := (.array .int)) (by decide) rfl rfl (g := (mkF m 61 #[.val (.ref o), .val (.ref dd)] [(.ref b15), (.ref o)])) rfl rfl (hb hby d7_61)
  have E_o_16 := E_o_15.wr W16
  have F_keys_o_16 := F_keys_o_15.other W16 (Or.inr (slot_ne (Or.inl (hw _ (List.mem_of_getElem? (i := 86) rfl))) (Or.inl (hw _ (List.mem_of_getElem? (i := 84) rfl))) (by decide) (t := (.array .long)) (t' := (.array .int)) (by decide) (by decide)))
  have F_diagrams_o_16 := F_diagrams_o_15.other W16 (Or.inr (slot_ne (Or.inr (hw _ (List.mem_of_getElem? (i := 88) rfl))) (Or.inl (hw _ (List.mem_of_getElem? (i := 84) rfl))) (by decide) (t := (.object "com/example/fixpoint_checker/fixpointchecker/bdd/DecisionDiagrams")) (t' := (.array .int)) (by decide) (by decide)))
  have F_table_o_16 := F_table_o_15.same W16
  have K16 := K15.wr W16 (Or.inl (by simp))
  have N16 := Fr.snoc X16 N14 g_o
  have Z16 := Nat.le_trans Z15 (Keep.of_wr W16).1
  refine OFin.to (T16.setTop (mkF m 64 #[.val (.ref o), .val (.ref dd)] [])) st16 ?_
  refine OFin.to (T16.setTop (mkF m 65 #[.val (.ref o), .val (.ref dd)] [(.ref o)])) (fun _ kt => XS.aloadN X16.here hx rfl (hb hby d7_64) rfl rfl kt) ?_
  refine OFin.to (T16.setTop (mkF m 68 #[.val (.ref o), .val (.ref dd)] [(.int (8192 : Int32)), (.ref o)])) (fun _ kt => XS.sipush X16.here hx rfl (hb hby d7_65) kt) ?_
  obtain ⟨T17, h17, X17, e17, E17, V17, st17⟩ := own_newP X16 hx hZ (hw _ (List.mem_of_getElem? (i := 56) rfl)) e16 (g := (mkF m 68 #[.val (.ref o), .val (.ref dd)] [(.int (8192 : Int32)), (.ref o)])) rfl (hb hby d7_68) rfl (by decide) (8192) rfl (cap := 8192) (Nat.le_refl _) (by decide) (by decide) (by decide)
  obtain ⟨b17, g17⟩ : ∃ z, z = h16.size := ⟨_, rfl⟩
  rw [← g17] at V17 st17
  rw [own_rep] at V17
  have g_b17 : n0 ≤ b17 := by rw [g17]; exact Z16
  have ne_o_b17 : o ≠ b17 := by rw [g17]; exact Nat.ne_of_lt E_o_16.lt
  have sz_b17 : h0.size ≤ b17 := by rw [g17]; exact K16.1
  have E_o_17 := E_o_16.ext E17
  have F_keys_o_17 := F_keys_o_16.ext E17
  have F_diagrams_o_17 := F_diagrams_o_16.ext E17
  have Z17 := Nat.le_trans Z16 E17.1
  have K17 := K16.ext E17
  refine OFin.to (T17.setTop (mkF m 70 #[.val (.ref o), .val (.ref dd)] [(.ref b17), (.ref o)])) st17 ?_
  obtain ⟨T18, h18, X18, e18, W18, st18⟩ := putF X17 hx hZ hown (host := "") (Or.inl (hw _ (List.mem_of_getElem? (i := 85) rfl))) Via.refl e17 F_keys_o_17 E_o_17 (Or.inl (hw _ (List.mem_of_getElem? (i := 86) rfl))) (hw _ (List.mem_of_getElem? (i := 50) rfl)) (ty := (.array .long)) (by decide) rfl rfl (g := (mkF m 70 #[.val (.ref o), .val (.ref dd)] [(.ref b17), (.ref o)])) rfl rfl (hb hby d7_70)
  have E_o_18 := E_o_17.wr W18
  have F_diagrams_o_18 := F_diagrams_o_17.other W18 (Or.inr (slot_ne (Or.inr (hw _ (List.mem_of_getElem? (i := 88) rfl))) (Or.inl (hw _ (List.mem_of_getElem? (i := 86) rfl))) (by decide) (t := (.object "com/example/fixpoint_checker/fixpointchecker/bdd/DecisionDiagrams")) (t' := (.array .long)) (by decide) (by decide)))
  have F_keys_o_18 := F_keys_o_17.same W18
  have K18 := K17.wr W18 (Or.inl (by simp))
  have N18 := Fr.snoc X18 N16 g_o
  have Z18 := Nat.le_trans Z17 (Keep.of_wr W18).1
  refine OFin.to (T18.setTop (mkF m 73 #[.val (.ref o), .val (.ref dd)] [])) st18 ?_
  refine OFin.to (T18.setTop (mkF m 74 #[.val (.ref o), .val (.ref dd)] [(.ref o)])) (fun _ kt => XS.aloadN X18.here hx rfl (hb hby d7_73) rfl rfl kt) ?_
  refine OFin.to (T18.setTop (mkF m 75 #[.val (.ref o), .val (.ref dd)] [(.ref dd), (.ref o)])) (fun _ kt => XS.aloadN X18.here hx rfl (hb hby d7_74) rfl rfl kt) ?_
  obtain ⟨T19, h19, X19, e19, W19, st19⟩ := putF X18 hx hZ hown (host := "") (Or.inl (hw _ (List.mem_of_getElem? (i := 87) rfl))) Via.refl e18 F_diagrams_o_18 E_o_18 (Or.inr ⟨(hw _ (List.mem_of_getElem? (i := 88) rfl)), rfl, hnm⟩) (hw _ (List.mem_of_getElem? (i := 50) rfl)) (ty := (.object "com/example/fixpoint_checker/fixpointchecker/bdd/DecisionDiagrams")) (by decide) rfl rfl (g := (mkF m 75 #[.val (.ref o), .val (.ref dd)] [(.ref dd), (.ref o)])) rfl rfl (hb hby d7_75)
  have E_o_19 := E_o_18.wr W19
  have F_diagrams_o_19 := F_diagrams_o_18.same W19
  have K19 := K18.wr W19 (Or.inl (by simp))
  have N19 := Fr.snoc X19 N18 g_o
  have Z19 := Nat.le_trans Z18 (Keep.of_wr W19).1
  refine OFin.to (T19.setTop (mkF m 78 #[.val (.ref o), .val (.ref dd)] [])) st19 ?_
  exact OFin.retV X19 hx hret hlk (hb hby d7_78) (by decide) (by decide) (by rw [e19]; exact ⟨rfl, K19, N19⟩)
theorem d19_0 : decode jdk_65_method_103_code 0 = .ok (.iconst 0, 1) := by decide +kernel
theorem d19_1 : decode jdk_65_method_103_code 1 = .ok (.istore_n 2, 1) := by decide +kernel
theorem d19_2 : decode jdk_65_method_103_code 2 = .ok (.aload_n 0, 1) := by decide +kernel
theorem d19_3 : decode jdk_65_method_103_code 3 = .ok (.arraylength, 1) := by decide +kernel
theorem d19_4 : decode jdk_65_method_103_code 4 = .ok (.istore_n 3, 1) := by decide +kernel
theorem d19_5 : decode jdk_65_method_103_code 5 = .ok (.iload_n 2, 1) := by decide +kernel
theorem d19_6 : decode jdk_65_method_103_code 6 = .ok (.iload_n 3, 1) := by decide +kernel
theorem d19_7 : decode jdk_65_method_103_code 7 = .ok (.if_icmp .ge 13, 3) := by decide +kernel
theorem d19_10 : decode jdk_65_method_103_code 10 = .ok (.aload_n 0, 1) := by decide +kernel
theorem d19_11 : decode jdk_65_method_103_code 11 = .ok (.iload_n 2, 1) := by decide +kernel
theorem d19_12 : decode jdk_65_method_103_code 12 = .ok (.iload_n 1, 1) := by decide +kernel
theorem d19_13 : decode jdk_65_method_103_code 13 = .ok (.iastore, 1) := by decide +kernel
theorem d19_14 : decode jdk_65_method_103_code 14 = .ok (.iinc 2 1, 3) := by decide +kernel
theorem d19_17 : decode jdk_65_method_103_code 17 = .ok (.goto (-12), 3) := by decide +kernel
theorem d19_20 : decode jdk_65_method_103_code 20 = .ok (.return_, 1) := by decide +kernel
theorem pn_19 : plainName "java/util/Arrays" = true := by first | (simp [plainName, overriddenIn]; done) | decide +kernel
theorem ef_19 (m : MethodId) (a0 : Addr) (p1 : Int32) : entryFrame m #[(.ref a0), (.int p1)] 4 = mkF m 0 #[.val (.ref a0), .val (.int p1), .unset, .unset] [] := by first | (simp [entryFrame, mkF, argsToLocals, Value.category]; done) | rfl
set_option maxRecDepth 65536 in
set_option maxHeartbeats 40000000 in
theorem rm19 (l : Launch) (Z : State) (a0 : Array Value) (hw : ∀ d ∈ tables_1, d.before a0 Z = true) (ws : List Jvm.Cond) (b : Addr) (d : Int32) (h0 : Heap) (n0 : Nat) (Z0 : n0 ≤ h0.size) (N : Nat) (hN : N < 100000) (g : Nat → Value) (g_b : n0 ≤ b) (V0 : OFn Z h0 b .int N g) :
    MetFree l (⟨"java/util/Arrays", "fill", "([II)V"⟩ : MethodName) (head1 (Jvm.Cond.code (⟨"java/util/Arrays", "fill", "([II)V"⟩ : MethodName) jdk_65_method_103_code 4 none :: ws) ({ frames := 0, cells := 0, slots := 0, locals := 0 } : Room)) (fun a_ U => a_ = #[(.ref b), (.int d)] ∧ Z.Warmed39 U.vm ∧ U.heap = h0) (fun _ _ _ _ _ => True) (fun _ U o_ U' => ∃ v L, o_ = .returned v ∧ OQ (fun v h L => v = none ∧ Keep h0 h [b] ∧ Fr n0 L ∧ ∃ g', OFn Z h b .int N g') v U'.heap L ∧ FrameEnd U o_ U' L ({ frames := 0, cells := 0, slots := 0, locals := 0 } : Room).cells ({ frames := 0, cells := 0, slots := 0, locals := 0 } : Room).slots) := by
  refine MetFree.of_bodySF (plainFor_of_name pn_19) hisR ?_
  intro p e s m args below meth c s₁ Bd hml0 hP hK
  obtain ⟨rfl, hZ, hh⟩ := hP
  have hx := Bd.exec
  have hby := Bd.bytes
  have hml : c.maxLocals = 4 := hml0
  have hown : s.vm.findClass "java/util/Arrays" = some m.cls := findClass_of_methodNamed Bd.named
  have hnm := (name_of_methodNamed Bd.named Bd.method).1
  have hret := Bd.returns
  have hlk : meth.locks = false := Bd.notSynchronized
  have X0 : Stand p l e ({ frames := 0, cells := 0, slots := 0, locals := 0 } : Room) s m #[(.ref b), (.int d)] below meth c s₁ [] 0 0 := Stand.of_body Bd
  have e0 : s₁.heap = h0 := by rw [← hh, Bd.state]; rfl
  refine OFin.start (Q := fun v h L => v = none ∧ Keep h0 h [b] ∧ Fr n0 L ∧ ∃ g', OFn Z h b .int N g') (s := s) (fun t kt => castTop (ef_19 m (b) (d)) kt) ?_
  have LP : ∀ (r i : Nat) (T : State) (h : Heap) (L : List Loc) (g : Nat → Value), i + r = N → Stand p l e ({ frames := 0, cells := 0, slots := 0, locals := 0 } : Room) s m #[(.ref b), (.int d)] below meth c T L 0 0 → T.heap = h → OFn Z h b .int N g → Keep h0 h [b] → Fr n0 L → OFin p e below s ({ frames := 0, cells := 0, slots := 0, locals := 0 } : Room).cells ({ frames := 0, cells := 0, slots := 0, locals := 0 } : Room).slots (fun v h L => v = none ∧ Keep h0 h [b] ∧ Fr n0 L ∧ ∃ g', OFn Z h b .int N g') (T.setTop (mkF m 5 #[.val (.ref b), .val (.int d), .val (.int (Int32.ofNat i)), .val (.int (Int32.ofNat N))] [])) := by
    intro r
    induction r with
    | zero =>
      intro i T h L g hi X eT V K N'
      obtain rfl : i = N := by omega
      refine OFin.to (T.setTop (mkF m 6 #[.val (.ref b), .val (.int d), .val (.int (Int32.ofNat i)), .val (.int (Int32.ofNat i))] [(.int (Int32.ofNat i))])) (fun _ kt => XS.iloadN X.here hx rfl (hb hby d19_5) rfl kt) ?_
      refine OFin.to (T.setTop (mkF m 7 #[.val (.ref b), .val (.int d), .val (.int (Int32.ofNat i)), .val (.int (Int32.ofNat i))] [(.int (Int32.ofNat i)), (.int (Int32.ofNat i))])) (fun _ kt => XS.iloadN X.here hx rfl (hb hby d19_6) rfl kt) ?_
      refine OFin.to (T.setTop (mkF m 20 #[.val (.ref b), .val (.int d), .val (.int (Int32.ofNat i)), .val (.int (Int32.ofNat i))] [])) (fun _ kt => XS.icmpYes X.here hx rfl (pc0 := 7) (pc' := 20) rfl (hb hby d19_7) rfl (XT.ii_ge_t Int32.lt_irrefl) (by decide) (by decide) kt) ?_
      exact OFin.retV X hx hret hlk (hb hby d19_20) (Nat.zero_le _) (Nat.zero_le _) (by rw [eT]; exact ⟨rfl, K, N', g, V⟩)
    | succ r ih =>
      intro i T h L g hi X eT V K N'
      refine OFin.to (T.setTop (mkF m 6 #[.val (.ref b), .val (.int d), .val (.int (Int32.ofNat i)), .val (.int (Int32.ofNat N))] [(.int (Int32.ofNat i))])) (fun _ kt => XS.iloadN X.here hx rfl (hb hby d19_5) rfl kt) ?_
      refine OFin.to (T.setTop (mkF m 7 #[.val (.ref b), .val (.int d), .val (.int (Int32.ofNat i)), .val (.int (Int32.ofNat N))] [(.int (Int32.ofNat N)), (.int (Int32.ofNat i))])) (fun _ kt => XS.iloadN X.here hx rfl (hb hby d19_6) rfl kt) ?_
      refine OFin.to (T.setTop (mkF m 10 #[.val (.ref b), .val (.int d), .val (.int (Int32.ofNat i)), .val (.int (Int32.ofNat N))] [])) (fun _ kt => XS.icmpNo X.here hx rfl (hb hby d19_7) rfl (XT.ii_ge_f ((own_ofLt i N (by omega) (by omega)).mpr (by omega))) kt) ?_
      refine OFin.to (T.setTop (mkF m 11 #[.val (.ref b), .val (.int d), .val (.int (Int32.ofNat i)), .val (.int (Int32.ofNat N))] [(.ref b)])) (fun _ kt => XS.aloadN X.here hx rfl (hb hby d19_10) rfl rfl kt) ?_
      refine OFin.to (T.setTop (mkF m 12 #[.val (.ref b), .val (.int d), .val (.int (Int32.ofNat i)), .val (.int (Int32.ofNat N))] [(.int (Int32.ofNat i)), (.ref b)])) (fun _ kt => XS.iloadN X.here hx rfl (hb hby d19_11) rfl kt) ?_
      refine OFin.to (T.setTop (mkF m 13 #[.val (.ref b), .val (.int d), .val (.int (Int32.ofNat i)), .val (.int (Int32.ofNat N))] [(.int d), (.int (Int32.ofNat i)), (.ref b)])) (fun _ kt => XS.iloadN X.here hx rfl (hb hby d19_12) rfl kt) ?_
      obtain ⟨T1, h1, X1, e1, W1, -, st1⟩ := own_stI X hx hZ eT V i (own_ix i (by omega)).1 (own_ix i (by omega)).2 (by rw [own_rlen]; omega) (g := (mkF m 13 #[.val (.ref b), .val (.int d), .val (.int (Int32.ofNat i)), .val (.int (Int32.ofNat N))] [(.int d), (.int (Int32.ofNat i)), (.ref b)])) rfl rfl (hb hby d19_13)
      refine OFin.to (T1.setTop (mkF m 14 #[.val (.ref b), .val (.int d), .val (.int (Int32.ofNat i)), .val (.int (Int32.ofNat N))] [])) st1 ?_
      refine OFin.to (T1.setTop (mkF m 17 #[.val (.ref b), .val (.int d), .val (.int ((Int32.ofNat i) + (1 : Int32))), .val (.int (Int32.ofNat N))] [])) (fun _ kt => XS.iinc X1.here hx rfl (hb hby d19_14) rfl (l' := #[.val (.ref b), .val (.int d), .val (.int ((Int32.ofNat i) + (1 : Int32))), .val (.int (Int32.ofNat N))]) rfl kt) ?_
      refine OFin.to (T1.setTop (mkF m 5 #[.val (.ref b), .val (.int d), .val (.int ((Int32.ofNat i) + (1 : Int32))), .val (.int (Int32.ofNat N))] [])) (fun _ kt => XS.goto X1.here hx rfl (pc0 := 17) (pc' := 5) rfl (hb hby d19_17) (by decide) (by decide) kt) ?_
      rw [show Int32.ofNat i + (1 : Int32) = Int32.ofNat (i + 1) from own_ofAdd i 1]
      exact ih (i + 1) T1 h1 _ _ (by omega) X1 e1 (OFn.set V W1) (K.wr W1 (Or.inl (by simp))) (Fr.snoc X1 N' g_b)
  refine OFin.to (s₁.setTop (mkF m 1 #[.val (.ref b), .val (.int d), .unset, .unset] [(.int (0 : Int32))])) (fun _ kt => XS.iconst X0.here hx rfl (hb hby d19_0) kt) ?_
  refine OFin.to (s₁.setTop (mkF m 2 #[.val (.ref b), .val (.int d), .val (.int (0 : Int32)), .unset] [])) (fun _ kt => XS.istoreN X0.here hx rfl (hb hby d19_1) rfl (l' := #[.val (.ref b), .val (.int d), .val (.int (0 : Int32)), .unset]) rfl kt) ?_
  refine OFin.to (s₁.setTop (mkF m 3 #[.val (.ref b), .val (.int d), .val (.int (0 : Int32)), .unset] [(.ref b)])) (fun _ kt => XS.aloadN X0.here hx rfl (hb hby d19_2) rfl rfl kt) ?_
  refine OFin.to (s₁.setTop (mkF m 4 #[.val (.ref b), .val (.int d), .val (.int (0 : Int32)), .unset] [(.int (Int32.ofNat N))])) (fun _ kt => own_len X0 hx hZ e0 V0 (n := Int32.ofNat N) (by rw [own_rlen]) (g := (mkF m 3 #[.val (.ref b), .val (.int d), .val (.int (0 : Int32)), .unset] [(.ref b)])) rfl rfl (hb hby d19_3) _ kt) ?_
  refine OFin.to (s₁.setTop (mkF m 5 #[.val (.ref b), .val (.int d), .val (.int (0 : Int32)), .val (.int (Int32.ofNat N))] [])) (fun _ kt => XS.istoreN X0.here hx rfl (hb hby d19_4) rfl (l' := #[.val (.ref b), .val (.int d), .val (.int (0 : Int32)), .val (.int (Int32.ofNat N))]) rfl kt) ?_
  exact LP N 0 s₁ h0 _ _ (by omega) X0 e0 V0 (Keep.refl _ _) (Fr.nil _)
theorem d21_0 : decode prog_18_method_35_code 0 = .ok (.iconst 0, 1) := by decide +kernel
theorem d21_1 : decode prog_18_method_35_code 1 = .ok (.istore_n 1, 1) := by decide +kernel
theorem d21_2 : decode prog_18_method_35_code 2 = .ok (.iload_n 1, 1) := by decide +kernel
theorem d21_3 : decode prog_18_method_35_code 3 = .ok (.aload_n 0, 1) := by decide +kernel
theorem d21_4 : decode prog_18_method_35_code 4 = .ok (.getfield 355, 3) := by decide +kernel
theorem d21_7 : decode prog_18_method_35_code 7 = .ok (.arraylength, 1) := by decide +kernel
theorem d21_8 : decode prog_18_method_35_code 8 = .ok (.if_icmp .ge 18, 3) := by decide +kernel
theorem d21_11 : decode prog_18_method_35_code 11 = .ok (.aload_n 0, 1) := by decide +kernel
theorem d21_12 : decode prog_18_method_35_code 12 = .ok (.getfield 355, 3) := by decide +kernel
theorem d21_15 : decode prog_18_method_35_code 15 = .ok (.iload_n 1, 1) := by decide +kernel
theorem d21_16 : decode prog_18_method_35_code 16 = .ok (.iconst 0, 1) := by decide +kernel
theorem d21_17 : decode prog_18_method_35_code 17 = .ok (.iadd, 1) := by decide +kernel
theorem d21_18 : decode prog_18_method_35_code 18 = .ok (.iconst (-1), 1) := by decide +kernel
theorem d21_19 : decode prog_18_method_35_code 19 = .ok (.iastore, 1) := by decide +kernel
theorem d21_20 : decode prog_18_method_35_code 20 = .ok (.iinc 1 4, 3) := by decide +kernel
theorem d21_23 : decode prog_18_method_35_code 23 = .ok (.goto (-21), 3) := by decide +kernel
theorem d21_26 : decode prog_18_method_35_code 26 = .ok (.return_, 1) := by decide +kernel
theorem pn_21 : plainName "com/example/fixpoint_checker/fixpointchecker/bdd/DecisionDiagrams" = true := by first | (simp [plainName, overriddenIn]; done) | decide +kernel
theorem ef_21 (m : MethodId) (a0 : Addr) : entryFrame m #[(.ref a0)] 2 = mkF m 0 #[.val (.ref a0), .unset] [] := by first | (simp [entryFrame, mkF, argsToLocals, Value.category]; done) | rfl
set_option maxRecDepth 65536 in
set_option maxHeartbeats 40000000 in
theorem rm21 (l : Launch) (Z : State) (a0 : Array Value) (hw : ∀ d ∈ tables_1, d.before a0 Z = true) (ws : List Jvm.Cond) (o : Addr) (h0 : Heap) (n0 : Nat) (Z0 : n0 ≤ h0.size) (a : Addr) (g_a : n0 ≤ a) (ne_a_o : a ≠ o) (g : Nat → Value) (F_cache_o : Fld Z h0 o "com/example/fixpoint_checker/fixpointchecker/bdd/DecisionDiagrams" "cache" "[I" (.ref a)) (V0 : OFn Z h0 a .int 4096 g) :
    MetFree l (⟨"com/example/fixpoint_checker/fixpointchecker/bdd/DecisionDiagrams", "clearCache", "()V"⟩ : MethodName) (head1 (Jvm.Cond.code (⟨"com/example/fixpoint_checker/fixpointchecker/bdd/DecisionDiagrams", "clearCache", "()V"⟩ : MethodName) prog_18_method_35_code 2 none :: ws) ({ frames := 0, cells := 0, slots := 0, locals := 0 } : Room)) (fun a_ U => a_ = #[(.ref o)] ∧ Z.Warmed39 U.vm ∧ U.heap = h0) (fun _ _ _ _ _ => True) (fun _ U o_ U' => ∃ v L, o_ = .returned v ∧ OQ (fun v h L => v = none ∧ Keep h0 h [a] ∧ Fr n0 L) v U'.heap L ∧ FrameEnd U o_ U' L ({ frames := 0, cells := 0, slots := 0, locals := 0 } : Room).cells ({ frames := 0, cells := 0, slots := 0, locals := 0 } : Room).slots) := by
  refine MetFree.of_bodySF (plainFor_of_name pn_21) hisR ?_
  intro p e s m args below meth c s₁ Bd hml0 hP hK
  obtain ⟨rfl, hZ, hh⟩ := hP
  have hx := Bd.exec
  have hby := Bd.bytes
  have hml : c.maxLocals = 2 := hml0
  have hown : s.vm.findClass "com/example/fixpoint_checker/fixpointchecker/bdd/DecisionDiagrams" = some m.cls := findClass_of_methodNamed Bd.named
  have hnm := (name_of_methodNamed Bd.named Bd.method).1
  have hret := Bd.returns
  have hlk : meth.locks = false := Bd.notSynchronized
  have X0 : Stand p l e ({ frames := 0, cells := 0, slots := 0, locals := 0 } : Room) s m #[(.ref o)] below meth c s₁ [] 0 0 := Stand.of_body Bd
  have e0 : s₁.heap = h0 := by rw [← hh, Bd.state]; rfl
  refine OFin.start (Q := fun v h L => v = none ∧ Keep h0 h [a] ∧ Fr n0 L) (s := s) (fun t kt => castTop (ef_21 m (o)) kt) ?_
  have LP : ∀ (r i : Nat) (T : State) (h : Heap) (L : List Loc) (g : Nat → Value), i + r = 1024 → Stand p l e ({ frames := 0, cells := 0, slots := 0, locals := 0 } : Room) s m #[(.ref o)] below meth c T L 0 0 → T.heap = h → OFn Z h a .int 4096 g → Keep h0 h [a] → Fr n0 L → OFin p e below s ({ frames := 0, cells := 0, slots := 0, locals := 0 } : Room).cells ({ frames := 0, cells := 0, slots := 0, locals := 0 } : Room).slots (fun v h L => v = none ∧ Keep h0 h [a] ∧ Fr n0 L) (T.setTop (mkF m 2 #[.val (.ref o), .val (.int (Int32.ofNat (4 * i)))] [])) := by
    intro r
    induction r with
    | zero =>
      intro i T h L g hi X eT V K N'
      obtain rfl : i = 1024 := by omega
      have F := F_cache_o.keep K (ninS ne_a_o.symm nin0)
      refine OFin.to (T.setTop (mkF m 3 #[.val (.ref o), .val (.int (Int32.ofNat (4 * 1024)))] [(.int (Int32.ofNat (4 * 1024)))])) (fun _ kt => XS.iloadN X.here hx rfl (hb hby d21_2) rfl kt) ?_
      refine OFin.to (T.setTop (mkF m 4 #[.val (.ref o), .val (.int (Int32.ofNat (4 * 1024)))] [(.ref o), (.int (Int32.ofNat (4 * 1024)))])) (fun _ kt => XS.aloadN X.here hx rfl (hb hby d21_3) rfl rfl kt) ?_
      obtain ⟨T1, X1, e1, st1⟩ := getF X hx hZ hown (host := "") (Or.inl (hw _ (List.mem_of_getElem? (i := 197) rfl))) Via.refl eT F (g := (mkF m 4 #[.val (.ref o), .val (.int (Int32.ofNat (4 * 1024)))] [(.ref o), (.int (Int32.ofNat (4 * 1024)))])) rfl rfl (hb hby d21_4)
      refine OFin.to (T1.setTop (mkF m 7 #[.val (.ref o), .val (.int (Int32.ofNat (4 * 1024)))] [(.ref a), (.int (Int32.ofNat (4 * 1024)))])) st1 ?_
      refine OFin.to (T1.setTop (mkF m 8 #[.val (.ref o), .val (.int (Int32.ofNat (4 * 1024)))] [(.int (Int32.ofNat 4096)), (.int (Int32.ofNat (4 * 1024)))])) (fun _ kt => own_len X1 hx hZ e1 V (n := Int32.ofNat 4096) (by rw [own_rlen]) (g := (mkF m 7 #[.val (.ref o), .val (.int (Int32.ofNat (4 * 1024)))] [(.ref a), (.int (Int32.ofNat (4 * 1024)))])) rfl rfl (hb hby d21_7) _ kt) ?_
      refine OFin.to (T1.setTop (mkF m 26 #[.val (.ref o), .val (.int (Int32.ofNat (4 * 1024)))] [])) (fun _ kt => XS.icmpYes X1.here hx rfl (pc0 := 8) (pc' := 26) rfl (hb hby d21_8) rfl (XT.ii_ge_t Int32.lt_irrefl) (by decide) (by decide) kt) ?_
      exact OFin.retV X1 hx hret hlk (hb hby d21_26) (Nat.zero_le _) (Nat.zero_le _) (by rw [e1]; exact ⟨rfl, K, N'⟩)
    | succ r ih =>
      intro i T h L g hi X eT V K N'
      have F := F_cache_o.keep K (ninS ne_a_o.symm nin0)
      refine OFin.to (T.setTop (mkF m 3 #[.val (.ref o), .val (.int (Int32.ofNat (4 * i)))] [(.int (Int32.ofNat (4 * i)))])) (fun _ kt => XS.iloadN X.here hx rfl (hb hby d21_2) rfl kt) ?_
      refine OFin.to (T.setTop (mkF m 4 #[.val (.ref o), .val (.int (Int32.ofNat (4 * i)))] [(.ref o), (.int (Int32.ofNat (4 * i)))])) (fun _ kt => XS.aloadN X.here hx rfl (hb hby d21_3) rfl rfl kt) ?_
      obtain ⟨T2, X2, e2, st2⟩ := getF X hx hZ hown (host := "") (Or.inl (hw _ (List.mem_of_getElem? (i := 197) rfl))) Via.refl eT F (g := (mkF m 4 #[.val (.ref o), .val (.int (Int32.ofNat (4 * i)))] [(.ref o), (.int (Int32.ofNat (4 * i)))])) rfl rfl (hb hby d21_4)
      refine OFin.to (T2.setTop (mkF m 7 #[.val (.ref o), .val (.int (Int32.ofNat (4 * i)))] [(.ref a), (.int (Int32.ofNat (4 * i)))])) st2 ?_
      refine OFin.to (T2.setTop (mkF m 8 #[.val (.ref o), .val (.int (Int32.ofNat (4 * i)))] [(.int (Int32.ofNat 4096)), (.int (Int32.ofNat (4 * i)))])) (fun _ kt => own_len X2 hx hZ e2 V (n := Int32.ofNat 4096) (by rw [own_rlen]) (g := (mkF m 7 #[.val (.ref o), .val (.int (Int32.ofNat (4 * i)))] [(.ref a), (.int (Int32.ofNat (4 * i)))])) rfl rfl (hb hby d21_7) _ kt) ?_
      refine OFin.to (T2.setTop (mkF m 11 #[.val (.ref o), .val (.int (Int32.ofNat (4 * i)))] [])) (fun _ kt => XS.icmpNo X2.here hx rfl (hb hby d21_8) rfl (XT.ii_ge_f ((own_ofLt (4 * i) 4096 (by omega) (by decide)).mpr (by omega))) kt) ?_
      refine OFin.to (T2.setTop (mkF m 12 #[.val (.ref o), .val (.int (Int32.ofNat (4 * i)))] [(.ref o)])) (fun _ kt => XS.aloadN X2.here hx rfl (hb hby d21_11) rfl rfl kt) ?_
      obtain ⟨T3, X3, e3, st3⟩ := getF X2 hx hZ hown (host := "") (Or.inl (hw _ (List.mem_of_getElem? (i := 197) rfl))) Via.refl e2 F (g := (mkF m 12 #[.val (.ref o), .val (.int (Int32.ofNat (4 * i)))] [(.ref o)])) rfl rfl (hb hby d21_12)
      refine OFin.to (T3.setTop (mkF m 15 #[.val (.ref o), .val (.int (Int32.ofNat (4 * i)))] [(.ref a)])) st3 ?_
      refine OFin.to (T3.setTop (mkF m 16 #[.val (.ref o), .val (.int (Int32.ofNat (4 * i)))] [(.int (Int32.ofNat (4 * i))), (.ref a)])) (fun _ kt => XS.iloadN X3.here hx rfl (hb hby d21_15) rfl kt) ?_
      refine OFin.to (T3.setTop (mkF m 17 #[.val (.ref o), .val (.int (Int32.ofNat (4 * i)))] [(.int (0 : Int32)), (.int (Int32.ofNat (4 * i))), (.ref a)])) (fun _ kt => XS.iconst X3.here hx rfl (hb hby d21_16) kt) ?_
      refine OFin.to (T3.setTop (mkF m 18 #[.val (.ref o), .val (.int (Int32.ofNat (4 * i)))] [(.int ((Int32.ofNat (4 * i)) + (0 : Int32))), (.ref a)])) (fun _ kt => XS.iadd X3.here hx rfl (hb hby d21_17) rfl kt) ?_
      rw [show Int32.ofNat (4 * i) + (0 : Int32) = Int32.ofNat (4 * i) from own_ofAdd (4 * i) 0]
      refine OFin.to (T3.setTop (mkF m 19 #[.val (.ref o), .val (.int (Int32.ofNat (4 * i)))] [(.int (-1 : Int32)), (.int (Int32.ofNat (4 * i))), (.ref a)])) (fun _ kt => XS.iconst X3.here hx rfl (hb hby d21_18) kt) ?_
      obtain ⟨T9, h9, X9, e9, W9, -, st9⟩ := own_stI X3 hx hZ e3 V (4 * i) (own_ix (4 * i) (by omega)).1 (own_ix (4 * i) (by omega)).2 (by rw [own_rlen]; omega) (g := (mkF m 19 #[.val (.ref o), .val (.int (Int32.ofNat (4 * i)))] [(.int (-1 : Int32)), (.int (Int32.ofNat (4 * i))), (.ref a)])) rfl rfl (hb hby d21_19)
      refine OFin.to (T9.setTop (mkF m 20 #[.val (.ref o), .val (.int (Int32.ofNat (4 * i)))] [])) st9 ?_
      refine OFin.to (T9.setTop (mkF m 23 #[.val (.ref o), .val (.int ((Int32.ofNat (4 * i)) + (4 : Int32)))] [])) (fun _ kt => XS.iinc X9.here hx rfl (hb hby d21_20) rfl (l' := #[.val (.ref o), .val (.int ((Int32.ofNat (4 * i)) + (4 : Int32)))]) rfl kt) ?_
      refine OFin.to (T9.setTop (mkF m 2 #[.val (.ref o), .val (.int ((Int32.ofNat (4 * i)) + (4 : Int32)))] [])) (fun _ kt => XS.goto X9.here hx rfl (pc0 := 23) (pc' := 2) rfl (hb hby d21_23) (by decide) (by decide) kt) ?_
      rw [show Int32.ofNat (4 * i) + (4 : Int32) = Int32.ofNat (4 * (i + 1)) from own_ofAdd (4 * i) 4]
      exact ih (i + 1) T9 h9 _ _ (by omega) X9 e9 (OFn.set V W9) (K.wr W9 (Or.inl (by simp))) (Fr.snoc X9 N' g_a)
  refine OFin.to (s₁.setTop (mkF m 1 #[.val (.ref o), .unset] [(.int (0 : Int32))])) (fun _ kt => XS.iconst X0.here hx rfl (hb hby d21_0) kt) ?_
  refine OFin.to (s₁.setTop (mkF m 2 #[.val (.ref o), .val (.int (0 : Int32))] [])) (fun _ kt => XS.istoreN X0.here hx rfl (hb hby d21_1) rfl (l' := #[.val (.ref o), .val (.int (0 : Int32))]) rfl kt) ?_
  exact LP 1024 0 s₁ h0 _ _ (by omega) X0 e0 V0 (Keep.refl _ _) (Fr.nil _)
theorem d24_0 : decode prog_18_method_45_code 0 = .ok (.aload_n 0, 1) := by decide +kernel
theorem d24_1 : decode prog_18_method_45_code 1 = .ok (.getfield 140, 3) := by decide +kernel
theorem d24_4 : decode prog_18_method_45_code 4 = .ok (.iconst 2, 1) := by decide +kernel
theorem d24_5 : decode prog_18_method_45_code 5 = .ok (.iload_n 1, 1) := by decide +kernel
theorem d24_6 : decode prog_18_method_45_code 6 = .ok (.imul, 1) := by decide +kernel
theorem d24_7 : decode prog_18_method_45_code 7 = .ok (.iconst 1, 1) := by decide +kernel
theorem d24_8 : decode prog_18_method_45_code 8 = .ok (.iadd, 1) := by decide +kernel
theorem d24_9 : decode prog_18_method_45_code 9 = .ok (.iload_n 2, 1) := by decide +kernel
theorem d24_10 : decode prog_18_method_45_code 10 = .ok (.i2l, 1) := by decide +kernel
theorem d24_11 : decode prog_18_method_45_code 11 = .ok (.bipush 32, 2) := by decide +kernel
theorem d24_13 : decode prog_18_method_45_code 13 = .ok (.lshl, 1) := by decide +kernel
theorem d24_14 : decode prog_18_method_45_code 14 = .ok (.iload_n 3, 1) := by decide +kernel
theorem d24_15 : decode prog_18_method_45_code 15 = .ok (.i2l, 1) := by decide +kernel
theorem d24_16 : decode prog_18_method_45_code 16 = .ok (.ldc2_w 369, 3) := by decide +kernel
theorem d24_19 : decode prog_18_method_45_code 19 = .ok (.land, 1) := by decide +kernel
theorem d24_20 : decode prog_18_method_45_code 20 = .ok (.lor, 1) := by decide +kernel
theorem d24_21 : decode prog_18_method_45_code 21 = .ok (.lastore, 1) := by decide +kernel
theorem d24_22 : decode prog_18_method_45_code 22 = .ok (.return_, 1) := by decide +kernel
theorem pn_24 : plainName "com/example/fixpoint_checker/fixpointchecker/bdd/DecisionDiagrams" = true := by first | (simp [plainName, overriddenIn]; done) | decide +kernel
theorem ef_24 (m : MethodId) (a0 : Addr) (p1 : Int32) (p2 : Int32) (p3 : Int32) : entryFrame m #[(.ref a0), (.int p1), (.int p2), (.int p3)] 4 = mkF m 0 #[.val (.ref a0), .val (.int p1), .val (.int p2), .val (.int p3)] [] := by first | (simp [entryFrame, mkF, argsToLocals, Value.category]; done) | rfl
set_option maxRecDepth 65536 in
set_option maxHeartbeats 40000000 in
theorem rm24 (l : Launch) (Z : State) (a0 : Array Value) (hw : ∀ d ∈ tables_1, d.before a0 Z = true) (ws : List Jvm.Cond) (o : Addr) (lv nx : Int32) (h0 : Heap) (n0 : Nat) (Z0 : n0 ≤ h0.size) (a : Addr) (g_a : n0 ≤ a) (ne_a_o : a ≠ o) (g : Nat → Value) (E_o : Exa Z h0 o "com/example/fixpoint_checker/fixpointchecker/bdd/DecisionDiagrams") (F_slots_o : Fld Z h0 o "com/example/fixpoint_checker/fixpointchecker/bdd/DecisionDiagrams" "slots" "[J" (.ref a)) (V0 : OFn Z h0 a .long 2048 g) :
    MetFree l (⟨"com/example/fixpoint_checker/fixpointchecker/bdd/DecisionDiagrams", "setLevelAndNext", "(III)V"⟩ : MethodName) (head1 (Jvm.Cond.code (⟨"com/example/fixpoint_checker/fixpointchecker/bdd/DecisionDiagrams", "setLevelAndNext", "(III)V"⟩ : MethodName) prog_18_method_45_code 4 none :: ws) ({ frames := 0, cells := 0, slots := 0, locals := 0 } : Room)) (fun a_ U => a_ = #[(.ref o), (.int (0 : Int32)), (.int lv), (.int nx)] ∧ Z.Warmed39 U.vm ∧ U.heap = h0) (fun _ _ _ _ _ => True) (fun _ U o_ U' => ∃ v L, o_ = .returned v ∧ OQ (fun v h L => v = none ∧ Keep h0 h [a] ∧ Fr n0 L) v U'.heap L ∧ FrameEnd U o_ U' L ({ frames := 0, cells := 0, slots := 0, locals := 0 } : Room).cells ({ frames := 0, cells := 0, slots := 0, locals := 0 } : Room).slots) := by
  refine MetFree.of_bodySF (plainFor_of_name pn_24) hisR ?_
  intro p e s m args below meth c s₁ Bd hml0 hP hK
  obtain ⟨rfl, hZ, hh⟩ := hP
  have hx := Bd.exec
  have hby := Bd.bytes
  have hml : c.maxLocals = 4 := hml0
  have hown : s.vm.findClass "com/example/fixpoint_checker/fixpointchecker/bdd/DecisionDiagrams" = some m.cls := findClass_of_methodNamed Bd.named
  have hnm := (name_of_methodNamed Bd.named Bd.method).1
  have hret := Bd.returns
  have hlk : meth.locks = false := Bd.notSynchronized
  have X0 : Stand p l e ({ frames := 0, cells := 0, slots := 0, locals := 0 } : Room) s m #[(.ref o), (.int (0 : Int32)), (.int lv), (.int nx)] below meth c s₁ [] 0 0 := Stand.of_body Bd
  have e0 : s₁.heap = h0 := by rw [← hh, Bd.state]; rfl
  refine OFin.start (Q := fun v h L => v = none ∧ Keep h0 h [a] ∧ Fr n0 L) (s := s) (fun t kt => castTop (ef_24 m (o) ((0 : Int32)) (lv) (nx)) kt) ?_
  refine OFin.to (s₁.setTop (mkF m 1 #[.val (.ref o), .val (.int (0 : Int32)), .val (.int lv), .val (.int nx)] [(.ref o)])) (fun _ kt => XS.aloadN X0.here hx rfl (hb hby d24_0) rfl rfl kt) ?_
  obtain ⟨T1, X1, e1, st1⟩ := getF X0 hx hZ hown (host := "") (Or.inl (hw _ (List.mem_of_getElem? (i := 176) rfl))) Via.refl e0 F_slots_o (g := (mkF m 1 #[.val (.ref o), .val (.int (0 : Int32)), .val (.int lv), .val (.int nx)] [(.ref o)])) rfl rfl (hb hby d24_1)
  refine OFin.to (T1.setTop (mkF m 4 #[.val (.ref o), .val (.int (0 : Int32)), .val (.int lv), .val (.int nx)] [(.ref a)])) st1 ?_
  refine OFin.to (T1.setTop (mkF m 5 #[.val (.ref o), .val (.int (0 : Int32)), .val (.int lv), .val (.int nx)] [(.int (2 : Int32)), (.ref a)])) (fun _ kt => XS.iconst X1.here hx rfl (hb hby d24_4) kt) ?_
  refine OFin.to (T1.setTop (mkF m 6 #[.val (.ref o), .val (.int (0 : Int32)), .val (.int lv), .val (.int nx)] [(.int (0 : Int32)), (.int (2 : Int32)), (.ref a)])) (fun _ kt => XS.iloadN X1.here hx rfl (hb hby d24_5) rfl kt) ?_
  refine OFin.to (T1.setTop (mkF m 7 #[.val (.ref o), .val (.int (0 : Int32)), .val (.int lv), .val (.int nx)] [(.int ((2 : Int32) * (0 : Int32))), (.ref a)])) (fun _ kt => XS.imul X1.here hx rfl (hb hby d24_6) rfl kt) ?_
  refine OFin.to (T1.setTop (mkF m 8 #[.val (.ref o), .val (.int (0 : Int32)), .val (.int lv), .val (.int nx)] [(.int (1 : Int32)), (.int ((2 : Int32) * (0 : Int32))), (.ref a)])) (fun _ kt => XS.iconst X1.here hx rfl (hb hby d24_7) kt) ?_
  refine OFin.to (T1.setTop (mkF m 9 #[.val (.ref o), .val (.int (0 : Int32)), .val (.int lv), .val (.int nx)] [(.int (((2 : Int32) * (0 : Int32)) + (1 : Int32))), (.ref a)])) (fun _ kt => XS.iadd X1.here hx rfl (hb hby d24_8) rfl kt) ?_
  refine OFin.to (T1.setTop (mkF m 10 #[.val (.ref o), .val (.int (0 : Int32)), .val (.int lv), .val (.int nx)] [(.int lv), (.int (((2 : Int32) * (0 : Int32)) + (1 : Int32))), (.ref a)])) (fun _ kt => XS.iloadN X1.here hx rfl (hb hby d24_9) rfl kt) ?_
  refine OFin.to (T1.setTop (mkF m 11 #[.val (.ref o), .val (.int (0 : Int32)), .val (.int lv), .val (.int nx)] [(.long (lv.toInt64)), (.int (((2 : Int32) * (0 : Int32)) + (1 : Int32))), (.ref a)])) (fun _ kt => XS.i2l X1.here hx rfl (hb hby d24_10) rfl kt) ?_
  refine OFin.to (T1.setTop (mkF m 13 #[.val (.ref o), .val (.int (0 : Int32)), .val (.int lv), .val (.int nx)] [(.int (32 : Int32)), (.long (lv.toInt64)), (.int (((2 : Int32) * (0 : Int32)) + (1 : Int32))), (.ref a)])) (fun _ kt => XS.bipush X1.here hx rfl (hb hby d24_11) kt) ?_
  refine OFin.to (T1.setTop (mkF m 14 #[.val (.ref o), .val (.int (0 : Int32)), .val (.int lv), .val (.int nx)] [(.long ((lv.toInt64) <<< ((32 : Int32) &&& 0x3f).toInt64)), (.int (((2 : Int32) * (0 : Int32)) + (1 : Int32))), (.ref a)])) (fun _ kt => XS.lshl X1.here hx rfl (hb hby d24_13) rfl kt) ?_
  refine OFin.to (T1.setTop (mkF m 15 #[.val (.ref o), .val (.int (0 : Int32)), .val (.int lv), .val (.int nx)] [(.int nx), (.long ((lv.toInt64) <<< ((32 : Int32) &&& 0x3f).toInt64)), (.int (((2 : Int32) * (0 : Int32)) + (1 : Int32))), (.ref a)])) (fun _ kt => XS.iloadN X1.here hx rfl (hb hby d24_14) rfl kt) ?_
  refine OFin.to (T1.setTop (mkF m 16 #[.val (.ref o), .val (.int (0 : Int32)), .val (.int lv), .val (.int nx)] [(.long (nx.toInt64)), (.long ((lv.toInt64) <<< ((32 : Int32) &&& 0x3f).toInt64)), (.int (((2 : Int32) * (0 : Int32)) + (1 : Int32))), (.ref a)])) (fun _ kt => XS.i2l X1.here hx rfl (hb hby d24_15) rfl kt) ?_
  refine OFin.to (T1.setTop (mkF m 19 #[.val (.ref o), .val (.int (0 : Int32)), .val (.int lv), .val (.int nx)] [(.long (4294967295 : Int64)), (.long (nx.toInt64)), (.long ((lv.toInt64) <<< ((32 : Int32) &&& 0x3f).toInt64)), (.int (((2 : Int32) * (0 : Int32)) + (1 : Int32))), (.ref a)])) (fun _ kt => X1.ldc2J hx hown (mvT hZ (hw _ (List.mem_of_getElem? (i := 212) rfl))) (g := (mkF m 16 #[.val (.ref o), .val (.int (0 : Int32)), .val (.int lv), .val (.int nx)] [(.long (nx.toInt64)), (.long ((lv.toInt64) <<< ((32 : Int32) &&& 0x3f).toInt64)), (.int (((2 : Int32) * (0 : Int32)) + (1 : Int32))), (.ref a)])) rfl (hb hby d24_16) kt) ?_
  refine OFin.to (T1.setTop (mkF m 20 #[.val (.ref o), .val (.int (0 : Int32)), .val (.int lv), .val (.int nx)] [(.long ((nx.toInt64) &&& (4294967295 : Int64))), (.long ((lv.toInt64) <<< ((32 : Int32) &&& 0x3f).toInt64)), (.int (((2 : Int32) * (0 : Int32)) + (1 : Int32))), (.ref a)])) (fun _ kt => XS.land X1.here hx rfl (hb hby d24_19) rfl kt) ?_
  refine OFin.to (T1.setTop (mkF m 21 #[.val (.ref o), .val (.int (0 : Int32)), .val (.int lv), .val (.int nx)] [(.long (((lv.toInt64) <<< ((32 : Int32) &&& 0x3f).toInt64) ||| ((nx.toInt64) &&& (4294967295 : Int64)))), (.int (((2 : Int32) * (0 : Int32)) + (1 : Int32))), (.ref a)])) (fun _ kt => XS.lor X1.here hx rfl (hb hby d24_20) rfl kt) ?_
  obtain ⟨T2, h2, X2, e2, W2, -, st2⟩ := own_stJ X1 hx hZ e1 V0 1 (by decide) rfl (by rw [own_rlen]; decide) (g := (mkF m 21 #[.val (.ref o), .val (.int (0 : Int32)), .val (.int lv), .val (.int nx)] [(.long (((lv.toInt64) <<< ((32 : Int32) &&& 0x3f).toInt64) ||| ((nx.toInt64) &&& (4294967295 : Int64)))), (.int (((2 : Int32) * (0 : Int32)) + (1 : Int32))), (.ref a)])) rfl rfl (hb hby d24_21)
  refine OFin.to (T2.setTop (mkF m 22 #[.val (.ref o), .val (.int (0 : Int32)), .val (.int lv), .val (.int nx)] [])) st2 ?_
  have V2 := OFn.set V0 W2
  have K2 := (Keep.refl h0 [a]).wr W2 (Or.inl (by simp))
  have N2 := Fr.snoc X2 (Fr.nil n0) g_a
  have Z2 := Nat.le_trans Z0 (Keep.of_wr W2).1
  exact OFin.retV X2 hx hret hlk (hb hby d24_22) (by decide) (by decide) (by rw [e2]; exact ⟨rfl, K2, N2⟩)
theorem d22_0 : decode prog_18_method_44_code 0 = .ok (.aload_n 0, 1) := by decide +kernel
theorem d22_1 : decode prog_18_method_44_code 1 = .ok (.getfield 140, 3) := by decide +kernel
theorem d22_4 : decode prog_18_method_44_code 4 = .ok (.iconst 2, 1) := by decide +kernel
theorem d22_5 : decode prog_18_method_44_code 5 = .ok (.iload_n 1, 1) := by decide +kernel
theorem d22_6 : decode prog_18_method_44_code 6 = .ok (.imul, 1) := by decide +kernel
theorem d22_7 : decode prog_18_method_44_code 7 = .ok (.iconst 0, 1) := by decide +kernel
theorem d22_8 : decode prog_18_method_44_code 8 = .ok (.iadd, 1) := by decide +kernel
theorem d22_9 : decode prog_18_method_44_code 9 = .ok (.iload_n 3, 1) := by decide +kernel
theorem d22_10 : decode prog_18_method_44_code 10 = .ok (.iload 4, 2) := by decide +kernel
theorem d22_12 : decode prog_18_method_44_code 12 = .ok (.invokestatic 129, 3) := by decide +kernel
theorem d22_15 : decode prog_18_method_44_code 15 = .ok (.lastore, 1) := by decide +kernel
theorem d22_16 : decode prog_18_method_44_code 16 = .ok (.aload_n 0, 1) := by decide +kernel
theorem d22_17 : decode prog_18_method_44_code 17 = .ok (.iload_n 1, 1) := by decide +kernel
theorem d22_18 : decode prog_18_method_44_code 18 = .ok (.iload_n 2, 1) := by decide +kernel
theorem d22_19 : decode prog_18_method_44_code 19 = .ok (.iconst (-1), 1) := by decide +kernel
theorem d22_20 : decode prog_18_method_44_code 20 = .ok (.invokevirtual 273, 3) := by decide +kernel
theorem d22_23 : decode prog_18_method_44_code 23 = .ok (.return_, 1) := by decide +kernel
theorem pn_22 : plainName "com/example/fixpoint_checker/fixpointchecker/bdd/DecisionDiagrams" = true := by first | (simp [plainName, overriddenIn]; done) | decide +kernel
theorem ef_22 (m : MethodId) (a0 : Addr) (p1 : Int32) (p2 : Int32) (p3 : Int32) (p4 : Int32) : entryFrame m #[(.ref a0), (.int p1), (.int p2), (.int p3), (.int p4)] 5 = mkF m 0 #[.val (.ref a0), .val (.int p1), .val (.int p2), .val (.int p3), .val (.int p4)] [] := by first | (simp [entryFrame, mkF, argsToLocals, Value.category]; done) | rfl
set_option maxRecDepth 65536 in
set_option maxHeartbeats 40000000 in
theorem rm22 (l : Launch) (Z : State) (a0 : Array Value) (hw : ∀ d ∈ tables_1, d.before a0 Z = true) (ws : List Jvm.Cond) (o : Addr) (lv : Int32) (h0 : Heap) (n0 : Nat) (Z0 : n0 ≤ h0.size) (a : Addr) (g_a : n0 ≤ a) (ne_a_o : a ≠ o) (g : Nat → Value) (E_o : Exa Z h0 o "com/example/fixpoint_checker/fixpointchecker/bdd/DecisionDiagrams") (F_slots_o : Fld Z h0 o "com/example/fixpoint_checker/fixpointchecker/bdd/DecisionDiagrams" "slots" "[J" (.ref a)) (V0 : OFn Z h0 a .long 2048 g) :
    MetFree l (⟨"com/example/fixpoint_checker/fixpointchecker/bdd/DecisionDiagrams", "setSlot", "(IIII)V"⟩ : MethodName) (head1 (Jvm.Cond.code (⟨"com/example/fixpoint_checker/fixpointchecker/bdd/DecisionDiagrams", "setSlot", "(IIII)V"⟩ : MethodName) prog_18_method_44_code 5 none :: ws) ({ frames := 1, cells := 0, slots := 0, locals := 15 } : Room)) (fun a_ U => a_ = #[(.ref o), (.int (0 : Int32)), (.int lv), (.int (0 : Int32)), (.int (0 : Int32))] ∧ Z.Warmed39 U.vm ∧ U.heap = h0) (fun _ _ _ _ _ => True) (fun _ U o_ U' => ∃ v L, o_ = .returned v ∧ OQ (fun v h L => v = none ∧ Keep h0 h [a] ∧ Fr n0 L) v U'.heap L ∧ FrameEnd U o_ U' L ({ frames := 1, cells := 0, slots := 0, locals := 15 } : Room).cells ({ frames := 1, cells := 0, slots := 0, locals := 15 } : Room).slots) := by
  refine MetFree.of_bodySF (plainFor_of_name pn_22) hisR ?_
  intro p e s m args below meth c s₁ Bd hml0 hP hK
  obtain ⟨rfl, hZ, hh⟩ := hP
  have hx := Bd.exec
  have hby := Bd.bytes
  have hml : c.maxLocals = 5 := hml0
  have hown : s.vm.findClass "com/example/fixpoint_checker/fixpointchecker/bdd/DecisionDiagrams" = some m.cls := findClass_of_methodNamed Bd.named
  have hnm := (name_of_methodNamed Bd.named Bd.method).1
  have hret := Bd.returns
  have hlk : meth.locks = false := Bd.notSynchronized
  have X0 : Stand p l e ({ frames := 1, cells := 0, slots := 0, locals := 15 } : Room) s m #[(.ref o), (.int (0 : Int32)), (.int lv), (.int (0 : Int32)), (.int (0 : Int32))] below meth c s₁ [] 0 0 := Stand.of_body Bd
  have e0 : s₁.heap = h0 := by rw [← hh, Bd.state]; rfl
  refine OFin.start (Q := fun v h L => v = none ∧ Keep h0 h [a] ∧ Fr n0 L) (s := s) (fun t kt => castTop (ef_22 m (o) ((0 : Int32)) (lv) ((0 : Int32)) ((0 : Int32))) kt) ?_
  refine OFin.to (s₁.setTop (mkF m 1 #[.val (.ref o), .val (.int (0 : Int32)), .val (.int lv), .val (.int (0 : Int32)), .val (.int (0 : Int32))] [(.ref o)])) (fun _ kt => XS.aloadN X0.here hx rfl (hb hby d22_0) rfl rfl kt) ?_
  obtain ⟨T1, X1, e1, st1⟩ := getF X0 hx hZ hown (host := "") (Or.inl (hw _ (List.mem_of_getElem? (i := 176) rfl))) Via.refl e0 F_slots_o (g := (mkF m 1 #[.val (.ref o), .val (.int (0 : Int32)), .val (.int lv), .val (.int (0 : Int32)), .val (.int (0 : Int32))] [(.ref o)])) rfl rfl (hb hby d22_1)
  refine OFin.to (T1.setTop (mkF m 4 #[.val (.ref o), .val (.int (0 : Int32)), .val (.int lv), .val (.int (0 : Int32)), .val (.int (0 : Int32))] [(.ref a)])) st1 ?_
  refine OFin.to (T1.setTop (mkF m 5 #[.val (.ref o), .val (.int (0 : Int32)), .val (.int lv), .val (.int (0 : Int32)), .val (.int (0 : Int32))] [(.int (2 : Int32)), (.ref a)])) (fun _ kt => XS.iconst X1.here hx rfl (hb hby d22_4) kt) ?_
  refine OFin.to (T1.setTop (mkF m 6 #[.val (.ref o), .val (.int (0 : Int32)), .val (.int lv), .val (.int (0 : Int32)), .val (.int (0 : Int32))] [(.int (0 : Int32)), (.int (2 : Int32)), (.ref a)])) (fun _ kt => XS.iloadN X1.here hx rfl (hb hby d22_5) rfl kt) ?_
  refine OFin.to (T1.setTop (mkF m 7 #[.val (.ref o), .val (.int (0 : Int32)), .val (.int lv), .val (.int (0 : Int32)), .val (.int (0 : Int32))] [(.int ((2 : Int32) * (0 : Int32))), (.ref a)])) (fun _ kt => XS.imul X1.here hx rfl (hb hby d22_6) rfl kt) ?_
  refine OFin.to (T1.setTop (mkF m 8 #[.val (.ref o), .val (.int (0 : Int32)), .val (.int lv), .val (.int (0 : Int32)), .val (.int (0 : Int32))] [(.int (0 : Int32)), (.int ((2 : Int32) * (0 : Int32))), (.ref a)])) (fun _ kt => XS.iconst X1.here hx rfl (hb hby d22_7) kt) ?_
  refine OFin.to (T1.setTop (mkF m 9 #[.val (.ref o), .val (.int (0 : Int32)), .val (.int lv), .val (.int (0 : Int32)), .val (.int (0 : Int32))] [(.int (((2 : Int32) * (0 : Int32)) + (0 : Int32))), (.ref a)])) (fun _ kt => XS.iadd X1.here hx rfl (hb hby d22_8) rfl kt) ?_
  refine OFin.to (T1.setTop (mkF m 10 #[.val (.ref o), .val (.int (0 : Int32)), .val (.int lv), .val (.int (0 : Int32)), .val (.int (0 : Int32))] [(.int (0 : Int32)), (.int (((2 : Int32) * (0 : Int32)) + (0 : Int32))), (.ref a)])) (fun _ kt => XS.iloadN X1.here hx rfl (hb hby d22_9) rfl kt) ?_
  refine OFin.to (T1.setTop (mkF m 12 #[.val (.ref o), .val (.int (0 : Int32)), .val (.int lv), .val (.int (0 : Int32)), .val (.int (0 : Int32))] [(.int (0 : Int32)), (.int (0 : Int32)), (.int (((2 : Int32) * (0 : Int32)) + (0 : Int32))), (.ref a)])) (fun _ kt => XS.iload X1.here hx rfl (hb hby d22_10) rfl kt) ?_
  obtain ⟨v2, T2, L2, hQ2, X2, st2⟩ := own_callS X1 hx hZ hown (hw _ (List.mem_of_getElem? (i := 209) rfl)) (hw _ (List.mem_of_getElem? (i := 210) rfl)) (hw _ (List.mem_of_getElem? (i := 42) rfl)) (hw _ (List.mem_of_getElem? (i := 211) rfl)) (by decide) e1 (rm23 l Z a0 hw [] (0 : Int32) (0 : Int32) h0) 2 (by decide) (by decide) (by decide) (by decide) (g := (mkF m 12 #[.val (.ref o), .val (.int (0 : Int32)), .val (.int lv), .val (.int (0 : Int32)), .val (.int (0 : Int32))] [(.int (0 : Int32)), (.int (0 : Int32)), (.int (((2 : Int32) * (0 : Int32)) + (0 : Int32))), (.ref a)])) rfl (by rw [hml]; rfl) (rest := [(.int (((2 : Int32) * (0 : Int32)) + (0 : Int32))), (.ref a)]) (lenOf pd_4 rfl) rfl (by show 2 * 0 + _ ≤ _; exact Nat.le_of_eq rfl) (hb hby d22_12)
  obtain ⟨rfl, e2, rfl⟩ := hQ2
  rw [List.append_nil] at X2
  refine OFin.to (T2.setTop (mkF m 15 #[.val (.ref o), .val (.int (0 : Int32)), .val (.int lv), .val (.int (0 : Int32)), .val (.int (0 : Int32))] [(.long (f23_0 (0 : Int32) (0 : Int32))), (.int (((2 : Int32) * (0 : Int32)) + (0 : Int32))), (.ref a)])) st2 ?_
  obtain ⟨T3, h3, X3, e3, W3, -, st3⟩ := own_stJ X2 hx hZ e2 V0 0 (by decide) rfl (by rw [own_rlen]; decide) (g := (mkF m 15 #[.val (.ref o), .val (.int (0 : Int32)), .val (.int lv), .val (.int (0 : Int32)), .val (.int (0 : Int32))] [(.long (f23_0 (0 : Int32) (0 : Int32))), (.int (((2 : Int32) * (0 : Int32)) + (0 : Int32))), (.ref a)])) rfl rfl (hb hby d22_15)
  refine OFin.to (T3.setTop (mkF m 16 #[.val (.ref o), .val (.int (0 : Int32)), .val (.int lv), .val (.int (0 : Int32)), .val (.int (0 : Int32))] [])) st3 ?_
  have V3 := OFn.set V0 W3
  have K3 := (Keep.refl h0 [a]).wr W3 (Or.inl (by simp))
  have N3 := Fr.snoc X3 (Fr.nil n0) g_a
  have Z3 := Nat.le_trans Z0 (Keep.of_wr W3).1
  have F_s := F_slots_o.other W3 (Or.inl ne_a_o.symm)
  have E_s := E_o.wr W3
  refine OFin.to (T3.setTop (mkF m 17 #[.val (.ref o), .val (.int (0 : Int32)), .val (.int lv), .val (.int (0 : Int32)), .val (.int (0 : Int32))] [(.ref o)])) (fun _ kt => XS.aloadN X3.here hx rfl (hb hby d22_16) rfl rfl kt) ?_
  refine OFin.to (T3.setTop (mkF m 18 #[.val (.ref o), .val (.int (0 : Int32)), .val (.int lv), .val (.int (0 : Int32)), .val (.int (0 : Int32))] [(.int (0 : Int32)), (.ref o)])) (fun _ kt => XS.iloadN X3.here hx rfl (hb hby d22_17) rfl kt) ?_
  refine OFin.to (T3.setTop (mkF m 19 #[.val (.ref o), .val (.int (0 : Int32)), .val (.int lv), .val (.int (0 : Int32)), .val (.int (0 : Int32))] [(.int lv), (.int (0 : Int32)), (.ref o)])) (fun _ kt => XS.iloadN X3.here hx rfl (hb hby d22_18) rfl kt) ?_
  refine OFin.to (T3.setTop (mkF m 20 #[.val (.ref o), .val (.int (0 : Int32)), .val (.int lv), .val (.int (0 : Int32)), .val (.int (0 : Int32))] [(.int (-1 : Int32)), (.int lv), (.int (0 : Int32)), (.ref o)])) (fun _ kt => XS.iconst X3.here hx rfl (hb hby d22_19) kt) ?_
  obtain ⟨v4, T4, L4, hQ4, X4, st4⟩ := own_callP X3 hx hZ hown (hw _ (List.mem_of_getElem? (i := 213) rfl)) (own_selI hZ (hw _ (List.mem_of_getElem? (i := 41) rfl)) (hw _ (List.mem_of_getElem? (i := 215) rfl)) (hw _ (List.mem_of_getElem? (i := 214) rfl)) (by decide)) (hw _ (List.mem_of_getElem? (i := 215) rfl)) (hw _ (List.mem_of_getElem? (i := 214) rfl)) (hw _ (List.mem_of_getElem? (i := 216) rfl)) (hw _ (List.mem_of_getElem? (i := 42) rfl)) (by decide) e3 E_s (rm24 l Z a0 hw [] o lv (-1 : Int32) h3 n0 Z3 a g_a ne_a_o _ E_s F_s V3) 0 (by decide) (by decide) (by decide) (by decide) (g := (mkF m 20 #[.val (.ref o), .val (.int (0 : Int32)), .val (.int lv), .val (.int (0 : Int32)), .val (.int (0 : Int32))] [(.int (-1 : Int32)), (.int lv), (.int (0 : Int32)), (.ref o)])) rfl (by rw [hml]; rfl) (rest := []) (lenOf pd_5 rfl) rfl (by show 2 * 0 + _ ≤ _; exact Nat.le_of_eq rfl) (hb hby d22_20)
  obtain ⟨rfl, Kq4, Nq4⟩ := hQ4
  refine OFin.to (T4.setTop (mkF m 23 #[.val (.ref o), .val (.int (0 : Int32)), .val (.int lv), .val (.int (0 : Int32)), .val (.int (0 : Int32))] [])) st4 ?_
  have N4 := Fr.app N3 Nq4
  have Z4 := Nat.le_trans Z3 Kq4.1
  have KK4 := K3.trans Kq4 (fun x hx' => by cases List.mem_singleton.mp hx'; exact Or.inl (by simp))
  exact OFin.retV X4 hx hret hlk (hb hby d22_23) (by decide) (by decide) ⟨rfl, KK4, N4⟩
theorem d16_0 : decode prog_18_method_49_code 0 = .ok (.aload_n 0, 1) := by decide +kernel
theorem d16_1 : decode prog_18_method_49_code 1 = .ok (.iload_n 1, 1) := by decide +kernel
theorem d16_2 : decode prog_18_method_49_code 2 = .ok (.putfield 363, 3) := by decide +kernel
theorem d16_5 : decode prog_18_method_49_code 5 = .ok (.aload_n 0, 1) := by decide +kernel
theorem d16_6 : decode prog_18_method_49_code 6 = .ok (.iconst 2, 1) := by decide +kernel
theorem d16_7 : decode prog_18_method_49_code 7 = .ok (.iload_n 1, 1) := by decide +kernel
theorem d16_8 : decode prog_18_method_49_code 8 = .ok (.imul, 1) := by decide +kernel
theorem d16_9 : decode prog_18_method_49_code 9 = .ok (.newarray .long, 2) := by decide +kernel
theorem d16_11 : decode prog_18_method_49_code 11 = .ok (.putfield 140, 3) := by decide +kernel
theorem d16_14 : decode prog_18_method_49_code 14 = .ok (.aload_n 0, 1) := by decide +kernel
theorem d16_15 : decode prog_18_method_49_code 15 = .ok (.iload_n 1, 1) := by decide +kernel
theorem d16_16 : decode prog_18_method_49_code 16 = .ok (.iconst 1, 1) := by decide +kernel
theorem d16_17 : decode prog_18_method_49_code 17 = .ok (.isub, 1) := by decide +kernel
theorem d16_18 : decode prog_18_method_49_code 18 = .ok (.invokestatic 383, 3) := by decide +kernel
theorem d16_21 : decode prog_18_method_49_code 21 = .ok (.iconst 1, 1) := by decide +kernel
theorem d16_22 : decode prog_18_method_49_code 22 = .ok (.ishl, 1) := by decide +kernel
theorem d16_23 : decode prog_18_method_49_code 23 = .ok (.newarray .int, 2) := by decide +kernel
theorem d16_25 : decode prog_18_method_49_code 25 = .ok (.putfield 133, 3) := by decide +kernel
theorem d16_28 : decode prog_18_method_49_code 28 = .ok (.aload_n 0, 1) := by decide +kernel
theorem d16_29 : decode prog_18_method_49_code 29 = .ok (.getfield 133, 3) := by decide +kernel
theorem d16_32 : decode prog_18_method_49_code 32 = .ok (.iconst (-1), 1) := by decide +kernel
theorem d16_33 : decode prog_18_method_49_code 33 = .ok (.invokestatic 264, 3) := by decide +kernel
theorem d16_36 : decode prog_18_method_49_code 36 = .ok (.aload_n 0, 1) := by decide +kernel
theorem d16_37 : decode prog_18_method_49_code 37 = .ok (.getfield 133, 3) := by decide +kernel
theorem d16_40 : decode prog_18_method_49_code 40 = .ok (.arraylength, 1) := by decide +kernel
theorem d16_41 : decode prog_18_method_49_code 41 = .ok (.ldc_w 386, 3) := by decide +kernel
theorem d16_44 : decode prog_18_method_49_code 44 = .ok (.invokestatic 332, 3) := by decide +kernel
theorem d16_47 : decode prog_18_method_49_code 47 = .ok (.istore_n 2, 1) := by decide +kernel
theorem d16_48 : decode prog_18_method_49_code 48 = .ok (.aload_n 0, 1) := by decide +kernel
theorem d16_49 : decode prog_18_method_49_code 49 = .ok (.getfield 355, 3) := by decide +kernel
theorem d16_52 : decode prog_18_method_49_code 52 = .ok (.ifnull 13, 3) := by decide +kernel
theorem d16_65 : decode prog_18_method_49_code 65 = .ok (.aload_n 0, 1) := by decide +kernel
theorem d16_66 : decode prog_18_method_49_code 66 = .ok (.iconst 4, 1) := by decide +kernel
theorem d16_67 : decode prog_18_method_49_code 67 = .ok (.iload_n 2, 1) := by decide +kernel
theorem d16_68 : decode prog_18_method_49_code 68 = .ok (.imul, 1) := by decide +kernel
theorem d16_69 : decode prog_18_method_49_code 69 = .ok (.newarray .int, 2) := by decide +kernel
theorem d16_71 : decode prog_18_method_49_code 71 = .ok (.putfield 355, 3) := by decide +kernel
theorem d16_74 : decode prog_18_method_49_code 74 = .ok (.aload_n 0, 1) := by decide +kernel
theorem d16_75 : decode prog_18_method_49_code 75 = .ok (.iload_n 2, 1) := by decide +kernel
theorem d16_76 : decode prog_18_method_49_code 76 = .ok (.iconst 1, 1) := by decide +kernel
theorem d16_77 : decode prog_18_method_49_code 77 = .ok (.isub, 1) := by decide +kernel
theorem d16_78 : decode prog_18_method_49_code 78 = .ok (.putfield 296, 3) := by decide +kernel
theorem d16_81 : decode prog_18_method_49_code 81 = .ok (.aload_n 0, 1) := by decide +kernel
theorem d16_82 : decode prog_18_method_49_code 82 = .ok (.invokevirtual 277, 3) := by decide +kernel
theorem d16_85 : decode prog_18_method_49_code 85 = .ok (.return_, 1) := by decide +kernel
theorem pn_16 : plainName "com/example/fixpoint_checker/fixpointchecker/bdd/DecisionDiagrams" = true := by first | (simp [plainName, overriddenIn]; done) | decide +kernel
theorem ef_16 (m : MethodId) (a0 : Addr) (p1 : Int32) : entryFrame m #[(.ref a0), (.int p1)] 3 = mkF m 0 #[.val (.ref a0), .val (.int p1), .unset] [] := by first | (simp [entryFrame, mkF, argsToLocals, Value.category]; done) | rfl
set_option maxRecDepth 65536 in
set_option maxHeartbeats 40000000 in
theorem rm16 (l : Launch) (Z : State) (a0 : Array Value) (hw : ∀ d ∈ tables_1, d.before a0 Z = true) (ws : List Jvm.Cond) (o : Addr)  (h0 : Heap) (n0 : Nat) (Z0 : n0 ≤ h0.size) (g_o : n0 ≤ o) (E_o : Exa Z h0 o "com/example/fixpoint_checker/fixpointchecker/bdd/DecisionDiagrams") {u_capacity : Value} (F_capacity_o : Fld Z h0 o "com/example/fixpoint_checker/fixpointchecker/bdd/DecisionDiagrams" "capacity" "I" u_capacity) {u_slots : Value} (F_slots_o : Fld Z h0 o "com/example/fixpoint_checker/fixpointchecker/bdd/DecisionDiagrams" "slots" "[J" u_slots) {u_buckets : Value} (F_buckets_o : Fld Z h0 o "com/example/fixpoint_checker/fixpointchecker/bdd/DecisionDiagrams" "buckets" "[I" u_buckets) (F_cache_o : Fld Z h0 o "com/example/fixpoint_checker/fixpointchecker/bdd/DecisionDiagrams" "cache" "[I" .null) {u_cacheMask : Value} (F_cacheMask_o : Fld Z h0 o "com/example/fixpoint_checker/fixpointchecker/bdd/DecisionDiagrams" "cacheMask" "I" u_cacheMask) {u_slotCount : Value} (F_slotCount_o : Fld Z h0 o "com/example/fixpoint_checker/fixpointchecker/bdd/DecisionDiagrams" "slotCount" "I" u_slotCount) :
    MetFree l (⟨"com/example/fixpoint_checker/fixpointchecker/bdd/DecisionDiagrams", "allocate", "(I)V"⟩ : MethodName) (head1 (Jvm.Cond.code (⟨"com/example/fixpoint_checker/fixpointchecker/bdd/DecisionDiagrams", "allocate", "(I)V"⟩ : MethodName) prog_18_method_49_code 3 none :: ws) ({ frames := 2, cells := 3, slots := 7168, locals := 28 } : Room)) (fun a_ U => a_ = #[(.ref o), (.int (1024 : Int32))] ∧ Z.Warmed39 U.vm ∧ U.heap = h0) (fun _ _ _ _ _ => True) (fun _ U o_ U' => ∃ v L, o_ = .returned v ∧ OQ (fun v h L => v = none ∧ Keep h0 h [o] ∧ Fr n0 L ∧ Fld Z h o "com/example/fixpoint_checker/fixpointchecker/bdd/DecisionDiagrams" "slotCount" "I" u_slotCount ∧ ∃ a g, h0.size ≤ a ∧ n0 ≤ a ∧ Fld Z h o "com/example/fixpoint_checker/fixpointchecker/bdd/DecisionDiagrams" "slots" "[J" (.ref a) ∧ OFn Z h a .long 2048 g) v U'.heap L ∧ FrameEnd U o_ U' L ({ frames := 2, cells := 3, slots := 7168, locals := 28 } : Room).cells ({ frames := 2, cells := 3, slots := 7168, locals := 28 } : Room).slots) := by
  refine MetFree.of_bodySF (plainFor_of_name pn_16) hisR ?_
  intro p e s m args below meth c s₁ Bd hml0 hP hK
  obtain ⟨rfl, hZ, hh⟩ := hP
  have hx := Bd.exec
  have hby := Bd.bytes
  have hml : c.maxLocals = 3 := hml0
  have hown : s.vm.findClass "com/example/fixpoint_checker/fixpointchecker/bdd/DecisionDiagrams" = some m.cls := findClass_of_methodNamed Bd.named
  have hnm := (name_of_methodNamed Bd.named Bd.method).1
  have hret := Bd.returns
  have hlk : meth.locks = false := Bd.notSynchronized
  have X0 : Stand p l e ({ frames := 2, cells := 3, slots := 7168, locals := 28 } : Room) s m #[(.ref o), (.int (1024 : Int32))] below meth c s₁ [] 0 0 := Stand.of_body Bd
  have e0 : s₁.heap = h0 := by rw [← hh, Bd.state]; rfl
  refine OFin.start (Q := fun v h L => v = none ∧ Keep h0 h [o] ∧ Fr n0 L ∧ Fld Z h o "com/example/fixpoint_checker/fixpointchecker/bdd/DecisionDiagrams" "slotCount" "I" u_slotCount ∧ ∃ a g, h0.size ≤ a ∧ n0 ≤ a ∧ Fld Z h o "com/example/fixpoint_checker/fixpointchecker/bdd/DecisionDiagrams" "slots" "[J" (.ref a) ∧ OFn Z h a .long 2048 g) (s := s) (fun t kt => castTop (ef_16 m (o) ((1024 : Int32))) kt) ?_
  refine OFin.to (s₁.setTop (mkF m 1 #[.val (.ref o), .val (.int (1024 : Int32)), .unset] [(.ref o)])) (fun _ kt => XS.aloadN X0.here hx rfl (hb hby d16_0) rfl rfl kt) ?_
  refine OFin.to (s₁.setTop (mkF m 2 #[.val (.ref o), .val (.int (1024 : Int32)), .unset] [(.int (1024 : Int32)), (.ref o)])) (fun _ kt => XS.iloadN X0.here hx rfl (hb hby d16_1) rfl kt) ?_
  obtain ⟨T1, h1, X1, e1, W1, st1⟩ := putF X0 hx hZ hown (host := "") (Or.inl (hw _ (List.mem_of_getElem? (i := 174) rfl))) Via.refl e0 F_capacity_o E_o (Or.inl (hw _ (List.mem_of_getElem? (i := 175) rfl))) (hw _ (List.mem_of_getElem? (i := 41) rfl)) (ty := .int) (by decide) rfl rfl (g := (mkF m 2 #[.val (.ref o), .val (.int (1024 : Int32)), .unset] [(.int (1024 : Int32)), (.ref o)])) rfl rfl (hb hby d16_2)
  have E_o_1 := E_o.wr W1
  have F_slots_o_1 := F_slots_o.other W1 (Or.inr (slot_ne (Or.inl (hw _ (List.mem_of_getElem? (i := 177) rfl))) (Or.inl (hw _ (List.mem_of_getElem? (i := 175) rfl))) (by decide) (t := (.array .long)) (t' := .int) (by decide) (by decide)))
  have F_buckets_o_1 := F_buckets_o.other W1 (Or.inr (slot_ne (Or.inl (hw _ (List.mem_of_getElem? (i := 188) rfl))) (Or.inl (hw _ (List.mem_of_getElem? (i := 175) rfl))) (by decide) (t := (.array .int)) (t' := .int) (by decide) (by decide)))
  have F_cache_o_1 := F_cache_o.other W1 (Or.inr (slot_ne (Or.inl (hw _ (List.mem_of_getElem? (i := 198) rfl))) (Or.inl (hw _ (List.mem_of_getElem? (i := 175) rfl))) (by decide) (t := (.array .int)) (t' := .int) (by decide) (by decide)))
  have F_cacheMask_o_1 := F_cacheMask_o.other W1 (Or.inr (slot_ne (Or.inl (hw _ (List.mem_of_getElem? (i := 200) rfl))) (Or.inl (hw _ (List.mem_of_getElem? (i := 175) rfl))) (by decide) (t := .int) (t' := .int) (by decide) (by decide)))
  have F_slotCount_o_1 := F_slotCount_o.other W1 (Or.inr (slot_ne (Or.inl (hw _ (List.mem_of_getElem? (i := 218) rfl))) (Or.inl (hw _ (List.mem_of_getElem? (i := 175) rfl))) (by decide) (t := .int) (t' := .int) (by decide) (by decide)))
  have F_capacity_o_1 := F_capacity_o.same W1
  have K1 := (Keep.refl h0 [o]).wr W1 (Or.inl (by simp))
  have N1 := Fr.snoc X1 (Fr.nil n0) g_o
  have Z1 := Nat.le_trans Z0 (Keep.of_wr W1).1
  refine OFin.to (T1.setTop (mkF m 5 #[.val (.ref o), .val (.int (1024 : Int32)), .unset] [])) st1 ?_
  refine OFin.to (T1.setTop (mkF m 6 #[.val (.ref o), .val (.int (1024 : Int32)), .unset] [(.ref o)])) (fun _ kt => XS.aloadN X1.here hx rfl (hb hby d16_5) rfl rfl kt) ?_
  refine OFin.to (T1.setTop (mkF m 7 #[.val (.ref o), .val (.int (1024 : Int32)), .unset] [(.int (2 : Int32)), (.ref o)])) (fun _ kt => XS.iconst X1.here hx rfl (hb hby d16_6) kt) ?_
  refine OFin.to (T1.setTop (mkF m 8 #[.val (.ref o), .val (.int (1024 : Int32)), .unset] [(.int (1024 : Int32)), (.int (2 : Int32)), (.ref o)])) (fun _ kt => XS.iloadN X1.here hx rfl (hb hby d16_7) rfl kt) ?_
  refine OFin.to (T1.setTop (mkF m 9 #[.val (.ref o), .val (.int (1024 : Int32)), .unset] [(.int ((2 : Int32) * (1024 : Int32))), (.ref o)])) (fun _ kt => XS.imul X1.here hx rfl (hb hby d16_8) rfl kt) ?_
  rw [show ((2 : Int32) * (1024 : Int32)) = (2048 : Int32) from by decide]
  obtain ⟨T2, h2, X2, e2, E2, V2, st2⟩ := own_newP X1 hx hZ (hw _ (List.mem_of_getElem? (i := 56) rfl)) e1 (g := (mkF m 9 #[.val (.ref o), .val (.int (1024 : Int32)), .unset] [(.int (2048 : Int32)), (.ref o)])) rfl (hb hby d16_9) rfl (by decide) (2048) rfl (cap := 2048) (Nat.le_refl _) (by decide) (by decide) (by decide)
  obtain ⟨b2, g2⟩ : ∃ z, z = h1.size := ⟨_, rfl⟩
  rw [← g2] at V2 st2
  rw [own_rep] at V2
  have g_b2 : n0 ≤ b2 := by rw [g2]; exact Z1
  have ne_o_b2 : o ≠ b2 := by rw [g2]; exact Nat.ne_of_lt E_o_1.lt
  have sz_b2 : h0.size ≤ b2 := by rw [g2]; exact K1.1
  have E_o_2 := E_o_1.ext E2
  have F_slots_o_2 := F_slots_o_1.ext E2
  have F_buckets_o_2 := F_buckets_o_1.ext E2
  have F_cache_o_2 := F_cache_o_1.ext E2
  have F_cacheMask_o_2 := F_cacheMask_o_1.ext E2
  have F_slotCount_o_2 := F_slotCount_o_1.ext E2
  have Z2 := Nat.le_trans Z1 E2.1
  have K2 := K1.ext E2
  have Vs : OFn Z h2 b2 .long (2048) _ := V2
  refine OFin.to (T2.setTop (mkF m 11 #[.val (.ref o), .val (.int (1024 : Int32)), .unset] [(.ref b2), (.ref o)])) st2 ?_
  obtain ⟨T3, h3, X3, e3, W3, st3⟩ := putF X2 hx hZ hown (host := "") (Or.inl (hw _ (List.mem_of_getElem? (i := 176) rfl))) Via.refl e2 F_slots_o_2 E_o_2 (Or.inl (hw _ (List.mem_of_getElem? (i := 177) rfl))) (hw _ (List.mem_of_getElem? (i := 41) rfl)) (ty := (.array .long)) (by decide) rfl rfl (g := (mkF m 11 #[.val (.ref o), .val (.int (1024 : Int32)), .unset] [(.ref b2), (.ref o)])) rfl rfl (hb hby d16_11)
  have E_o_3 := E_o_2.wr W3
  have F_buckets_o_3 := F_buckets_o_2.other W3 (Or.inr (slot_ne (Or.inl (hw _ (List.mem_of_getElem? (i := 188) rfl))) (Or.inl (hw _ (List.mem_of_getElem? (i := 177) rfl))) (by decide) (t := (.array .int)) (t' := (.array .long)) (by decide) (by decide)))
  have F_cache_o_3 := F_cache_o_2.other W3 (Or.inr (slot_ne (Or.inl (hw _ (List.mem_of_getElem? (i := 198) rfl))) (Or.inl (hw _ (List.mem_of_getElem? (i := 177) rfl))) (by decide) (t := (.array .int)) (t' := (.array .long)) (by decide) (by decide)))
  have F_cacheMask_o_3 := F_cacheMask_o_2.other W3 (Or.inr (slot_ne (Or.inl (hw _ (List.mem_of_getElem? (i := 200) rfl))) (Or.inl (hw _ (List.mem_of_getElem? (i := 177) rfl))) (by decide) (t := .int) (t' := (.array .long)) (by decide) (by decide)))
  have F_slotCount_o_3 := F_slotCount_o_2.other W3 (Or.inr (slot_ne (Or.inl (hw _ (List.mem_of_getElem? (i := 218) rfl))) (Or.inl (hw _ (List.mem_of_getElem? (i := 177) rfl))) (by decide) (t := .int) (t' := (.array .long)) (by decide) (by decide)))
  have Vs_3 := Vs.other W3 (Ne.symm ne_o_b2)
  have F_slots_o_3 := F_slots_o_2.same W3
  have K3 := K2.wr W3 (Or.inl (by simp))
  have N3 := Fr.snoc X3 N1 g_o
  have Z3 := Nat.le_trans Z2 (Keep.of_wr W3).1
  refine OFin.to (T3.setTop (mkF m 14 #[.val (.ref o), .val (.int (1024 : Int32)), .unset] [])) st3 ?_
  refine OFin.to (T3.setTop (mkF m 15 #[.val (.ref o), .val (.int (1024 : Int32)), .unset] [(.ref o)])) (fun _ kt => XS.aloadN X3.here hx rfl (hb hby d16_14) rfl rfl kt) ?_
  refine OFin.to (T3.setTop (mkF m 16 #[.val (.ref o), .val (.int (1024 : Int32)), .unset] [(.int (1024 : Int32)), (.ref o)])) (fun _ kt => XS.iloadN X3.here hx rfl (hb hby d16_15) rfl kt) ?_
  refine OFin.to (T3.setTop (mkF m 17 #[.val (.ref o), .val (.int (1024 : Int32)), .unset] [(.int (1 : Int32)), (.int (1024 : Int32)), (.ref o)])) (fun _ kt => XS.iconst X3.here hx rfl (hb hby d16_16) kt) ?_
  refine OFin.to (T3.setTop (mkF m 18 #[.val (.ref o), .val (.int (1024 : Int32)), .unset] [(.int ((1024 : Int32) - (1 : Int32))), (.ref o)])) (fun _ kt => XS.isub X3.here hx rfl (hb hby d16_17) rfl kt) ?_
  obtain ⟨v4, T4, L4, hQ4, X4, st4⟩ := own_callS X3 hx hZ hown (hw _ (List.mem_of_getElem? (i := 178) rfl)) (hw _ (List.mem_of_getElem? (i := 179) rfl)) (hw _ (List.mem_of_getElem? (i := 180) rfl)) (hw _ (List.mem_of_getElem? (i := 181) rfl)) (by decide) e3 (rm17 l Z a0 hw [] ((1024 : Int32) - (1 : Int32)) h3) 1 (by decide) (by decide) (by decide) (by decide) (g := (mkF m 18 #[.val (.ref o), .val (.int (1024 : Int32)), .unset] [(.int ((1024 : Int32) - (1 : Int32))), (.ref o)])) rfl (by rw [hml]; rfl) (rest := [(.ref o)]) (lenOf pd_0 rfl) rfl (by show 2 * 0 + _ ≤ _; exact Nat.le_of_eq rfl) (hb hby d16_18)
  obtain ⟨rfl, e4, rfl⟩ := hQ4
  rw [List.append_nil] at X4
  refine OFin.to (T4.setTop (mkF m 21 #[.val (.ref o), .val (.int (1024 : Int32)), .unset] [(.int (f17_0 ((1024 : Int32) - (1 : Int32)))), (.ref o)])) st4 ?_
  rw [show (f17_0 ((1024 : Int32) - (1 : Int32))) = (512 : Int32) from by decide +kernel]
  refine OFin.to (T4.setTop (mkF m 22 #[.val (.ref o), .val (.int (1024 : Int32)), .unset] [(.int (1 : Int32)), (.int (512 : Int32)), (.ref o)])) (fun _ kt => XS.iconst X4.here hx rfl (hb hby d16_21) kt) ?_
  refine OFin.to (T4.setTop (mkF m 23 #[.val (.ref o), .val (.int (1024 : Int32)), .unset] [(.int ((512 : Int32) <<< ((1 : Int32) &&& 31))), (.ref o)])) (fun _ kt => XS.ishl X4.here hx rfl (hb hby d16_22) rfl kt) ?_
  rw [show ((512 : Int32) <<< ((1 : Int32) &&& 31)) = (1024 : Int32) from by decide]
  obtain ⟨T5, h5, X5, e5, E5, V5, st5⟩ := own_newP X4 hx hZ (hw _ (List.mem_of_getElem? (i := 59) rfl)) e4 (g := (mkF m 23 #[.val (.ref o), .val (.int (1024 : Int32)), .unset] [(.int (1024 : Int32)), (.ref o)])) rfl (hb hby d16_23) rfl (by decide) (1024) rfl (cap := 1024) (Nat.le_refl _) (by decide) (by decide) (by decide)
  obtain ⟨b5, g5⟩ : ∃ z, z = h3.size := ⟨_, rfl⟩
  rw [← g5] at V5 st5
  rw [own_rep] at V5
  have g_b5 : n0 ≤ b5 := by rw [g5]; exact Z3
  have ne_b2_b5 : b2 ≠ b5 := by rw [g5]; exact Nat.ne_of_lt Vs_3.lt
  have ne_o_b5 : o ≠ b5 := by rw [g5]; exact Nat.ne_of_lt E_o_3.lt
  have sz_b5 : h0.size ≤ b5 := by rw [g5]; exact K3.1
  have E_o_5 := E_o_3.ext E5
  have F_slots_o_5 := F_slots_o_3.ext E5
  have F_buckets_o_5 := F_buckets_o_3.ext E5
  have F_cache_o_5 := F_cache_o_3.ext E5
  have F_cacheMask_o_5 := F_cacheMask_o_3.ext E5
  have F_slotCount_o_5 := F_slotCount_o_3.ext E5
  have Vs_5 := Vs_3.ext E5
  have Z5 := Nat.le_trans Z3 E5.1
  have K5 := K3.ext E5
  have Vb : OFn Z h5 b5 .int (1024) _ := V5
  refine OFin.to (T5.setTop (mkF m 25 #[.val (.ref o), .val (.int (1024 : Int32)), .unset] [(.ref b5), (.ref o)])) st5 ?_
  obtain ⟨T6, h6, X6, e6, W6, st6⟩ := putF X5 hx hZ hown (host := "") (Or.inl (hw _ (List.mem_of_getElem? (i := 187) rfl))) Via.refl e5 F_buckets_o_5 E_o_5 (Or.inl (hw _ (List.mem_of_getElem? (i := 188) rfl))) (hw _ (List.mem_of_getElem? (i := 41) rfl)) (ty := (.array .int)) (by decide) rfl rfl (g := (mkF m 25 #[.val (.ref o), .val (.int (1024 : Int32)), .unset] [(.ref b5), (.ref o)])) rfl rfl (hb hby d16_25)
  have E_o_6 := E_o_5.wr W6
  have F_slots_o_6 := F_slots_o_5.other W6 (Or.inr (slot_ne (Or.inl (hw _ (List.mem_of_getElem? (i := 177) rfl))) (Or.inl (hw _ (List.mem_of_getElem? (i := 188) rfl))) (by decide) (t := (.array .long)) (t' := (.array .int)) (by decide) (by decide)))
  have F_cache_o_6 := F_cache_o_5.other W6 (Or.inr (slot_ne (Or.inl (hw _ (List.mem_of_getElem? (i := 198) rfl))) (Or.inl (hw _ (List.mem_of_getElem? (i := 188) rfl))) (by decide) (t := (.array .int)) (t' := (.array .int)) (by decide) (by decide)))
  have F_cacheMask_o_6 := F_cacheMask_o_5.other W6 (Or.inr (slot_ne (Or.inl (hw _ (List.mem_of_getElem? (i := 200) rfl))) (Or.inl (hw _ (List.mem_of_getElem? (i := 188) rfl))) (by decide) (t := .int) (t' := (.array .int)) (by decide) (by decide)))
  have F_slotCount_o_6 := F_slotCount_o_5.other W6 (Or.inr (slot_ne (Or.inl (hw _ (List.mem_of_getElem? (i := 218) rfl))) (Or.inl (hw _ (List.mem_of_getElem? (i := 188) rfl))) (by decide) (t := .int) (t' := (.array .int)) (by decide) (by decide)))
  have Vs_6 := Vs_5.other W6 (Ne.symm ne_o_b2)
  have Vb_6 := Vb.other W6 (Ne.symm ne_o_b5)
  have F_buckets_o_6 := F_buckets_o_5.same W6
  have K6 := K5.wr W6 (Or.inl (by simp))
  have N6 := Fr.snoc X6 N3 g_o
  have Z6 := Nat.le_trans Z5 (Keep.of_wr W6).1
  refine OFin.to (T6.setTop (mkF m 28 #[.val (.ref o), .val (.int (1024 : Int32)), .unset] [])) st6 ?_
  refine OFin.to (T6.setTop (mkF m 29 #[.val (.ref o), .val (.int (1024 : Int32)), .unset] [(.ref o)])) (fun _ kt => XS.aloadN X6.here hx rfl (hb hby d16_28) rfl rfl kt) ?_
  obtain ⟨T7, X7, e7, st7⟩ := getF X6 hx hZ hown (host := "") (Or.inl (hw _ (List.mem_of_getElem? (i := 187) rfl))) Via.refl e6 F_buckets_o_6 (g := (mkF m 29 #[.val (.ref o), .val (.int (1024 : Int32)), .unset] [(.ref o)])) rfl rfl (hb hby d16_29)
  refine OFin.to (T7.setTop (mkF m 32 #[.val (.ref o), .val (.int (1024 : Int32)), .unset] [(.ref b5)])) st7 ?_
  refine OFin.to (T7.setTop (mkF m 33 #[.val (.ref o), .val (.int (1024 : Int32)), .unset] [(.int (-1 : Int32)), (.ref b5)])) (fun _ kt => XS.iconst X7.here hx rfl (hb hby d16_32) kt) ?_
  obtain ⟨v8, T8, L8, hQ8, X8, st8⟩ := own_callS X7 hx hZ hown (hw _ (List.mem_of_getElem? (i := 189) rfl)) (hw _ (List.mem_of_getElem? (i := 190) rfl)) (hw _ (List.mem_of_getElem? (i := 191) rfl)) (hw _ (List.mem_of_getElem? (i := 192) rfl)) (by decide) e7 (rm19 l Z a0 hw [] b5 (-1 : Int32) h6 n0 Z6 1024 (by decide) _ g_b5 Vb_6) 0 (by decide) (by decide) (by decide) (by decide) (g := (mkF m 33 #[.val (.ref o), .val (.int (1024 : Int32)), .unset] [(.int (-1 : Int32)), (.ref b5)])) rfl (by rw [hml]; rfl) (rest := []) (lenOf pd_6 rfl) rfl (by show 2 * 0 + _ ≤ _; exact Nat.le_of_eq rfl) (hb hby d16_33)
  obtain ⟨rfl, Kq8, Nq8, gq8, Vq8⟩ := hQ8
  refine OFin.to (T8.setTop (mkF m 36 #[.val (.ref o), .val (.int (1024 : Int32)), .unset] [])) st8 ?_
  have N8 := Fr.app N6 Nq8
  have Z8 := Nat.le_trans Z6 Kq8.1
  have E_o_8 := E_o_6.keep Kq8
  have F_slots_o_8 := F_slots_o_6.keep Kq8 (ninS ne_o_b5 nin0)
  have F_buckets_o_8 := F_buckets_o_6.keep Kq8 (ninS ne_o_b5 nin0)
  have F_cache_o_8 := F_cache_o_6.keep Kq8 (ninS ne_o_b5 nin0)
  have F_cacheMask_o_8 := F_cacheMask_o_6.keep Kq8 (ninS ne_o_b5 nin0)
  have F_slotCount_o_8 := F_slotCount_o_6.keep Kq8 (ninS ne_o_b5 nin0)
  have Vs_8 := Vs_6.keep Kq8 (ninS ne_b2_b5 nin0)
  have KK8 := K6.trans Kq8 (fun x hx' => by cases List.mem_singleton.mp hx'; exact Or.inr sz_b5)
  have Vb' := Vq8
  refine OFin.to (T8.setTop (mkF m 37 #[.val (.ref o), .val (.int (1024 : Int32)), .unset] [(.ref o)])) (fun _ kt => XS.aloadN X8.here hx rfl (hb hby d16_36) rfl rfl kt) ?_
  obtain ⟨T9, X9, e9, st9⟩ := getF X8 hx hZ hown (host := "") (Or.inl (hw _ (List.mem_of_getElem? (i := 187) rfl))) Via.refl rfl F_buckets_o_8 (g := (mkF m 37 #[.val (.ref o), .val (.int (1024 : Int32)), .unset] [(.ref o)])) rfl rfl (hb hby d16_37)
  refine OFin.to (T9.setTop (mkF m 40 #[.val (.ref o), .val (.int (1024 : Int32)), .unset] [(.ref b5)])) st9 ?_
  refine OFin.to (T9.setTop (mkF m 41 #[.val (.ref o), .val (.int (1024 : Int32)), .unset] [(.int (Int32.ofNat 1024))])) (fun _ kt => own_len X9 hx hZ e9 Vb' (n := Int32.ofNat 1024) (by rw [own_rlen]) (g := (mkF m 40 #[.val (.ref o), .val (.int (1024 : Int32)), .unset] [(.ref b5)])) rfl rfl (hb hby d16_40) _ kt) ?_
  refine OFin.to (T9.setTop (mkF m 44 #[.val (.ref o), .val (.int (1024 : Int32)), .unset] [(.int (2097152 : Int32)), (.int (Int32.ofNat 1024))])) (fun _ kt => X9.ldcWI hx hown (mvT hZ (hw _ (List.mem_of_getElem? (i := 193) rfl))) (g := (mkF m 41 #[.val (.ref o), .val (.int (1024 : Int32)), .unset] [(.int (Int32.ofNat 1024))])) rfl (hb hby d16_41) kt) ?_
  obtain ⟨v10, T10, L10, hQ10, X10, st10⟩ := own_callS X9 hx hZ hown (hw _ (List.mem_of_getElem? (i := 194) rfl)) (hw _ (List.mem_of_getElem? (i := 195) rfl)) (hw _ (List.mem_of_getElem? (i := 3) rfl)) (hw _ (List.mem_of_getElem? (i := 196) rfl)) (by decide) e9 (rm20 l Z a0 hw [] (Int32.ofNat 1024) (2097152 : Int32) T8.heap) 0 (by decide) (by decide) (by decide) (by decide) (g := (mkF m 44 #[.val (.ref o), .val (.int (1024 : Int32)), .unset] [(.int (2097152 : Int32)), (.int (Int32.ofNat 1024))])) rfl (by rw [hml]; rfl) (rest := []) (lenOf pd_2 rfl) rfl (by show 2 * 0 + _ ≤ _; exact Nat.le_of_eq rfl) (hb hby d16_44)
  obtain ⟨rfl, e10, rfl⟩ := hQ10
  rw [List.append_nil] at X10
  refine OFin.to (T10.setTop (mkF m 47 #[.val (.ref o), .val (.int (1024 : Int32)), .unset] [(.int (f20_0 (Int32.ofNat 1024) (2097152 : Int32)))])) st10 ?_
  rw [show (f20_0 (Int32.ofNat 1024) (2097152 : Int32)) = (1024 : Int32) from by decide +kernel]
  refine OFin.to (T10.setTop (mkF m 48 #[.val (.ref o), .val (.int (1024 : Int32)), .val (.int (1024 : Int32))] [])) (fun _ kt => XS.istoreN X10.here hx rfl (hb hby d16_47) rfl (l' := #[.val (.ref o), .val (.int (1024 : Int32)), .val (.int (1024 : Int32))]) rfl kt) ?_
  refine OFin.to (T10.setTop (mkF m 49 #[.val (.ref o), .val (.int (1024 : Int32)), .val (.int (1024 : Int32))] [(.ref o)])) (fun _ kt => XS.aloadN X10.here hx rfl (hb hby d16_48) rfl rfl kt) ?_
  obtain ⟨T11, X11, e11, st11⟩ := getF X10 hx hZ hown (host := "") (Or.inl (hw _ (List.mem_of_getElem? (i := 197) rfl))) Via.refl e10 F_cache_o_8 (g := (mkF m 49 #[.val (.ref o), .val (.int (1024 : Int32)), .val (.int (1024 : Int32))] [(.ref o)])) rfl rfl (hb hby d16_49)
  refine OFin.to (T11.setTop (mkF m 52 #[.val (.ref o), .val (.int (1024 : Int32)), .val (.int (1024 : Int32))] [.null])) st11 ?_
  refine OFin.to (T11.setTop (mkF m 65 #[.val (.ref o), .val (.int (1024 : Int32)), .val (.int (1024 : Int32))] [])) (fun _ kt => XS.ifnullYes X11.here hx rfl (pc0 := 52) (pc' := 65) rfl (hb hby d16_52) rfl (by decide) (by decide) kt) ?_
  refine OFin.to (T11.setTop (mkF m 66 #[.val (.ref o), .val (.int (1024 : Int32)), .val (.int (1024 : Int32))] [(.ref o)])) (fun _ kt => XS.aloadN X11.here hx rfl (hb hby d16_65) rfl rfl kt) ?_
  refine OFin.to (T11.setTop (mkF m 67 #[.val (.ref o), .val (.int (1024 : Int32)), .val (.int (1024 : Int32))] [(.int (4 : Int32)), (.ref o)])) (fun _ kt => XS.iconst X11.here hx rfl (hb hby d16_66) kt) ?_
  refine OFin.to (T11.setTop (mkF m 68 #[.val (.ref o), .val (.int (1024 : Int32)), .val (.int (1024 : Int32))] [(.int (1024 : Int32)), (.int (4 : Int32)), (.ref o)])) (fun _ kt => XS.iloadN X11.here hx rfl (hb hby d16_67) rfl kt) ?_
  refine OFin.to (T11.setTop (mkF m 69 #[.val (.ref o), .val (.int (1024 : Int32)), .val (.int (1024 : Int32))] [(.int ((4 : Int32) * (1024 : Int32))), (.ref o)])) (fun _ kt => XS.imul X11.here hx rfl (hb hby d16_68) rfl kt) ?_
  rw [show ((4 : Int32) * (1024 : Int32)) = (4096 : Int32) from by decide]
  obtain ⟨T12, h12, X12, e12, E12, V12, st12⟩ := own_newP X11 hx hZ (hw _ (List.mem_of_getElem? (i := 59) rfl)) e11 (g := (mkF m 69 #[.val (.ref o), .val (.int (1024 : Int32)), .val (.int (1024 : Int32))] [(.int (4096 : Int32)), (.ref o)])) rfl (hb hby d16_69) rfl (by decide) (4096) rfl (cap := 4096) (Nat.le_refl _) (by decide) (by decide) (by decide)
  obtain ⟨b12, g12⟩ : ∃ z, z = T8.heap.size := ⟨_, rfl⟩
  rw [← g12] at V12 st12
  rw [own_rep] at V12
  have g_b12 : n0 ≤ b12 := by rw [g12]; exact Z8
  have ne_b2_b12 : b2 ≠ b12 := by rw [g12]; exact Nat.ne_of_lt Vs_8.lt
  have ne_o_b12 : o ≠ b12 := by rw [g12]; exact Nat.ne_of_lt E_o_8.lt
  have sz_b12 : h0.size ≤ b12 := by rw [g12]; exact KK8.1
  have E_o_12 := E_o_8.ext E12
  have F_slots_o_12 := F_slots_o_8.ext E12
  have F_buckets_o_12 := F_buckets_o_8.ext E12
  have F_cache_o_12 := F_cache_o_8.ext E12
  have F_cacheMask_o_12 := F_cacheMask_o_8.ext E12
  have F_slotCount_o_12 := F_slotCount_o_8.ext E12
  have Vs_12 := Vs_8.ext E12
  have Z12 := Nat.le_trans Z8 E12.1
  have K12 := KK8.ext E12
  have Vc : OFn Z h12 b12 .int (4096) _ := V12
  refine OFin.to (T12.setTop (mkF m 71 #[.val (.ref o), .val (.int (1024 : Int32)), .val (.int (1024 : Int32))] [(.ref b12), (.ref o)])) st12 ?_
  obtain ⟨T13, h13, X13, e13, W13, st13⟩ := putF X12 hx hZ hown (host := "") (Or.inl (hw _ (List.mem_of_getElem? (i := 197) rfl))) Via.refl e12 F_cache_o_12 E_o_12 (Or.inl (hw _ (List.mem_of_getElem? (i := 198) rfl))) (hw _ (List.mem_of_getElem? (i := 41) rfl)) (ty := (.array .int)) (by decide) rfl rfl (g := (mkF m 71 #[.val (.ref o), .val (.int (1024 : Int32)), .val (.int (1024 : Int32))] [(.ref b12), (.ref o)])) rfl rfl (hb hby d16_71)
  have E_o_13 := E_o_12.wr W13
  have F_slots_o_13 := F_slots_o_12.other W13 (Or.inr (slot_ne (Or.inl (hw _ (List.mem_of_getElem? (i := 177) rfl))) (Or.inl (hw _ (List.mem_of_getElem? (i := 198) rfl))) (by decide) (t := (.array .long)) (t' := (.array .int)) (by decide) (by decide)))
  have F_buckets_o_13 := F_buckets_o_12.other W13 (Or.inr (slot_ne (Or.inl (hw _ (List.mem_of_getElem? (i := 188) rfl))) (Or.inl (hw _ (List.mem_of_getElem? (i := 198) rfl))) (by decide) (t := (.array .int)) (t' := (.array .int)) (by decide) (by decide)))
  have F_cacheMask_o_13 := F_cacheMask_o_12.other W13 (Or.inr (slot_ne (Or.inl (hw _ (List.mem_of_getElem? (i := 200) rfl))) (Or.inl (hw _ (List.mem_of_getElem? (i := 198) rfl))) (by decide) (t := .int) (t' := (.array .int)) (by decide) (by decide)))
  have F_slotCount_o_13 := F_slotCount_o_12.other W13 (Or.inr (slot_ne (Or.inl (hw _ (List.mem_of_getElem? (i := 218) rfl))) (Or.inl (hw _ (List.mem_of_getElem? (i := 198) rfl))) (by decide) (t := .int) (t' := (.array .int)) (by decide) (by decide)))
  have Vs_13 := Vs_12.other W13 (Ne.symm ne_o_b2)
  have Vc_13 := Vc.other W13 (Ne.symm ne_o_b12)
  have F_cache_o_13 := F_cache_o_12.same W13
  have K13 := K12.wr W13 (Or.inl (by simp))
  have N13 := Fr.snoc X13 N8 g_o
  have Z13 := Nat.le_trans Z12 (Keep.of_wr W13).1
  refine OFin.to (T13.setTop (mkF m 74 #[.val (.ref o), .val (.int (1024 : Int32)), .val (.int (1024 : Int32))] [])) st13 ?_
  refine OFin.to (T13.setTop (mkF m 75 #[.val (.ref o), .val (.int (1024 : Int32)), .val (.int (1024 : Int32))] [(.ref o)])) (fun _ kt => XS.aloadN X13.here hx rfl (hb hby d16_74) rfl rfl kt) ?_
  refine OFin.to (T13.setTop (mkF m 76 #[.val (.ref o), .val (.int (1024 : Int32)), .val (.int (1024 : Int32))] [(.int (1024 : Int32)), (.ref o)])) (fun _ kt => XS.iloadN X13.here hx rfl (hb hby d16_75) rfl kt) ?_
  refine OFin.to (T13.setTop (mkF m 77 #[.val (.ref o), .val (.int (1024 : Int32)), .val (.int (1024 : Int32))] [(.int (1 : Int32)), (.int (1024 : Int32)), (.ref o)])) (fun _ kt => XS.iconst X13.here hx rfl (hb hby d16_76) kt) ?_
  refine OFin.to (T13.setTop (mkF m 78 #[.val (.ref o), .val (.int (1024 : Int32)), .val (.int (1024 : Int32))] [(.int ((1024 : Int32) - (1 : Int32))), (.ref o)])) (fun _ kt => XS.isub X13.here hx rfl (hb hby d16_77) rfl kt) ?_
  obtain ⟨T14, h14, X14, e14, W14, st14⟩ := putF X13 hx hZ hown (host := "") (Or.inl (hw _ (List.mem_of_getElem? (i := 199) rfl))) Via.refl e13 F_cacheMask_o_13 E_o_13 (Or.inl (hw _ (List.mem_of_getElem? (i := 200) rfl))) (hw _ (List.mem_of_getElem? (i := 41) rfl)) (ty := .int) (by decide) rfl rfl (g := (mkF m 78 #[.val (.ref o), .val (.int (1024 : Int32)), .val (.int (1024 : Int32))] [(.int ((1024 : Int32) - (1 : Int32))), (.ref o)])) rfl rfl (hb hby d16_78)
  have E_o_14 := E_o_13.wr W14
  have F_slots_o_14 := F_slots_o_13.other W14 (Or.inr (slot_ne (Or.inl (hw _ (List.mem_of_getElem? (i := 177) rfl))) (Or.inl (hw _ (List.mem_of_getElem? (i := 200) rfl))) (by decide) (t := (.array .long)) (t' := .int) (by decide) (by decide)))
  have F_cache_o_14 := F_cache_o_13.other W14 (Or.inr (slot_ne (Or.inl (hw _ (List.mem_of_getElem? (i := 198) rfl))) (Or.inl (hw _ (List.mem_of_getElem? (i := 200) rfl))) (by decide) (t := (.array .int)) (t' := .int) (by decide) (by decide)))
  have F_slotCount_o_14 := F_slotCount_o_13.other W14 (Or.inr (slot_ne (Or.inl (hw _ (List.mem_of_getElem? (i := 218) rfl))) (Or.inl (hw _ (List.mem_of_getElem? (i := 200) rfl))) (by decide) (t := .int) (t' := .int) (by decide) (by decide)))
  have Vs_14 := Vs_13.other W14 (Ne.symm ne_o_b2)
  have Vc_14 := Vc_13.other W14 (Ne.symm ne_o_b12)
  have F_cacheMask_o_14 := F_cacheMask_o_13.same W14
  have K14 := K13.wr W14 (Or.inl (by simp))
  have N14 := Fr.snoc X14 N13 g_o
  have Z14 := Nat.le_trans Z13 (Keep.of_wr W14).1
  refine OFin.to (T14.setTop (mkF m 81 #[.val (.ref o), .val (.int (1024 : Int32)), .val (.int (1024 : Int32))] [])) st14 ?_
  refine OFin.to (T14.setTop (mkF m 82 #[.val (.ref o), .val (.int (1024 : Int32)), .val (.int (1024 : Int32))] [(.ref o)])) (fun _ kt => XS.aloadN X14.here hx rfl (hb hby d16_81) rfl rfl kt) ?_
  obtain ⟨v15, T15, L15, hQ15, X15, st15⟩ := own_callP X14 hx hZ hown (hw _ (List.mem_of_getElem? (i := 201) rfl)) (own_selI hZ (hw _ (List.mem_of_getElem? (i := 41) rfl)) (hw _ (List.mem_of_getElem? (i := 203) rfl)) (hw _ (List.mem_of_getElem? (i := 202) rfl)) (by decide)) (hw _ (List.mem_of_getElem? (i := 203) rfl)) (hw _ (List.mem_of_getElem? (i := 202) rfl)) (hw _ (List.mem_of_getElem? (i := 204) rfl)) (hw _ (List.mem_of_getElem? (i := 42) rfl)) (by decide) e14 E_o_14 (rm21 l Z a0 hw [] o h14 n0 Z14 b12 g_b12 (Ne.symm ne_o_b12) _ F_cache_o_14 Vc_14) 0 (by decide) (by decide) (by decide) (by decide) (g := (mkF m 82 #[.val (.ref o), .val (.int (1024 : Int32)), .val (.int (1024 : Int32))] [(.ref o)])) rfl (by rw [hml]; rfl) (rest := []) (lenOf pd_1 rfl) rfl (by show 2 * 0 + _ ≤ _; exact Nat.le_of_eq rfl) (hb hby d16_82)
  obtain ⟨rfl, Kq15, Nq15⟩ := hQ15
  refine OFin.to (T15.setTop (mkF m 85 #[.val (.ref o), .val (.int (1024 : Int32)), .val (.int (1024 : Int32))] [])) st15 ?_
  have N15 := Fr.app N14 Nq15
  have Z15 := Nat.le_trans Z14 Kq15.1
  have E_o_15 := E_o_14.keep Kq15
  have F_slots_o_15 := F_slots_o_14.keep Kq15 (ninS ne_o_b12 nin0)
  have F_cache_o_15 := F_cache_o_14.keep Kq15 (ninS ne_o_b12 nin0)
  have F_slotCount_o_15 := F_slotCount_o_14.keep Kq15 (ninS ne_o_b12 nin0)
  have Vs_15 := Vs_14.keep Kq15 (ninS ne_b2_b12 nin0)
  have KK15 := K14.trans Kq15 (fun x hx' => by cases List.mem_singleton.mp hx'; exact Or.inr sz_b12)
  exact OFin.retV X15 hx hret hlk (hb hby d16_85) (by decide) (by decide) ⟨rfl, KK15, N15, F_slotCount_o_15, b2, _, sz_b2, g_b2, F_slots_o_15, Vs_15⟩
theorem d6_0 : decode prog_18_method_1_code 0 = .ok (.aload_n 0, 1) := by decide +kernel
theorem d6_1 : decode prog_18_method_1_code 1 = .ok (.invokespecial 5, 3) := by decide +kernel
theorem d6_4 : decode prog_18_method_1_code 4 = .ok (.aload_n 0, 1) := by decide +kernel
theorem d6_5 : decode prog_18_method_1_code 5 = .ok (.iconst (-1), 1) := by decide +kernel
theorem d6_6 : decode prog_18_method_1_code 6 = .ok (.putfield 11, 3) := by decide +kernel
theorem d6_9 : decode prog_18_method_1_code 9 = .ok (.aload_n 0, 1) := by decide +kernel
theorem d6_10 : decode prog_18_method_1_code 10 = .ok (.new 15, 3) := by decide +kernel
theorem d6_13 : decode prog_18_method_1_code 13 = .ok (.dup, 1) := by decide +kernel
theorem d6_14 : decode prog_18_method_1_code 14 = .ok (.aload_n 0, 1) := by decide +kernel
theorem d6_15 : decode prog_18_method_1_code 15 = .ok (.invokespecial 17, 3) := by decide +kernel
theorem d6_18 : decode prog_18_method_1_code 18 = .ok (.putfield 20, 3) := by decide +kernel
theorem d6_21 : decode prog_18_method_1_code 21 = .ok (.aload_n 0, 1) := by decide +kernel
theorem d6_22 : decode prog_18_method_1_code 22 = .ok (.new 24, 3) := by decide +kernel
theorem d6_25 : decode prog_18_method_1_code 25 = .ok (.dup, 1) := by decide +kernel
theorem d6_26 : decode prog_18_method_1_code 26 = .ok (.invokespecial 26, 3) := by decide +kernel
theorem d6_29 : decode prog_18_method_1_code 29 = .ok (.putfield 27, 3) := by decide +kernel
theorem d6_32 : decode prog_18_method_1_code 32 = .ok (.aload_n 0, 1) := by decide +kernel
theorem d6_33 : decode prog_18_method_1_code 33 = .ok (.new 1, 3) := by decide +kernel
theorem d6_36 : decode prog_18_method_1_code 36 = .ok (.dup, 1) := by decide +kernel
theorem d6_37 : decode prog_18_method_1_code 37 = .ok (.invokespecial 31, 3) := by decide +kernel
theorem d6_40 : decode prog_18_method_1_code 40 = .ok (.putfield 32, 3) := by decide +kernel
theorem d6_43 : decode prog_18_method_1_code 43 = .ok (.aload_n 0, 1) := by decide +kernel
theorem d6_44 : decode prog_18_method_1_code 44 = .ok (.new 24, 3) := by decide +kernel
theorem d6_47 : decode prog_18_method_1_code 47 = .ok (.dup, 1) := by decide +kernel
theorem d6_48 : decode prog_18_method_1_code 48 = .ok (.invokespecial 26, 3) := by decide +kernel
theorem d6_51 : decode prog_18_method_1_code 51 = .ok (.putfield 36, 3) := by decide +kernel
theorem d6_54 : decode prog_18_method_1_code 54 = .ok (.aload_n 0, 1) := by decide +kernel
theorem d6_55 : decode prog_18_method_1_code 55 = .ok (.bipush 64, 2) := by decide +kernel
theorem d6_57 : decode prog_18_method_1_code 57 = .ok (.newarray .int, 2) := by decide +kernel
theorem d6_59 : decode prog_18_method_1_code 59 = .ok (.putfield 39, 3) := by decide +kernel
theorem d6_62 : decode prog_18_method_1_code 62 = .ok (.aload_n 0, 1) := by decide +kernel
theorem d6_63 : decode prog_18_method_1_code 63 = .ok (.bipush 64, 2) := by decide +kernel
theorem d6_65 : decode prog_18_method_1_code 65 = .ok (.newarray .int, 2) := by decide +kernel
theorem d6_67 : decode prog_18_method_1_code 67 = .ok (.putfield 43, 3) := by decide +kernel
theorem d6_70 : decode prog_18_method_1_code 70 = .ok (.aload_n 0, 1) := by decide +kernel
theorem d6_71 : decode prog_18_method_1_code 71 = .ok (.bipush 64, 2) := by decide +kernel
theorem d6_73 : decode prog_18_method_1_code 73 = .ok (.newarray .int, 2) := by decide +kernel
theorem d6_75 : decode prog_18_method_1_code 75 = .ok (.putfield 46, 3) := by decide +kernel
theorem d6_78 : decode prog_18_method_1_code 78 = .ok (.aload_n 0, 1) := by decide +kernel
theorem d6_79 : decode prog_18_method_1_code 79 = .ok (.bipush 64, 2) := by decide +kernel
theorem d6_81 : decode prog_18_method_1_code 81 = .ok (.newarray .int, 2) := by decide +kernel
theorem d6_83 : decode prog_18_method_1_code 83 = .ok (.putfield 49, 3) := by decide +kernel
theorem d6_86 : decode prog_18_method_1_code 86 = .ok (.aload_n 0, 1) := by decide +kernel
theorem d6_87 : decode prog_18_method_1_code 87 = .ok (.bipush 64, 2) := by decide +kernel
theorem d6_89 : decode prog_18_method_1_code 89 = .ok (.newarray .int, 2) := by decide +kernel
theorem d6_91 : decode prog_18_method_1_code 91 = .ok (.putfield 52, 3) := by decide +kernel
theorem d6_94 : decode prog_18_method_1_code 94 = .ok (.aload_n 0, 1) := by decide +kernel
theorem d6_95 : decode prog_18_method_1_code 95 = .ok (.bipush 64, 2) := by decide +kernel
theorem d6_97 : decode prog_18_method_1_code 97 = .ok (.newarray .int, 2) := by decide +kernel
theorem d6_99 : decode prog_18_method_1_code 99 = .ok (.putfield 55, 3) := by decide +kernel
theorem d6_102 : decode prog_18_method_1_code 102 = .ok (.aload_n 0, 1) := by decide +kernel
theorem d6_103 : decode prog_18_method_1_code 103 = .ok (.new 1, 3) := by decide +kernel
theorem d6_106 : decode prog_18_method_1_code 106 = .ok (.dup, 1) := by decide +kernel
theorem d6_107 : decode prog_18_method_1_code 107 = .ok (.invokespecial 31, 3) := by decide +kernel
theorem d6_110 : decode prog_18_method_1_code 110 = .ok (.putfield 58, 3) := by decide +kernel
theorem d6_113 : decode prog_18_method_1_code 113 = .ok (.aload_n 0, 1) := by decide +kernel
theorem d6_114 : decode prog_18_method_1_code 114 = .ok (.new 1, 3) := by decide +kernel
theorem d6_117 : decode prog_18_method_1_code 117 = .ok (.dup, 1) := by decide +kernel
theorem d6_118 : decode prog_18_method_1_code 118 = .ok (.invokespecial 31, 3) := by decide +kernel
theorem d6_121 : decode prog_18_method_1_code 121 = .ok (.putfield 61, 3) := by decide +kernel
theorem d6_124 : decode prog_18_method_1_code 124 = .ok (.aload_n 0, 1) := by decide +kernel
theorem d6_125 : decode prog_18_method_1_code 125 = .ok (.new 1, 3) := by decide +kernel
theorem d6_128 : decode prog_18_method_1_code 128 = .ok (.dup, 1) := by decide +kernel
theorem d6_129 : decode prog_18_method_1_code 129 = .ok (.invokespecial 31, 3) := by decide +kernel
theorem d6_132 : decode prog_18_method_1_code 132 = .ok (.putfield 64, 3) := by decide +kernel
theorem d6_135 : decode prog_18_method_1_code 135 = .ok (.aload_n 0, 1) := by decide +kernel
theorem d6_136 : decode prog_18_method_1_code 136 = .ok (.new 67, 3) := by decide +kernel
theorem d6_139 : decode prog_18_method_1_code 139 = .ok (.dup, 1) := by decide +kernel
theorem d6_140 : decode prog_18_method_1_code 140 = .ok (.invokespecial 69, 3) := by decide +kernel
theorem d6_143 : decode prog_18_method_1_code 143 = .ok (.putfield 70, 3) := by decide +kernel
theorem d6_146 : decode prog_18_method_1_code 146 = .ok (.iload_n 1, 1) := by decide +kernel
theorem d6_147 : decode prog_18_method_1_code 147 = .ok (.ifCond .lt 7, 3) := by decide +kernel
theorem d6_150 : decode prog_18_method_1_code 150 = .ok (.iload_n 2, 1) := by decide +kernel
theorem d6_151 : decode prog_18_method_1_code 151 = .ok (.ifCond .ge 18, 3) := by decide +kernel
theorem d6_169 : decode prog_18_method_1_code 169 = .ok (.aload_n 0, 1) := by decide +kernel
theorem d6_170 : decode prog_18_method_1_code 170 = .ok (.iload_n 1, 1) := by decide +kernel
theorem d6_171 : decode prog_18_method_1_code 171 = .ok (.putfield 83, 3) := by decide +kernel
theorem d6_174 : decode prog_18_method_1_code 174 = .ok (.aload_n 0, 1) := by decide +kernel
theorem d6_175 : decode prog_18_method_1_code 175 = .ok (.iload_n 2, 1) := by decide +kernel
theorem d6_176 : decode prog_18_method_1_code 176 = .ok (.putfield 86, 3) := by decide +kernel
theorem d6_179 : decode prog_18_method_1_code 179 = .ok (.aload_n 0, 1) := by decide +kernel
theorem d6_180 : decode prog_18_method_1_code 180 = .ok (.iload_n 2, 1) := by decide +kernel
theorem d6_181 : decode prog_18_method_1_code 181 = .ok (.putfield 89, 3) := by decide +kernel
theorem d6_184 : decode prog_18_method_1_code 184 = .ok (.aload_n 0, 1) := by decide +kernel
theorem d6_185 : decode prog_18_method_1_code 185 = .ok (.sipush 1024, 3) := by decide +kernel
theorem d6_188 : decode prog_18_method_1_code 188 = .ok (.invokevirtual 92, 3) := by decide +kernel
theorem d6_191 : decode prog_18_method_1_code 191 = .ok (.aload_n 0, 1) := by decide +kernel
theorem d6_192 : decode prog_18_method_1_code 192 = .ok (.iconst 0, 1) := by decide +kernel
theorem d6_193 : decode prog_18_method_1_code 193 = .ok (.iload_n 1, 1) := by decide +kernel
theorem d6_194 : decode prog_18_method_1_code 194 = .ok (.iconst 0, 1) := by decide +kernel
theorem d6_195 : decode prog_18_method_1_code 195 = .ok (.iconst 0, 1) := by decide +kernel
theorem d6_196 : decode prog_18_method_1_code 196 = .ok (.invokevirtual 96, 3) := by decide +kernel
theorem d6_199 : decode prog_18_method_1_code 199 = .ok (.aload_n 0, 1) := by decide +kernel
theorem d6_200 : decode prog_18_method_1_code 200 = .ok (.iconst 1, 1) := by decide +kernel
theorem d6_201 : decode prog_18_method_1_code 201 = .ok (.putfield 100, 3) := by decide +kernel
theorem d6_204 : decode prog_18_method_1_code 204 = .ok (.return_, 1) := by decide +kernel
theorem pn_6 : plainName "com/example/fixpoint_checker/fixpointchecker/bdd/DecisionDiagrams" = true := by first | (simp [plainName, overriddenIn]; done) | decide +kernel
theorem ef_6 (m : MethodId) (a0 : Addr) (p1 : Int32) (p2 : Int32) : entryFrame m #[(.ref a0), (.int p1), (.int p2)] 3 = mkF m 0 #[.val (.ref a0), .val (.int p1), .val (.int p2)] [] := by first | (simp [entryFrame, mkF, argsToLocals, Value.category]; done) | rfl
set_option maxRecDepth 65536 in
set_option maxHeartbeats 40000000 in
theorem rm6 (l : Launch) (Z : State) (a0 : Array Value) (hw : ∀ d ∈ tables_1, d.before a0 Z = true) (ws : List Jvm.Cond) (o : Addr) (lv : Int32) (h0 : Heap) (n0 : Nat) (Z0 : n0 ≤ h0.size) (g_o : n0 ≤ o) (E_o : Exa Z h0 o "com/example/fixpoint_checker/fixpointchecker/bdd/DecisionDiagrams") {u_freeHead : Value} (F_freeHead_o : Fld Z h0 o "com/example/fixpoint_checker/fixpointchecker/bdd/DecisionDiagrams" "freeHead" "I" u_freeHead) {u_wideConjunction : Value} (F_wideConjunction_o : Fld Z h0 o "com/example/fixpoint_checker/fixpointchecker/bdd/DecisionDiagrams" "wideConjunction" "Lcom/example/fixpoint_checker/fixpointchecker/bdd/WideConjunction;" u_wideConjunction) {u_quantifiers : Value} (F_quantifiers_o : Fld Z h0 o "com/example/fixpoint_checker/fixpointchecker/bdd/DecisionDiagrams" "quantifiers" "Ljava/util/List;" u_quantifiers) {u_lastQuantified : Value} (F_lastQuantified_o : Fld Z h0 o "com/example/fixpoint_checker/fixpointchecker/bdd/DecisionDiagrams" "lastQuantified" "Lcom/example/fixpoint_checker/fixpointchecker/IntList;" u_lastQuantified) {u_renamings : Value} (F_renamings_o : Fld Z h0 o "com/example/fixpoint_checker/fixpointchecker/bdd/DecisionDiagrams" "renamings" "Ljava/util/List;" u_renamings) {u_frameOperations : Value} (F_frameOperations_o : Fld Z h0 o "com/example/fixpoint_checker/fixpointchecker/bdd/DecisionDiagrams" "frameOperations" "[I" u_frameOperations) {u_frameFirsts : Value} (F_frameFirsts_o : Fld Z h0 o "com/example/fixpoint_checker/fixpointchecker/bdd/DecisionDiagrams" "frameFirsts" "[I" u_frameFirsts) {u_frameSeconds : Value} (F_frameSeconds_o : Fld Z h0 o "com/example/fixpoint_checker/fixpointchecker/bdd/DecisionDiagrams" "frameSeconds" "[I" u_frameSeconds) {u_frameExtras : Value} (F_frameExtras_o : Fld Z h0 o "com/example/fixpoint_checker/fixpointchecker/bdd/DecisionDiagrams" "frameExtras" "[I" u_frameExtras) {u_frameLevels : Value} (F_frameLevels_o : Fld Z h0 o "com/example/fixpoint_checker/fixpointchecker/bdd/DecisionDiagrams" "frameLevels" "[I" u_frameLevels) {u_frameStates : Value} (F_frameStates_o : Fld Z h0 o "com/example/fixpoint_checker/fixpointchecker/bdd/DecisionDiagrams" "frameStates" "[I" u_frameStates) {u_results : Value} (F_results_o : Fld Z h0 o "com/example/fixpoint_checker/fixpointchecker/bdd/DecisionDiagrams" "results" "Lcom/example/fixpoint_checker/fixpointchecker/IntList;" u_results) {u_walkPending : Value} (F_walkPending_o : Fld Z h0 o "com/example/fixpoint_checker/fixpointchecker/bdd/DecisionDiagrams" "walkPending" "Lcom/example/fixpoint_checker/fixpointchecker/IntList;" u_walkPending) {u_walkVisited : Value} (F_walkVisited_o : Fld Z h0 o "com/example/fixpoint_checker/fixpointchecker/bdd/DecisionDiagrams" "walkVisited" "Lcom/example/fixpoint_checker/fixpointchecker/IntList;" u_walkVisited) {u_walkMarks : Value} (F_walkMarks_o : Fld Z h0 o "com/example/fixpoint_checker/fixpointchecker/bdd/DecisionDiagrams" "walkMarks" "Ljava/util/BitSet;" u_walkMarks) {u_levelCount : Value} (F_levelCount_o : Fld Z h0 o "com/example/fixpoint_checker/fixpointchecker/bdd/DecisionDiagrams" "levelCount" "I" u_levelCount) {u_collectionFloor : Value} (F_collectionFloor_o : Fld Z h0 o "com/example/fixpoint_checker/fixpointchecker/bdd/DecisionDiagrams" "collectionFloor" "I" u_collectionFloor) {u_collectionThreshold : Value} (F_collectionThreshold_o : Fld Z h0 o "com/example/fixpoint_checker/fixpointchecker/bdd/DecisionDiagrams" "collectionThreshold" "I" u_collectionThreshold) {u_capacity : Value} (F_capacity_o : Fld Z h0 o "com/example/fixpoint_checker/fixpointchecker/bdd/DecisionDiagrams" "capacity" "I" u_capacity) {u_slots : Value} (F_slots_o : Fld Z h0 o "com/example/fixpoint_checker/fixpointchecker/bdd/DecisionDiagrams" "slots" "[J" u_slots) {u_buckets : Value} (F_buckets_o : Fld Z h0 o "com/example/fixpoint_checker/fixpointchecker/bdd/DecisionDiagrams" "buckets" "[I" u_buckets) (F_cache_o : Fld Z h0 o "com/example/fixpoint_checker/fixpointchecker/bdd/DecisionDiagrams" "cache" "[I" .null) {u_cacheMask : Value} (F_cacheMask_o : Fld Z h0 o "com/example/fixpoint_checker/fixpointchecker/bdd/DecisionDiagrams" "cacheMask" "I" u_cacheMask) {u_slotCount : Value} (F_slotCount_o : Fld Z h0 o "com/example/fixpoint_checker/fixpointchecker/bdd/DecisionDiagrams" "slotCount" "I" u_slotCount) (aS : Addr) (HS : Sta Z Z.heap "java/util/ArrayList" "DEFAULTCAPACITY_EMPTY_ELEMENTDATA" "[Ljava/lang/Object;" (.ref aS)) (HOld : Old Z n0 h0) (hlv : ¬ lv < 0) :
    MetFree l (⟨"com/example/fixpoint_checker/fixpointchecker/bdd/DecisionDiagrams", "<init>", "(II)V"⟩ : MethodName) (head1 (Jvm.Cond.code (⟨"com/example/fixpoint_checker/fixpointchecker/bdd/DecisionDiagrams", "<init>", "(II)V"⟩ : MethodName) prog_18_method_1_code 3 none :: ws) ({ frames := 4, cells := 31, slots := 20272, locals := 56 } : Room)) (fun a_ U => a_ = #[(.ref o), (.int lv), (.int (0 : Int32))] ∧ Z.Warmed39 U.vm ∧ U.heap = h0) (fun _ _ _ _ _ => True) (fun _ U o_ U' => ∃ v L, o_ = .returned v ∧ OQ (fun v h L => v = none ∧ Keep h0 h [o] ∧ Fr n0 L) v U'.heap L ∧ FrameEnd U o_ U' L ({ frames := 4, cells := 31, slots := 20272, locals := 56 } : Room).cells ({ frames := 4, cells := 31, slots := 20272, locals := 56 } : Room).slots) := by
  refine MetFree.of_bodySF (plainFor_of_name pn_6) hisR ?_
  intro p e s m args below meth c s₁ Bd hml0 hP hK
  obtain ⟨rfl, hZ, hh⟩ := hP
  have hx := Bd.exec
  have hby := Bd.bytes
  have hml : c.maxLocals = 3 := hml0
  have hown : s.vm.findClass "com/example/fixpoint_checker/fixpointchecker/bdd/DecisionDiagrams" = some m.cls := findClass_of_methodNamed Bd.named
  have hnm := (name_of_methodNamed Bd.named Bd.method).1
  have hret := Bd.returns
  have hlk : meth.locks = false := Bd.notSynchronized
  have X0 : Stand p l e ({ frames := 4, cells := 31, slots := 20272, locals := 56 } : Room) s m #[(.ref o), (.int lv), (.int (0 : Int32))] below meth c s₁ [] 0 0 := Stand.of_body Bd
  have e0 : s₁.heap = h0 := by rw [← hh, Bd.state]; rfl
  refine OFin.start (Q := fun v h L => v = none ∧ Keep h0 h [o] ∧ Fr n0 L) (s := s) (fun t kt => castTop (ef_6 m (o) (lv) ((0 : Int32))) kt) ?_
  refine OFin.to (s₁.setTop (mkF m 1 #[.val (.ref o), .val (.int lv), .val (.int (0 : Int32))] [(.ref o)])) (fun _ kt => XS.aloadN X0.here hx rfl (hb hby d6_0) rfl rfl kt) ?_
  obtain ⟨T1, X1, e1, st1⟩ := initO X0 hx hZ hown (hw _ (List.mem_of_getElem? (i := 46) rfl)) (hw _ (List.mem_of_getElem? (i := 12) rfl)) (hw _ (List.mem_of_getElem? (i := 13) rfl)) e0 (g := (mkF m 1 #[.val (.ref o), .val (.int lv), .val (.int (0 : Int32))] [(.ref o)])) rfl (by rw [hml]; rfl) rfl (hb hby d6_1) (by decide) (W := 0) (by show 2 * 0 + _ ≤ _; exact Nat.le_of_eq rfl) (by decide)
  refine OFin.to (T1.setTop (mkF m 4 #[.val (.ref o), .val (.int lv), .val (.int (0 : Int32))] [])) st1 ?_
  refine OFin.to (T1.setTop (mkF m 5 #[.val (.ref o), .val (.int lv), .val (.int (0 : Int32))] [(.ref o)])) (fun _ kt => XS.aloadN X1.here hx rfl (hb hby d6_4) rfl rfl kt) ?_
  refine OFin.to (T1.setTop (mkF m 6 #[.val (.ref o), .val (.int lv), .val (.int (0 : Int32))] [(.int (-1 : Int32)), (.ref o)])) (fun _ kt => XS.iconst X1.here hx rfl (hb hby d6_5) kt) ?_
  obtain ⟨T2, h2, X2, e2, W2, st2⟩ := putF X1 hx hZ hown (host := "") (Or.inl (hw _ (List.mem_of_getElem? (i := 47) rfl))) Via.refl e1 F_freeHead_o E_o (Or.inl (hw _ (List.mem_of_getElem? (i := 48) rfl))) (hw _ (List.mem_of_getElem? (i := 41) rfl)) (ty := .int) (by decide) rfl rfl (g := (mkF m 6 #[.val (.ref o), .val (.int lv), .val (.int (0 : Int32))] [(.int (-1 : Int32)), (.ref o)])) rfl rfl (hb hby d6_6)
  have E_o_2 := E_o.wr W2
  have F_wideConjunction_o_2 := F_wideConjunction_o.other W2 (Or.inr (slot_ne (Or.inr (hw _ (List.mem_of_getElem? (i := 90) rfl))) (Or.inl (hw _ (List.mem_of_getElem? (i := 48) rfl))) (by decide) (t := (.object "com/example/fixpoint_checker/fixpointchecker/bdd/WideConjunction")) (t' := .int) (by decide) (by decide)))
  have F_quantifiers_o_2 := F_quantifiers_o.other W2 (Or.inr (slot_ne (Or.inr (hw _ (List.mem_of_getElem? (i := 116) rfl))) (Or.inl (hw _ (List.mem_of_getElem? (i := 48) rfl))) (by decide) (t := (.object "java/util/List")) (t' := .int) (by decide) (by decide)))
  have F_lastQuantified_o_2 := F_lastQuantified_o.other W2 (Or.inr (slot_ne (Or.inr (hw _ (List.mem_of_getElem? (i := 120) rfl))) (Or.inl (hw _ (List.mem_of_getElem? (i := 48) rfl))) (by decide) (t := (.object "com/example/fixpoint_checker/fixpointchecker/IntList")) (t' := .int) (by decide) (by decide)))
  have F_renamings_o_2 := F_renamings_o.other W2 (Or.inr (slot_ne (Or.inr (hw _ (List.mem_of_getElem? (i := 122) rfl))) (Or.inl (hw _ (List.mem_of_getElem? (i := 48) rfl))) (by decide) (t := (.object "java/util/List")) (t' := .int) (by decide) (by decide)))
  have F_frameOperations_o_2 := F_frameOperations_o.other W2 (Or.inr (slot_ne (Or.inl (hw _ (List.mem_of_getElem? (i := 124) rfl))) (Or.inl (hw _ (List.mem_of_getElem? (i := 48) rfl))) (by decide) (t := (.array .int)) (t' := .int) (by decide) (by decide)))
  have F_frameFirsts_o_2 := F_frameFirsts_o.other W2 (Or.inr (slot_ne (Or.inl (hw _ (List.mem_of_getElem? (i := 126) rfl))) (Or.inl (hw _ (List.mem_of_getElem? (i := 48) rfl))) (by decide) (t := (.array .int)) (t' := .int) (by decide) (by decide)))
  have F_frameSeconds_o_2 := F_frameSeconds_o.other W2 (Or.inr (slot_ne (Or.inl (hw _ (List.mem_of_getElem? (i := 128) rfl))) (Or.inl (hw _ (List.mem_of_getElem? (i := 48) rfl))) (by decide) (t := (.array .int)) (t' := .int) (by decide) (by decide)))
  have F_frameExtras_o_2 := F_frameExtras_o.other W2 (Or.inr (slot_ne (Or.inl (hw _ (List.mem_of_getElem? (i := 130) rfl))) (Or.inl (hw _ (List.mem_of_getElem? (i := 48) rfl))) (by decide) (t := (.array .int)) (t' := .int) (by decide) (by decide)))
  have F_frameLevels_o_2 := F_frameLevels_o.other W2 (Or.inr (slot_ne (Or.inl (hw _ (List.mem_of_getElem? (i := 132) rfl))) (Or.inl (hw _ (List.mem_of_getElem? (i := 48) rfl))) (by decide) (t := (.array .int)) (t' := .int) (by decide) (by decide)))
  have F_frameStates_o_2 := F_frameStates_o.other W2 (Or.inr (slot_ne (Or.inl (hw _ (List.mem_of_getElem? (i := 134) rfl))) (Or.inl (hw _ (List.mem_of_getElem? (i := 48) rfl))) (by decide) (t := (.array .int)) (t' := .int) (by decide) (by decide)))
  have F_results_o_2 := F_results_o.other W2 (Or.inr (slot_ne (Or.inr (hw _ (List.mem_of_getElem? (i := 136) rfl))) (Or.inl (hw _ (List.mem_of_getElem? (i := 48) rfl))) (by decide) (t := (.object "com/example/fixpoint_checker/fixpointchecker/IntList")) (t' := .int) (by decide) (by decide)))
  have F_walkPending_o_2 := F_walkPending_o.other W2 (Or.inr (slot_ne (Or.inr (hw _ (List.mem_of_getElem? (i := 138) rfl))) (Or.inl (hw _ (List.mem_of_getElem? (i := 48) rfl))) (by decide) (t := (.object "com/example/fixpoint_checker/fixpointchecker/IntList")) (t' := .int) (by decide) (by decide)))
  have F_walkVisited_o_2 := F_walkVisited_o.other W2 (Or.inr (slot_ne (Or.inr (hw _ (List.mem_of_getElem? (i := 140) rfl))) (Or.inl (hw _ (List.mem_of_getElem? (i := 48) rfl))) (by decide) (t := (.object "com/example/fixpoint_checker/fixpointchecker/IntList")) (t' := .int) (by decide) (by decide)))
  have F_walkMarks_o_2 := F_walkMarks_o.other W2 (Or.inr (slot_ne (Or.inr (hw _ (List.mem_of_getElem? (i := 163) rfl))) (Or.inl (hw _ (List.mem_of_getElem? (i := 48) rfl))) (by decide) (t := (.object "java/util/BitSet")) (t' := .int) (by decide) (by decide)))
  have F_levelCount_o_2 := F_levelCount_o.other W2 (Or.inr (slot_ne (Or.inr (hw _ (List.mem_of_getElem? (i := 165) rfl))) (Or.inl (hw _ (List.mem_of_getElem? (i := 48) rfl))) (by decide) (t := .int) (t' := .int) (by decide) (by decide)))
  have F_collectionFloor_o_2 := F_collectionFloor_o.other W2 (Or.inr (slot_ne (Or.inr (hw _ (List.mem_of_getElem? (i := 167) rfl))) (Or.inl (hw _ (List.mem_of_getElem? (i := 48) rfl))) (by decide) (t := .int) (t' := .int) (by decide) (by decide)))
  have F_collectionThreshold_o_2 := F_collectionThreshold_o.other W2 (Or.inr (slot_ne (Or.inl (hw _ (List.mem_of_getElem? (i := 169) rfl))) (Or.inl (hw _ (List.mem_of_getElem? (i := 48) rfl))) (by decide) (t := .int) (t' := .int) (by decide) (by decide)))
  have F_capacity_o_2 := F_capacity_o.other W2 (Or.inr (slot_ne (Or.inl (hw _ (List.mem_of_getElem? (i := 175) rfl))) (Or.inl (hw _ (List.mem_of_getElem? (i := 48) rfl))) (by decide) (t := .int) (t' := .int) (by decide) (by decide)))
  have F_slots_o_2 := F_slots_o.other W2 (Or.inr (slot_ne (Or.inl (hw _ (List.mem_of_getElem? (i := 177) rfl))) (Or.inl (hw _ (List.mem_of_getElem? (i := 48) rfl))) (by decide) (t := (.array .long)) (t' := .int) (by decide) (by decide)))
  have F_buckets_o_2 := F_buckets_o.other W2 (Or.inr (slot_ne (Or.inl (hw _ (List.mem_of_getElem? (i := 188) rfl))) (Or.inl (hw _ (List.mem_of_getElem? (i := 48) rfl))) (by decide) (t := (.array .int)) (t' := .int) (by decide) (by decide)))
  have F_cache_o_2 := F_cache_o.other W2 (Or.inr (slot_ne (Or.inl (hw _ (List.mem_of_getElem? (i := 198) rfl))) (Or.inl (hw _ (List.mem_of_getElem? (i := 48) rfl))) (by decide) (t := (.array .int)) (t' := .int) (by decide) (by decide)))
  have F_cacheMask_o_2 := F_cacheMask_o.other W2 (Or.inr (slot_ne (Or.inl (hw _ (List.mem_of_getElem? (i := 200) rfl))) (Or.inl (hw _ (List.mem_of_getElem? (i := 48) rfl))) (by decide) (t := .int) (t' := .int) (by decide) (by decide)))
  have F_slotCount_o_2 := F_slotCount_o.other W2 (Or.inr (slot_ne (Or.inl (hw _ (List.mem_of_getElem? (i := 218) rfl))) (Or.inl (hw _ (List.mem_of_getElem? (i := 48) rfl))) (by decide) (t := .int) (t' := .int) (by decide) (by decide)))
  have HOld_2 := HOld.wr W2 g_o
  have F_freeHead_o_2 := F_freeHead_o.same W2
  have K2 := (Keep.refl h0 [o]).wr W2 (Or.inl (by simp))
  have N2 := Fr.snoc X2 (Fr.nil n0) g_o
  have Z2 := Nat.le_trans Z0 (Keep.of_wr W2).1
  refine OFin.to (T2.setTop (mkF m 9 #[.val (.ref o), .val (.int lv), .val (.int (0 : Int32))] [])) st2 ?_
  refine OFin.to (T2.setTop (mkF m 10 #[.val (.ref o), .val (.int lv), .val (.int (0 : Int32))] [(.ref o)])) (fun _ kt => XS.aloadN X2.here hx rfl (hb hby d6_9) rfl rfl kt) ?_
  obtain ⟨T3, h3, X3, e3, E3, A3, D3, -, st3⟩ := newO X2 hx hZ hown (hw _ (List.mem_of_getElem? (i := 49) rfl)) (hw _ (List.mem_of_getElem? (i := 50) rfl)) (hw _ (List.mem_of_getElem? (i := 51) rfl)) e2 (g := (mkF m 10 #[.val (.ref o), .val (.int lv), .val (.int (0 : Int32))] [(.ref o)])) rfl (hb hby d6_10) (by decide) (by decide)
  obtain ⟨b3, g3⟩ : ∃ z, z = h2.size := ⟨_, rfl⟩
  rw [← g3] at A3 D3 st3
  have g_b3 : n0 ≤ b3 := by rw [g3]; exact Z2
  have ne_o_b3 : o ≠ b3 := by rw [g3]; exact Nat.ne_of_lt E_o_2.lt
  have sz_b3 : h0.size ≤ b3 := by rw [g3]; exact K2.1
  have E_o_3 := E_o_2.ext E3
  have F_wideConjunction_o_3 := F_wideConjunction_o_2.ext E3
  have F_quantifiers_o_3 := F_quantifiers_o_2.ext E3
  have F_lastQuantified_o_3 := F_lastQuantified_o_2.ext E3
  have F_renamings_o_3 := F_renamings_o_2.ext E3
  have F_frameOperations_o_3 := F_frameOperations_o_2.ext E3
  have F_frameFirsts_o_3 := F_frameFirsts_o_2.ext E3
  have F_frameSeconds_o_3 := F_frameSeconds_o_2.ext E3
  have F_frameExtras_o_3 := F_frameExtras_o_2.ext E3
  have F_frameLevels_o_3 := F_frameLevels_o_2.ext E3
  have F_frameStates_o_3 := F_frameStates_o_2.ext E3
  have F_results_o_3 := F_results_o_2.ext E3
  have F_walkPending_o_3 := F_walkPending_o_2.ext E3
  have F_walkVisited_o_3 := F_walkVisited_o_2.ext E3
  have F_walkMarks_o_3 := F_walkMarks_o_2.ext E3
  have F_levelCount_o_3 := F_levelCount_o_2.ext E3
  have F_collectionFloor_o_3 := F_collectionFloor_o_2.ext E3
  have F_collectionThreshold_o_3 := F_collectionThreshold_o_2.ext E3
  have F_capacity_o_3 := F_capacity_o_2.ext E3
  have F_slots_o_3 := F_slots_o_2.ext E3
  have F_buckets_o_3 := F_buckets_o_2.ext E3
  have F_cache_o_3 := F_cache_o_2.ext E3
  have F_cacheMask_o_3 := F_cacheMask_o_2.ext E3
  have F_slotCount_o_3 := F_slotCount_o_2.ext E3
  have HOld_3 := HOld_2.ext E3
  have Z3 := Nat.le_trans Z2 E3.1
  have K3 := K2.ext E3
  have E_b3 := A3
  have F_lists_b3 : Fld Z h3 b3 "com/example/fixpoint_checker/fixpointchecker/bdd/WideConjunction" "lists" "[J" .null := D3 (Or.inl (hw _ (List.mem_of_getElem? (i := 58) rfl))) (ty := (.array .long)) (by decide)
  have F_frameStarts_b3 : Fld Z h3 b3 "com/example/fixpoint_checker/fixpointchecker/bdd/WideConjunction" "frameStarts" "[I" .null := D3 (Or.inl (hw _ (List.mem_of_getElem? (i := 61) rfl))) (ty := (.array .int)) (by decide)
  have F_frameLengths_b3 : Fld Z h3 b3 "com/example/fixpoint_checker/fixpointchecker/bdd/WideConjunction" "frameLengths" "[I" .null := D3 (Or.inl (hw _ (List.mem_of_getElem? (i := 63) rfl))) (ty := (.array .int)) (by decide)
  have F_frameLevels_b3 : Fld Z h3 b3 "com/example/fixpoint_checker/fixpointchecker/bdd/WideConjunction" "frameLevels" "[I" .null := D3 (Or.inl (hw _ (List.mem_of_getElem? (i := 65) rfl))) (ty := (.array .int)) (by decide)
  have F_frameStates_b3 : Fld Z h3 b3 "com/example/fixpoint_checker/fixpointchecker/bdd/WideConjunction" "frameStates" "[I" .null := D3 (Or.inl (hw _ (List.mem_of_getElem? (i := 67) rfl))) (ty := (.array .int)) (by decide)
  have F_results_b3 : Fld Z h3 b3 "com/example/fixpoint_checker/fixpointchecker/bdd/WideConjunction" "results" "Lcom/example/fixpoint_checker/fixpointchecker/IntList;" .null := D3 (Or.inr (hw _ (List.mem_of_getElem? (i := 82) rfl))) (ty := (.object "com/example/fixpoint_checker/fixpointchecker/IntList")) (by decide)
  have F_table_b3 : Fld Z h3 b3 "com/example/fixpoint_checker/fixpointchecker/bdd/WideConjunction" "table" "[I" .null := D3 (Or.inl (hw _ (List.mem_of_getElem? (i := 84) rfl))) (ty := (.array .int)) (by decide)
  have F_keys_b3 : Fld Z h3 b3 "com/example/fixpoint_checker/fixpointchecker/bdd/WideConjunction" "keys" "[J" .null := D3 (Or.inl (hw _ (List.mem_of_getElem? (i := 86) rfl))) (ty := (.array .long)) (by decide)
  have F_diagrams_b3 : Fld Z h3 b3 "com/example/fixpoint_checker/fixpointchecker/bdd/WideConjunction" "diagrams" "Lcom/example/fixpoint_checker/fixpointchecker/bdd/DecisionDiagrams;" .null := D3 (Or.inr (hw _ (List.mem_of_getElem? (i := 88) rfl))) (ty := (.object "com/example/fixpoint_checker/fixpointchecker/bdd/DecisionDiagrams")) (by decide)
  refine OFin.to (T3.setTop (mkF m 13 #[.val (.ref o), .val (.int lv), .val (.int (0 : Int32))] [(.ref b3), (.ref o)])) st3 ?_
  refine OFin.to (T3.setTop (mkF m 14 #[.val (.ref o), .val (.int lv), .val (.int (0 : Int32))] [(.ref b3), (.ref b3), (.ref o)])) (fun _ kt => XS.dup X3.here hx rfl (hb hby d6_13) rfl rfl kt) ?_
  refine OFin.to (T3.setTop (mkF m 15 #[.val (.ref o), .val (.int lv), .val (.int (0 : Int32))] [(.ref o), (.ref b3), (.ref b3), (.ref o)])) (fun _ kt => XS.aloadN X3.here hx rfl (hb hby d6_14) rfl rfl kt) ?_
  obtain ⟨v4, T4, L4, hQ4, X4, st4⟩ := own_callN X3 hx hZ hown rfl (hw _ (List.mem_of_getElem? (i := 52) rfl)) (hw _ (List.mem_of_getElem? (i := 53) rfl)) (hw _ (List.mem_of_getElem? (i := 54) rfl)) (hw _ (List.mem_of_getElem? (i := 51) rfl)) (by decide) e3 (rm7 l Z a0 hw [] b3 o h3 n0 Z3 g_b3 E_b3 F_lists_b3 F_frameStarts_b3 F_frameLengths_b3 F_frameLevels_b3 F_frameStates_b3 F_results_b3 F_table_b3 F_keys_b3 F_diagrams_b3  ) 2 (by decide) (by decide) (by decide) (by decide) (g := (mkF m 15 #[.val (.ref o), .val (.int lv), .val (.int (0 : Int32))] [(.ref o), (.ref b3), (.ref b3), (.ref o)])) rfl (by rw [hml]; rfl) (rest := [(.ref b3), (.ref o)]) (lenOf pd_7 rfl) rfl (by show 2 * 0 + _ ≤ _; exact Nat.le_of_eq rfl) (hb hby d6_15)
  obtain ⟨rfl, Kq4, Nq4⟩ := hQ4
  refine OFin.to (T4.setTop (mkF m 18 #[.val (.ref o), .val (.int lv), .val (.int (0 : Int32))] [(.ref b3), (.ref o)])) st4 ?_
  have N4 := Fr.app N2 Nq4
  have Z4 := Nat.le_trans Z3 Kq4.1
  have E_o_4 := E_o_3.keep Kq4
  have F_wideConjunction_o_4 := F_wideConjunction_o_3.keep Kq4 (ninS ne_o_b3 nin0)
  have F_quantifiers_o_4 := F_quantifiers_o_3.keep Kq4 (ninS ne_o_b3 nin0)
  have F_lastQuantified_o_4 := F_lastQuantified_o_3.keep Kq4 (ninS ne_o_b3 nin0)
  have F_renamings_o_4 := F_renamings_o_3.keep Kq4 (ninS ne_o_b3 nin0)
  have F_frameOperations_o_4 := F_frameOperations_o_3.keep Kq4 (ninS ne_o_b3 nin0)
  have F_frameFirsts_o_4 := F_frameFirsts_o_3.keep Kq4 (ninS ne_o_b3 nin0)
  have F_frameSeconds_o_4 := F_frameSeconds_o_3.keep Kq4 (ninS ne_o_b3 nin0)
  have F_frameExtras_o_4 := F_frameExtras_o_3.keep Kq4 (ninS ne_o_b3 nin0)
  have F_frameLevels_o_4 := F_frameLevels_o_3.keep Kq4 (ninS ne_o_b3 nin0)
  have F_frameStates_o_4 := F_frameStates_o_3.keep Kq4 (ninS ne_o_b3 nin0)
  have F_results_o_4 := F_results_o_3.keep Kq4 (ninS ne_o_b3 nin0)
  have F_walkPending_o_4 := F_walkPending_o_3.keep Kq4 (ninS ne_o_b3 nin0)
  have F_walkVisited_o_4 := F_walkVisited_o_3.keep Kq4 (ninS ne_o_b3 nin0)
  have F_walkMarks_o_4 := F_walkMarks_o_3.keep Kq4 (ninS ne_o_b3 nin0)
  have F_levelCount_o_4 := F_levelCount_o_3.keep Kq4 (ninS ne_o_b3 nin0)
  have F_collectionFloor_o_4 := F_collectionFloor_o_3.keep Kq4 (ninS ne_o_b3 nin0)
  have F_collectionThreshold_o_4 := F_collectionThreshold_o_3.keep Kq4 (ninS ne_o_b3 nin0)
  have F_capacity_o_4 := F_capacity_o_3.keep Kq4 (ninS ne_o_b3 nin0)
  have F_slots_o_4 := F_slots_o_3.keep Kq4 (ninS ne_o_b3 nin0)
  have F_buckets_o_4 := F_buckets_o_3.keep Kq4 (ninS ne_o_b3 nin0)
  have F_cache_o_4 := F_cache_o_3.keep Kq4 (ninS ne_o_b3 nin0)
  have F_cacheMask_o_4 := F_cacheMask_o_3.keep Kq4 (ninS ne_o_b3 nin0)
  have F_slotCount_o_4 := F_slotCount_o_3.keep Kq4 (ninS ne_o_b3 nin0)
  have HOld_4 := HOld_3.keep Kq4 (allS g_b3 all0)
  have E_b3_4 := E_b3.keep Kq4
  have KK4 := K3.trans Kq4 (fun x hx' => by cases List.mem_singleton.mp hx'; exact Or.inr sz_b3)
  obtain ⟨T5, h5, X5, e5, W5, st5⟩ := putF X4 hx hZ hown (host := "") (Or.inl (hw _ (List.mem_of_getElem? (i := 89) rfl))) Via.refl rfl F_wideConjunction_o_4 E_o_4 (Or.inr ⟨(hw _ (List.mem_of_getElem? (i := 90) rfl)), rfl, hnm⟩) (hw _ (List.mem_of_getElem? (i := 41) rfl)) (ty := (.object "com/example/fixpoint_checker/fixpointchecker/bdd/WideConjunction")) (by decide) rfl rfl (g := (mkF m 18 #[.val (.ref o), .val (.int lv), .val (.int (0 : Int32))] [(.ref b3), (.ref o)])) rfl rfl (hb hby d6_18)
  have E_o_5 := E_o_4.wr W5
  have F_quantifiers_o_5 := F_quantifiers_o_4.other W5 (Or.inr (slot_ne (Or.inr (hw _ (List.mem_of_getElem? (i := 116) rfl))) (Or.inr (hw _ (List.mem_of_getElem? (i := 90) rfl))) (by decide) (t := (.object "java/util/List")) (t' := (.object "com/example/fixpoint_checker/fixpointchecker/bdd/WideConjunction")) (by decide) (by decide)))
  have F_lastQuantified_o_5 := F_lastQuantified_o_4.other W5 (Or.inr (slot_ne (Or.inr (hw _ (List.mem_of_getElem? (i := 120) rfl))) (Or.inr (hw _ (List.mem_of_getElem? (i := 90) rfl))) (by decide) (t := (.object "com/example/fixpoint_checker/fixpointchecker/IntList")) (t' := (.object "com/example/fixpoint_checker/fixpointchecker/bdd/WideConjunction")) (by decide) (by decide)))
  have F_renamings_o_5 := F_renamings_o_4.other W5 (Or.inr (slot_ne (Or.inr (hw _ (List.mem_of_getElem? (i := 122) rfl))) (Or.inr (hw _ (List.mem_of_getElem? (i := 90) rfl))) (by decide) (t := (.object "java/util/List")) (t' := (.object "com/example/fixpoint_checker/fixpointchecker/bdd/WideConjunction")) (by decide) (by decide)))
  have F_frameOperations_o_5 := F_frameOperations_o_4.other W5 (Or.inr (slot_ne (Or.inl (hw _ (List.mem_of_getElem? (i := 124) rfl))) (Or.inr (hw _ (List.mem_of_getElem? (i := 90) rfl))) (by decide) (t := (.array .int)) (t' := (.object "com/example/fixpoint_checker/fixpointchecker/bdd/WideConjunction")) (by decide) (by decide)))
  have F_frameFirsts_o_5 := F_frameFirsts_o_4.other W5 (Or.inr (slot_ne (Or.inl (hw _ (List.mem_of_getElem? (i := 126) rfl))) (Or.inr (hw _ (List.mem_of_getElem? (i := 90) rfl))) (by decide) (t := (.array .int)) (t' := (.object "com/example/fixpoint_checker/fixpointchecker/bdd/WideConjunction")) (by decide) (by decide)))
  have F_frameSeconds_o_5 := F_frameSeconds_o_4.other W5 (Or.inr (slot_ne (Or.inl (hw _ (List.mem_of_getElem? (i := 128) rfl))) (Or.inr (hw _ (List.mem_of_getElem? (i := 90) rfl))) (by decide) (t := (.array .int)) (t' := (.object "com/example/fixpoint_checker/fixpointchecker/bdd/WideConjunction")) (by decide) (by decide)))
  have F_frameExtras_o_5 := F_frameExtras_o_4.other W5 (Or.inr (slot_ne (Or.inl (hw _ (List.mem_of_getElem? (i := 130) rfl))) (Or.inr (hw _ (List.mem_of_getElem? (i := 90) rfl))) (by decide) (t := (.array .int)) (t' := (.object "com/example/fixpoint_checker/fixpointchecker/bdd/WideConjunction")) (by decide) (by decide)))
  have F_frameLevels_o_5 := F_frameLevels_o_4.other W5 (Or.inr (slot_ne (Or.inl (hw _ (List.mem_of_getElem? (i := 132) rfl))) (Or.inr (hw _ (List.mem_of_getElem? (i := 90) rfl))) (by decide) (t := (.array .int)) (t' := (.object "com/example/fixpoint_checker/fixpointchecker/bdd/WideConjunction")) (by decide) (by decide)))
  have F_frameStates_o_5 := F_frameStates_o_4.other W5 (Or.inr (slot_ne (Or.inl (hw _ (List.mem_of_getElem? (i := 134) rfl))) (Or.inr (hw _ (List.mem_of_getElem? (i := 90) rfl))) (by decide) (t := (.array .int)) (t' := (.object "com/example/fixpoint_checker/fixpointchecker/bdd/WideConjunction")) (by decide) (by decide)))
  have F_results_o_5 := F_results_o_4.other W5 (Or.inr (slot_ne (Or.inr (hw _ (List.mem_of_getElem? (i := 136) rfl))) (Or.inr (hw _ (List.mem_of_getElem? (i := 90) rfl))) (by decide) (t := (.object "com/example/fixpoint_checker/fixpointchecker/IntList")) (t' := (.object "com/example/fixpoint_checker/fixpointchecker/bdd/WideConjunction")) (by decide) (by decide)))
  have F_walkPending_o_5 := F_walkPending_o_4.other W5 (Or.inr (slot_ne (Or.inr (hw _ (List.mem_of_getElem? (i := 138) rfl))) (Or.inr (hw _ (List.mem_of_getElem? (i := 90) rfl))) (by decide) (t := (.object "com/example/fixpoint_checker/fixpointchecker/IntList")) (t' := (.object "com/example/fixpoint_checker/fixpointchecker/bdd/WideConjunction")) (by decide) (by decide)))
  have F_walkVisited_o_5 := F_walkVisited_o_4.other W5 (Or.inr (slot_ne (Or.inr (hw _ (List.mem_of_getElem? (i := 140) rfl))) (Or.inr (hw _ (List.mem_of_getElem? (i := 90) rfl))) (by decide) (t := (.object "com/example/fixpoint_checker/fixpointchecker/IntList")) (t' := (.object "com/example/fixpoint_checker/fixpointchecker/bdd/WideConjunction")) (by decide) (by decide)))
  have F_walkMarks_o_5 := F_walkMarks_o_4.other W5 (Or.inr (slot_ne (Or.inr (hw _ (List.mem_of_getElem? (i := 163) rfl))) (Or.inr (hw _ (List.mem_of_getElem? (i := 90) rfl))) (by decide) (t := (.object "java/util/BitSet")) (t' := (.object "com/example/fixpoint_checker/fixpointchecker/bdd/WideConjunction")) (by decide) (by decide)))
  have F_levelCount_o_5 := F_levelCount_o_4.other W5 (Or.inr (slot_ne (Or.inr (hw _ (List.mem_of_getElem? (i := 165) rfl))) (Or.inr (hw _ (List.mem_of_getElem? (i := 90) rfl))) (by decide) (t := .int) (t' := (.object "com/example/fixpoint_checker/fixpointchecker/bdd/WideConjunction")) (by decide) (by decide)))
  have F_collectionFloor_o_5 := F_collectionFloor_o_4.other W5 (Or.inr (slot_ne (Or.inr (hw _ (List.mem_of_getElem? (i := 167) rfl))) (Or.inr (hw _ (List.mem_of_getElem? (i := 90) rfl))) (by decide) (t := .int) (t' := (.object "com/example/fixpoint_checker/fixpointchecker/bdd/WideConjunction")) (by decide) (by decide)))
  have F_collectionThreshold_o_5 := F_collectionThreshold_o_4.other W5 (Or.inr (slot_ne (Or.inl (hw _ (List.mem_of_getElem? (i := 169) rfl))) (Or.inr (hw _ (List.mem_of_getElem? (i := 90) rfl))) (by decide) (t := .int) (t' := (.object "com/example/fixpoint_checker/fixpointchecker/bdd/WideConjunction")) (by decide) (by decide)))
  have F_capacity_o_5 := F_capacity_o_4.other W5 (Or.inr (slot_ne (Or.inl (hw _ (List.mem_of_getElem? (i := 175) rfl))) (Or.inr (hw _ (List.mem_of_getElem? (i := 90) rfl))) (by decide) (t := .int) (t' := (.object "com/example/fixpoint_checker/fixpointchecker/bdd/WideConjunction")) (by decide) (by decide)))
  have F_slots_o_5 := F_slots_o_4.other W5 (Or.inr (slot_ne (Or.inl (hw _ (List.mem_of_getElem? (i := 177) rfl))) (Or.inr (hw _ (List.mem_of_getElem? (i := 90) rfl))) (by decide) (t := (.array .long)) (t' := (.object "com/example/fixpoint_checker/fixpointchecker/bdd/WideConjunction")) (by decide) (by decide)))
  have F_buckets_o_5 := F_buckets_o_4.other W5 (Or.inr (slot_ne (Or.inl (hw _ (List.mem_of_getElem? (i := 188) rfl))) (Or.inr (hw _ (List.mem_of_getElem? (i := 90) rfl))) (by decide) (t := (.array .int)) (t' := (.object "com/example/fixpoint_checker/fixpointchecker/bdd/WideConjunction")) (by decide) (by decide)))
  have F_cache_o_5 := F_cache_o_4.other W5 (Or.inr (slot_ne (Or.inl (hw _ (List.mem_of_getElem? (i := 198) rfl))) (Or.inr (hw _ (List.mem_of_getElem? (i := 90) rfl))) (by decide) (t := (.array .int)) (t' := (.object "com/example/fixpoint_checker/fixpointchecker/bdd/WideConjunction")) (by decide) (by decide)))
  have F_cacheMask_o_5 := F_cacheMask_o_4.other W5 (Or.inr (slot_ne (Or.inl (hw _ (List.mem_of_getElem? (i := 200) rfl))) (Or.inr (hw _ (List.mem_of_getElem? (i := 90) rfl))) (by decide) (t := .int) (t' := (.object "com/example/fixpoint_checker/fixpointchecker/bdd/WideConjunction")) (by decide) (by decide)))
  have F_slotCount_o_5 := F_slotCount_o_4.other W5 (Or.inr (slot_ne (Or.inl (hw _ (List.mem_of_getElem? (i := 218) rfl))) (Or.inr (hw _ (List.mem_of_getElem? (i := 90) rfl))) (by decide) (t := .int) (t' := (.object "com/example/fixpoint_checker/fixpointchecker/bdd/WideConjunction")) (by decide) (by decide)))
  have HOld_5 := HOld_4.wr W5 g_o
  have F_wideConjunction_o_5 := F_wideConjunction_o_4.same W5
  have K5 := KK4.wr W5 (Or.inl (by simp))
  have N5 := Fr.snoc X5 N4 g_o
  have Z5 := Nat.le_trans Z4 (Keep.of_wr W5).1
  refine OFin.to (T5.setTop (mkF m 21 #[.val (.ref o), .val (.int lv), .val (.int (0 : Int32))] [])) st5 ?_
  refine OFin.to (T5.setTop (mkF m 22 #[.val (.ref o), .val (.int lv), .val (.int (0 : Int32))] [(.ref o)])) (fun _ kt => XS.aloadN X5.here hx rfl (hb hby d6_21) rfl rfl kt) ?_
  obtain ⟨T6, h6, X6, e6, E6, A6, D6, -, st6⟩ := newO X5 hx hZ hown (hw _ (List.mem_of_getElem? (i := 91) rfl)) (hw _ (List.mem_of_getElem? (i := 92) rfl)) (hw _ (List.mem_of_getElem? (i := 93) rfl)) e5 (g := (mkF m 22 #[.val (.ref o), .val (.int lv), .val (.int (0 : Int32))] [(.ref o)])) rfl (hb hby d6_22) (by decide) (by decide)
  obtain ⟨b6, g6⟩ : ∃ z, z = h5.size := ⟨_, rfl⟩
  rw [← g6] at A6 D6 st6
  have g_b6 : n0 ≤ b6 := by rw [g6]; exact Z5
  have ne_o_b6 : o ≠ b6 := by rw [g6]; exact Nat.ne_of_lt E_o_5.lt
  have sz_b6 : h0.size ≤ b6 := by rw [g6]; exact K5.1
  have E_o_6 := E_o_5.ext E6
  have F_quantifiers_o_6 := F_quantifiers_o_5.ext E6
  have F_lastQuantified_o_6 := F_lastQuantified_o_5.ext E6
  have F_renamings_o_6 := F_renamings_o_5.ext E6
  have F_frameOperations_o_6 := F_frameOperations_o_5.ext E6
  have F_frameFirsts_o_6 := F_frameFirsts_o_5.ext E6
  have F_frameSeconds_o_6 := F_frameSeconds_o_5.ext E6
  have F_frameExtras_o_6 := F_frameExtras_o_5.ext E6
  have F_frameLevels_o_6 := F_frameLevels_o_5.ext E6
  have F_frameStates_o_6 := F_frameStates_o_5.ext E6
  have F_results_o_6 := F_results_o_5.ext E6
  have F_walkPending_o_6 := F_walkPending_o_5.ext E6
  have F_walkVisited_o_6 := F_walkVisited_o_5.ext E6
  have F_walkMarks_o_6 := F_walkMarks_o_5.ext E6
  have F_levelCount_o_6 := F_levelCount_o_5.ext E6
  have F_collectionFloor_o_6 := F_collectionFloor_o_5.ext E6
  have F_collectionThreshold_o_6 := F_collectionThreshold_o_5.ext E6
  have F_capacity_o_6 := F_capacity_o_5.ext E6
  have F_slots_o_6 := F_slots_o_5.ext E6
  have F_buckets_o_6 := F_buckets_o_5.ext E6
  have F_cache_o_6 := F_cache_o_5.ext E6
  have F_cacheMask_o_6 := F_cacheMask_o_5.ext E6
  have F_slotCount_o_6 := F_slotCount_o_5.ext E6
  have HOld_6 := HOld_5.ext E6
  have Z6 := Nat.le_trans Z5 E6.1
  have K6 := K5.ext E6
  have E_b6 := A6
  have F_modCount_b6 : Fld Z h6 b6 "java/util/AbstractList" "modCount" "I" (.int (0 : Int32)) := D6 (Or.inl (hw _ (List.mem_of_getElem? (i := 111) rfl))) (ty := .int) (by decide)
  have F_elementData_b6 : Fld Z h6 b6 "java/util/ArrayList" "elementData" "[Ljava/lang/Object;" .null := D6 (Or.inl (hw _ (List.mem_of_getElem? (i := 114) rfl))) (ty := (.array (.object "java/lang/Object"))) (by decide)
  refine OFin.to (T6.setTop (mkF m 25 #[.val (.ref o), .val (.int lv), .val (.int (0 : Int32))] [(.ref b6), (.ref o)])) st6 ?_
  refine OFin.to (T6.setTop (mkF m 26 #[.val (.ref o), .val (.int lv), .val (.int (0 : Int32))] [(.ref b6), (.ref b6), (.ref o)])) (fun _ kt => XS.dup X6.here hx rfl (hb hby d6_25) rfl rfl kt) ?_
  obtain ⟨v7, T7, L7, hQ7, X7, st7⟩ := own_callN X6 hx hZ hown rfl (hw _ (List.mem_of_getElem? (i := 94) rfl)) (hw _ (List.mem_of_getElem? (i := 95) rfl)) (hw _ (List.mem_of_getElem? (i := 96) rfl)) (hw _ (List.mem_of_getElem? (i := 93) rfl)) (by decide) e6 (rm10 l Z a0 hw [] b6 h6 n0 Z6 g_b6 E_b6 F_modCount_b6 F_elementData_b6 aS HS HOld_6 ) 2 (by decide) (by decide) (by decide) (by decide) (g := (mkF m 26 #[.val (.ref o), .val (.int lv), .val (.int (0 : Int32))] [(.ref b6), (.ref b6), (.ref o)])) rfl (by rw [hml]; rfl) (rest := [(.ref b6), (.ref o)]) (lenOf pd_1 rfl) rfl (by show 2 * 0 + _ ≤ _; exact Nat.le_of_eq rfl) (hb hby d6_26)
  obtain ⟨rfl, Kq7, Nq7⟩ := hQ7
  refine OFin.to (T7.setTop (mkF m 29 #[.val (.ref o), .val (.int lv), .val (.int (0 : Int32))] [(.ref b6), (.ref o)])) st7 ?_
  have N7 := Fr.app N5 Nq7
  have Z7 := Nat.le_trans Z6 Kq7.1
  have E_o_7 := E_o_6.keep Kq7
  have F_quantifiers_o_7 := F_quantifiers_o_6.keep Kq7 (ninS ne_o_b6 nin0)
  have F_lastQuantified_o_7 := F_lastQuantified_o_6.keep Kq7 (ninS ne_o_b6 nin0)
  have F_renamings_o_7 := F_renamings_o_6.keep Kq7 (ninS ne_o_b6 nin0)
  have F_frameOperations_o_7 := F_frameOperations_o_6.keep Kq7 (ninS ne_o_b6 nin0)
  have F_frameFirsts_o_7 := F_frameFirsts_o_6.keep Kq7 (ninS ne_o_b6 nin0)
  have F_frameSeconds_o_7 := F_frameSeconds_o_6.keep Kq7 (ninS ne_o_b6 nin0)
  have F_frameExtras_o_7 := F_frameExtras_o_6.keep Kq7 (ninS ne_o_b6 nin0)
  have F_frameLevels_o_7 := F_frameLevels_o_6.keep Kq7 (ninS ne_o_b6 nin0)
  have F_frameStates_o_7 := F_frameStates_o_6.keep Kq7 (ninS ne_o_b6 nin0)
  have F_results_o_7 := F_results_o_6.keep Kq7 (ninS ne_o_b6 nin0)
  have F_walkPending_o_7 := F_walkPending_o_6.keep Kq7 (ninS ne_o_b6 nin0)
  have F_walkVisited_o_7 := F_walkVisited_o_6.keep Kq7 (ninS ne_o_b6 nin0)
  have F_walkMarks_o_7 := F_walkMarks_o_6.keep Kq7 (ninS ne_o_b6 nin0)
  have F_levelCount_o_7 := F_levelCount_o_6.keep Kq7 (ninS ne_o_b6 nin0)
  have F_collectionFloor_o_7 := F_collectionFloor_o_6.keep Kq7 (ninS ne_o_b6 nin0)
  have F_collectionThreshold_o_7 := F_collectionThreshold_o_6.keep Kq7 (ninS ne_o_b6 nin0)
  have F_capacity_o_7 := F_capacity_o_6.keep Kq7 (ninS ne_o_b6 nin0)
  have F_slots_o_7 := F_slots_o_6.keep Kq7 (ninS ne_o_b6 nin0)
  have F_buckets_o_7 := F_buckets_o_6.keep Kq7 (ninS ne_o_b6 nin0)
  have F_cache_o_7 := F_cache_o_6.keep Kq7 (ninS ne_o_b6 nin0)
  have F_cacheMask_o_7 := F_cacheMask_o_6.keep Kq7 (ninS ne_o_b6 nin0)
  have F_slotCount_o_7 := F_slotCount_o_6.keep Kq7 (ninS ne_o_b6 nin0)
  have HOld_7 := HOld_6.keep Kq7 (allS g_b6 all0)
  have E_b6_7 := E_b6.keep Kq7
  have KK7 := K6.trans Kq7 (fun x hx' => by cases List.mem_singleton.mp hx'; exact Or.inr sz_b6)
  obtain ⟨T8, h8, X8, e8, W8, st8⟩ := putF X7 hx hZ hown (host := "") (Or.inl (hw _ (List.mem_of_getElem? (i := 115) rfl))) Via.refl rfl F_quantifiers_o_7 E_o_7 (Or.inr ⟨(hw _ (List.mem_of_getElem? (i := 116) rfl)), rfl, hnm⟩) (hw _ (List.mem_of_getElem? (i := 41) rfl)) (ty := (.object "java/util/List")) (by decide) rfl rfl (g := (mkF m 29 #[.val (.ref o), .val (.int lv), .val (.int (0 : Int32))] [(.ref b6), (.ref o)])) rfl rfl (hb hby d6_29)
  have E_o_8 := E_o_7.wr W8
  have F_lastQuantified_o_8 := F_lastQuantified_o_7.other W8 (Or.inr (slot_ne (Or.inr (hw _ (List.mem_of_getElem? (i := 120) rfl))) (Or.inr (hw _ (List.mem_of_getElem? (i := 116) rfl))) (by decide) (t := (.object "com/example/fixpoint_checker/fixpointchecker/IntList")) (t' := (.object "java/util/List")) (by decide) (by decide)))
  have F_renamings_o_8 := F_renamings_o_7.other W8 (Or.inr (slot_ne (Or.inr (hw _ (List.mem_of_getElem? (i := 122) rfl))) (Or.inr (hw _ (List.mem_of_getElem? (i := 116) rfl))) (by decide) (t := (.object "java/util/List")) (t' := (.object "java/util/List")) (by decide) (by decide)))
  have F_frameOperations_o_8 := F_frameOperations_o_7.other W8 (Or.inr (slot_ne (Or.inl (hw _ (List.mem_of_getElem? (i := 124) rfl))) (Or.inr (hw _ (List.mem_of_getElem? (i := 116) rfl))) (by decide) (t := (.array .int)) (t' := (.object "java/util/List")) (by decide) (by decide)))
  have F_frameFirsts_o_8 := F_frameFirsts_o_7.other W8 (Or.inr (slot_ne (Or.inl (hw _ (List.mem_of_getElem? (i := 126) rfl))) (Or.inr (hw _ (List.mem_of_getElem? (i := 116) rfl))) (by decide) (t := (.array .int)) (t' := (.object "java/util/List")) (by decide) (by decide)))
  have F_frameSeconds_o_8 := F_frameSeconds_o_7.other W8 (Or.inr (slot_ne (Or.inl (hw _ (List.mem_of_getElem? (i := 128) rfl))) (Or.inr (hw _ (List.mem_of_getElem? (i := 116) rfl))) (by decide) (t := (.array .int)) (t' := (.object "java/util/List")) (by decide) (by decide)))
  have F_frameExtras_o_8 := F_frameExtras_o_7.other W8 (Or.inr (slot_ne (Or.inl (hw _ (List.mem_of_getElem? (i := 130) rfl))) (Or.inr (hw _ (List.mem_of_getElem? (i := 116) rfl))) (by decide) (t := (.array .int)) (t' := (.object "java/util/List")) (by decide) (by decide)))
  have F_frameLevels_o_8 := F_frameLevels_o_7.other W8 (Or.inr (slot_ne (Or.inl (hw _ (List.mem_of_getElem? (i := 132) rfl))) (Or.inr (hw _ (List.mem_of_getElem? (i := 116) rfl))) (by decide) (t := (.array .int)) (t' := (.object "java/util/List")) (by decide) (by decide)))
  have F_frameStates_o_8 := F_frameStates_o_7.other W8 (Or.inr (slot_ne (Or.inl (hw _ (List.mem_of_getElem? (i := 134) rfl))) (Or.inr (hw _ (List.mem_of_getElem? (i := 116) rfl))) (by decide) (t := (.array .int)) (t' := (.object "java/util/List")) (by decide) (by decide)))
  have F_results_o_8 := F_results_o_7.other W8 (Or.inr (slot_ne (Or.inr (hw _ (List.mem_of_getElem? (i := 136) rfl))) (Or.inr (hw _ (List.mem_of_getElem? (i := 116) rfl))) (by decide) (t := (.object "com/example/fixpoint_checker/fixpointchecker/IntList")) (t' := (.object "java/util/List")) (by decide) (by decide)))
  have F_walkPending_o_8 := F_walkPending_o_7.other W8 (Or.inr (slot_ne (Or.inr (hw _ (List.mem_of_getElem? (i := 138) rfl))) (Or.inr (hw _ (List.mem_of_getElem? (i := 116) rfl))) (by decide) (t := (.object "com/example/fixpoint_checker/fixpointchecker/IntList")) (t' := (.object "java/util/List")) (by decide) (by decide)))
  have F_walkVisited_o_8 := F_walkVisited_o_7.other W8 (Or.inr (slot_ne (Or.inr (hw _ (List.mem_of_getElem? (i := 140) rfl))) (Or.inr (hw _ (List.mem_of_getElem? (i := 116) rfl))) (by decide) (t := (.object "com/example/fixpoint_checker/fixpointchecker/IntList")) (t' := (.object "java/util/List")) (by decide) (by decide)))
  have F_walkMarks_o_8 := F_walkMarks_o_7.other W8 (Or.inr (slot_ne (Or.inr (hw _ (List.mem_of_getElem? (i := 163) rfl))) (Or.inr (hw _ (List.mem_of_getElem? (i := 116) rfl))) (by decide) (t := (.object "java/util/BitSet")) (t' := (.object "java/util/List")) (by decide) (by decide)))
  have F_levelCount_o_8 := F_levelCount_o_7.other W8 (Or.inr (slot_ne (Or.inr (hw _ (List.mem_of_getElem? (i := 165) rfl))) (Or.inr (hw _ (List.mem_of_getElem? (i := 116) rfl))) (by decide) (t := .int) (t' := (.object "java/util/List")) (by decide) (by decide)))
  have F_collectionFloor_o_8 := F_collectionFloor_o_7.other W8 (Or.inr (slot_ne (Or.inr (hw _ (List.mem_of_getElem? (i := 167) rfl))) (Or.inr (hw _ (List.mem_of_getElem? (i := 116) rfl))) (by decide) (t := .int) (t' := (.object "java/util/List")) (by decide) (by decide)))
  have F_collectionThreshold_o_8 := F_collectionThreshold_o_7.other W8 (Or.inr (slot_ne (Or.inl (hw _ (List.mem_of_getElem? (i := 169) rfl))) (Or.inr (hw _ (List.mem_of_getElem? (i := 116) rfl))) (by decide) (t := .int) (t' := (.object "java/util/List")) (by decide) (by decide)))
  have F_capacity_o_8 := F_capacity_o_7.other W8 (Or.inr (slot_ne (Or.inl (hw _ (List.mem_of_getElem? (i := 175) rfl))) (Or.inr (hw _ (List.mem_of_getElem? (i := 116) rfl))) (by decide) (t := .int) (t' := (.object "java/util/List")) (by decide) (by decide)))
  have F_slots_o_8 := F_slots_o_7.other W8 (Or.inr (slot_ne (Or.inl (hw _ (List.mem_of_getElem? (i := 177) rfl))) (Or.inr (hw _ (List.mem_of_getElem? (i := 116) rfl))) (by decide) (t := (.array .long)) (t' := (.object "java/util/List")) (by decide) (by decide)))
  have F_buckets_o_8 := F_buckets_o_7.other W8 (Or.inr (slot_ne (Or.inl (hw _ (List.mem_of_getElem? (i := 188) rfl))) (Or.inr (hw _ (List.mem_of_getElem? (i := 116) rfl))) (by decide) (t := (.array .int)) (t' := (.object "java/util/List")) (by decide) (by decide)))
  have F_cache_o_8 := F_cache_o_7.other W8 (Or.inr (slot_ne (Or.inl (hw _ (List.mem_of_getElem? (i := 198) rfl))) (Or.inr (hw _ (List.mem_of_getElem? (i := 116) rfl))) (by decide) (t := (.array .int)) (t' := (.object "java/util/List")) (by decide) (by decide)))
  have F_cacheMask_o_8 := F_cacheMask_o_7.other W8 (Or.inr (slot_ne (Or.inl (hw _ (List.mem_of_getElem? (i := 200) rfl))) (Or.inr (hw _ (List.mem_of_getElem? (i := 116) rfl))) (by decide) (t := .int) (t' := (.object "java/util/List")) (by decide) (by decide)))
  have F_slotCount_o_8 := F_slotCount_o_7.other W8 (Or.inr (slot_ne (Or.inl (hw _ (List.mem_of_getElem? (i := 218) rfl))) (Or.inr (hw _ (List.mem_of_getElem? (i := 116) rfl))) (by decide) (t := .int) (t' := (.object "java/util/List")) (by decide) (by decide)))
  have HOld_8 := HOld_7.wr W8 g_o
  have F_quantifiers_o_8 := F_quantifiers_o_7.same W8
  have K8 := KK7.wr W8 (Or.inl (by simp))
  have N8 := Fr.snoc X8 N7 g_o
  have Z8 := Nat.le_trans Z7 (Keep.of_wr W8).1
  refine OFin.to (T8.setTop (mkF m 32 #[.val (.ref o), .val (.int lv), .val (.int (0 : Int32))] [])) st8 ?_
  refine OFin.to (T8.setTop (mkF m 33 #[.val (.ref o), .val (.int lv), .val (.int (0 : Int32))] [(.ref o)])) (fun _ kt => XS.aloadN X8.here hx rfl (hb hby d6_32) rfl rfl kt) ?_
  obtain ⟨T9, h9, X9, e9, E9, A9, D9, -, st9⟩ := newO X8 hx hZ hown (hw _ (List.mem_of_getElem? (i := 117) rfl)) (hw _ (List.mem_of_getElem? (i := 69) rfl)) (hw _ (List.mem_of_getElem? (i := 70) rfl)) e8 (g := (mkF m 33 #[.val (.ref o), .val (.int lv), .val (.int (0 : Int32))] [(.ref o)])) rfl (hb hby d6_33) (by decide) (by decide)
  obtain ⟨b9, g9⟩ : ∃ z, z = h8.size := ⟨_, rfl⟩
  rw [← g9] at A9 D9 st9
  have g_b9 : n0 ≤ b9 := by rw [g9]; exact Z8
  have ne_o_b9 : o ≠ b9 := by rw [g9]; exact Nat.ne_of_lt E_o_8.lt
  have sz_b9 : h0.size ≤ b9 := by rw [g9]; exact K8.1
  have E_o_9 := E_o_8.ext E9
  have F_lastQuantified_o_9 := F_lastQuantified_o_8.ext E9
  have F_renamings_o_9 := F_renamings_o_8.ext E9
  have F_frameOperations_o_9 := F_frameOperations_o_8.ext E9
  have F_frameFirsts_o_9 := F_frameFirsts_o_8.ext E9
  have F_frameSeconds_o_9 := F_frameSeconds_o_8.ext E9
  have F_frameExtras_o_9 := F_frameExtras_o_8.ext E9
  have F_frameLevels_o_9 := F_frameLevels_o_8.ext E9
  have F_frameStates_o_9 := F_frameStates_o_8.ext E9
  have F_results_o_9 := F_results_o_8.ext E9
  have F_walkPending_o_9 := F_walkPending_o_8.ext E9
  have F_walkVisited_o_9 := F_walkVisited_o_8.ext E9
  have F_walkMarks_o_9 := F_walkMarks_o_8.ext E9
  have F_levelCount_o_9 := F_levelCount_o_8.ext E9
  have F_collectionFloor_o_9 := F_collectionFloor_o_8.ext E9
  have F_collectionThreshold_o_9 := F_collectionThreshold_o_8.ext E9
  have F_capacity_o_9 := F_capacity_o_8.ext E9
  have F_slots_o_9 := F_slots_o_8.ext E9
  have F_buckets_o_9 := F_buckets_o_8.ext E9
  have F_cache_o_9 := F_cache_o_8.ext E9
  have F_cacheMask_o_9 := F_cacheMask_o_8.ext E9
  have F_slotCount_o_9 := F_slotCount_o_8.ext E9
  have HOld_9 := HOld_8.ext E9
  have Z9 := Nat.le_trans Z8 E9.1
  have K9 := K8.ext E9
  have E_b9 := A9
  have F_values_b9 : Fld Z h9 b9 "com/example/fixpoint_checker/fixpointchecker/IntList" "values" "[I" .null := D9 (Or.inl (hw _ (List.mem_of_getElem? (i := 80) rfl))) (ty := (.array .int)) (by decide)
  refine OFin.to (T9.setTop (mkF m 36 #[.val (.ref o), .val (.int lv), .val (.int (0 : Int32))] [(.ref b9), (.ref o)])) st9 ?_
  refine OFin.to (T9.setTop (mkF m 37 #[.val (.ref o), .val (.int lv), .val (.int (0 : Int32))] [(.ref b9), (.ref b9), (.ref o)])) (fun _ kt => XS.dup X9.here hx rfl (hb hby d6_36) rfl rfl kt) ?_
  obtain ⟨v10, T10, L10, hQ10, X10, st10⟩ := own_callN X9 hx hZ hown rfl (hw _ (List.mem_of_getElem? (i := 118) rfl)) (hw _ (List.mem_of_getElem? (i := 72) rfl)) (hw _ (List.mem_of_getElem? (i := 73) rfl)) (hw _ (List.mem_of_getElem? (i := 70) rfl)) (by decide) e9 (rm8 l Z a0 hw [] b9 h9 n0 Z9 g_b9 E_b9 F_values_b9  ) 2 (by decide) (by decide) (by decide) (by decide) (g := (mkF m 37 #[.val (.ref o), .val (.int lv), .val (.int (0 : Int32))] [(.ref b9), (.ref b9), (.ref o)])) rfl (by rw [hml]; rfl) (rest := [(.ref b9), (.ref o)]) (lenOf pd_1 rfl) rfl (by show 2 * 0 + _ ≤ _; exact Nat.le_of_eq rfl) (hb hby d6_37)
  obtain ⟨rfl, Kq10, Nq10⟩ := hQ10
  refine OFin.to (T10.setTop (mkF m 40 #[.val (.ref o), .val (.int lv), .val (.int (0 : Int32))] [(.ref b9), (.ref o)])) st10 ?_
  have N10 := Fr.app N8 Nq10
  have Z10 := Nat.le_trans Z9 Kq10.1
  have E_o_10 := E_o_9.keep Kq10
  have F_lastQuantified_o_10 := F_lastQuantified_o_9.keep Kq10 (ninS ne_o_b9 nin0)
  have F_renamings_o_10 := F_renamings_o_9.keep Kq10 (ninS ne_o_b9 nin0)
  have F_frameOperations_o_10 := F_frameOperations_o_9.keep Kq10 (ninS ne_o_b9 nin0)
  have F_frameFirsts_o_10 := F_frameFirsts_o_9.keep Kq10 (ninS ne_o_b9 nin0)
  have F_frameSeconds_o_10 := F_frameSeconds_o_9.keep Kq10 (ninS ne_o_b9 nin0)
  have F_frameExtras_o_10 := F_frameExtras_o_9.keep Kq10 (ninS ne_o_b9 nin0)
  have F_frameLevels_o_10 := F_frameLevels_o_9.keep Kq10 (ninS ne_o_b9 nin0)
  have F_frameStates_o_10 := F_frameStates_o_9.keep Kq10 (ninS ne_o_b9 nin0)
  have F_results_o_10 := F_results_o_9.keep Kq10 (ninS ne_o_b9 nin0)
  have F_walkPending_o_10 := F_walkPending_o_9.keep Kq10 (ninS ne_o_b9 nin0)
  have F_walkVisited_o_10 := F_walkVisited_o_9.keep Kq10 (ninS ne_o_b9 nin0)
  have F_walkMarks_o_10 := F_walkMarks_o_9.keep Kq10 (ninS ne_o_b9 nin0)
  have F_levelCount_o_10 := F_levelCount_o_9.keep Kq10 (ninS ne_o_b9 nin0)
  have F_collectionFloor_o_10 := F_collectionFloor_o_9.keep Kq10 (ninS ne_o_b9 nin0)
  have F_collectionThreshold_o_10 := F_collectionThreshold_o_9.keep Kq10 (ninS ne_o_b9 nin0)
  have F_capacity_o_10 := F_capacity_o_9.keep Kq10 (ninS ne_o_b9 nin0)
  have F_slots_o_10 := F_slots_o_9.keep Kq10 (ninS ne_o_b9 nin0)
  have F_buckets_o_10 := F_buckets_o_9.keep Kq10 (ninS ne_o_b9 nin0)
  have F_cache_o_10 := F_cache_o_9.keep Kq10 (ninS ne_o_b9 nin0)
  have F_cacheMask_o_10 := F_cacheMask_o_9.keep Kq10 (ninS ne_o_b9 nin0)
  have F_slotCount_o_10 := F_slotCount_o_9.keep Kq10 (ninS ne_o_b9 nin0)
  have HOld_10 := HOld_9.keep Kq10 (allS g_b9 all0)
  have E_b9_10 := E_b9.keep Kq10
  have KK10 := K9.trans Kq10 (fun x hx' => by cases List.mem_singleton.mp hx'; exact Or.inr sz_b9)
  obtain ⟨T11, h11, X11, e11, W11, st11⟩ := putF X10 hx hZ hown (host := "") (Or.inl (hw _ (List.mem_of_getElem? (i := 119) rfl))) Via.refl rfl F_lastQuantified_o_10 E_o_10 (Or.inr ⟨(hw _ (List.mem_of_getElem? (i := 120) rfl)), rfl, hnm⟩) (hw _ (List.mem_of_getElem? (i := 41) rfl)) (ty := (.object "com/example/fixpoint_checker/fixpointchecker/IntList")) (by decide) rfl rfl (g := (mkF m 40 #[.val (.ref o), .val (.int lv), .val (.int (0 : Int32))] [(.ref b9), (.ref o)])) rfl rfl (hb hby d6_40)
  have E_o_11 := E_o_10.wr W11
  have F_renamings_o_11 := F_renamings_o_10.other W11 (Or.inr (slot_ne (Or.inr (hw _ (List.mem_of_getElem? (i := 122) rfl))) (Or.inr (hw _ (List.mem_of_getElem? (i := 120) rfl))) (by decide) (t := (.object "java/util/List")) (t' := (.object "com/example/fixpoint_checker/fixpointchecker/IntList")) (by decide) (by decide)))
  have F_frameOperations_o_11 := F_frameOperations_o_10.other W11 (Or.inr (slot_ne (Or.inl (hw _ (List.mem_of_getElem? (i := 124) rfl))) (Or.inr (hw _ (List.mem_of_getElem? (i := 120) rfl))) (by decide) (t := (.array .int)) (t' := (.object "com/example/fixpoint_checker/fixpointchecker/IntList")) (by decide) (by decide)))
  have F_frameFirsts_o_11 := F_frameFirsts_o_10.other W11 (Or.inr (slot_ne (Or.inl (hw _ (List.mem_of_getElem? (i := 126) rfl))) (Or.inr (hw _ (List.mem_of_getElem? (i := 120) rfl))) (by decide) (t := (.array .int)) (t' := (.object "com/example/fixpoint_checker/fixpointchecker/IntList")) (by decide) (by decide)))
  have F_frameSeconds_o_11 := F_frameSeconds_o_10.other W11 (Or.inr (slot_ne (Or.inl (hw _ (List.mem_of_getElem? (i := 128) rfl))) (Or.inr (hw _ (List.mem_of_getElem? (i := 120) rfl))) (by decide) (t := (.array .int)) (t' := (.object "com/example/fixpoint_checker/fixpointchecker/IntList")) (by decide) (by decide)))
  have F_frameExtras_o_11 := F_frameExtras_o_10.other W11 (Or.inr (slot_ne (Or.inl (hw _ (List.mem_of_getElem? (i := 130) rfl))) (Or.inr (hw _ (List.mem_of_getElem? (i := 120) rfl))) (by decide) (t := (.array .int)) (t' := (.object "com/example/fixpoint_checker/fixpointchecker/IntList")) (by decide) (by decide)))
  have F_frameLevels_o_11 := F_frameLevels_o_10.other W11 (Or.inr (slot_ne (Or.inl (hw _ (List.mem_of_getElem? (i := 132) rfl))) (Or.inr (hw _ (List.mem_of_getElem? (i := 120) rfl))) (by decide) (t := (.array .int)) (t' := (.object "com/example/fixpoint_checker/fixpointchecker/IntList")) (by decide) (by decide)))
  have F_frameStates_o_11 := F_frameStates_o_10.other W11 (Or.inr (slot_ne (Or.inl (hw _ (List.mem_of_getElem? (i := 134) rfl))) (Or.inr (hw _ (List.mem_of_getElem? (i := 120) rfl))) (by decide) (t := (.array .int)) (t' := (.object "com/example/fixpoint_checker/fixpointchecker/IntList")) (by decide) (by decide)))
  have F_results_o_11 := F_results_o_10.other W11 (Or.inr (slot_ne (Or.inr (hw _ (List.mem_of_getElem? (i := 136) rfl))) (Or.inr (hw _ (List.mem_of_getElem? (i := 120) rfl))) (by decide) (t := (.object "com/example/fixpoint_checker/fixpointchecker/IntList")) (t' := (.object "com/example/fixpoint_checker/fixpointchecker/IntList")) (by decide) (by decide)))
  have F_walkPending_o_11 := F_walkPending_o_10.other W11 (Or.inr (slot_ne (Or.inr (hw _ (List.mem_of_getElem? (i := 138) rfl))) (Or.inr (hw _ (List.mem_of_getElem? (i := 120) rfl))) (by decide) (t := (.object "com/example/fixpoint_checker/fixpointchecker/IntList")) (t' := (.object "com/example/fixpoint_checker/fixpointchecker/IntList")) (by decide) (by decide)))
  have F_walkVisited_o_11 := F_walkVisited_o_10.other W11 (Or.inr (slot_ne (Or.inr (hw _ (List.mem_of_getElem? (i := 140) rfl))) (Or.inr (hw _ (List.mem_of_getElem? (i := 120) rfl))) (by decide) (t := (.object "com/example/fixpoint_checker/fixpointchecker/IntList")) (t' := (.object "com/example/fixpoint_checker/fixpointchecker/IntList")) (by decide) (by decide)))
  have F_walkMarks_o_11 := F_walkMarks_o_10.other W11 (Or.inr (slot_ne (Or.inr (hw _ (List.mem_of_getElem? (i := 163) rfl))) (Or.inr (hw _ (List.mem_of_getElem? (i := 120) rfl))) (by decide) (t := (.object "java/util/BitSet")) (t' := (.object "com/example/fixpoint_checker/fixpointchecker/IntList")) (by decide) (by decide)))
  have F_levelCount_o_11 := F_levelCount_o_10.other W11 (Or.inr (slot_ne (Or.inr (hw _ (List.mem_of_getElem? (i := 165) rfl))) (Or.inr (hw _ (List.mem_of_getElem? (i := 120) rfl))) (by decide) (t := .int) (t' := (.object "com/example/fixpoint_checker/fixpointchecker/IntList")) (by decide) (by decide)))
  have F_collectionFloor_o_11 := F_collectionFloor_o_10.other W11 (Or.inr (slot_ne (Or.inr (hw _ (List.mem_of_getElem? (i := 167) rfl))) (Or.inr (hw _ (List.mem_of_getElem? (i := 120) rfl))) (by decide) (t := .int) (t' := (.object "com/example/fixpoint_checker/fixpointchecker/IntList")) (by decide) (by decide)))
  have F_collectionThreshold_o_11 := F_collectionThreshold_o_10.other W11 (Or.inr (slot_ne (Or.inl (hw _ (List.mem_of_getElem? (i := 169) rfl))) (Or.inr (hw _ (List.mem_of_getElem? (i := 120) rfl))) (by decide) (t := .int) (t' := (.object "com/example/fixpoint_checker/fixpointchecker/IntList")) (by decide) (by decide)))
  have F_capacity_o_11 := F_capacity_o_10.other W11 (Or.inr (slot_ne (Or.inl (hw _ (List.mem_of_getElem? (i := 175) rfl))) (Or.inr (hw _ (List.mem_of_getElem? (i := 120) rfl))) (by decide) (t := .int) (t' := (.object "com/example/fixpoint_checker/fixpointchecker/IntList")) (by decide) (by decide)))
  have F_slots_o_11 := F_slots_o_10.other W11 (Or.inr (slot_ne (Or.inl (hw _ (List.mem_of_getElem? (i := 177) rfl))) (Or.inr (hw _ (List.mem_of_getElem? (i := 120) rfl))) (by decide) (t := (.array .long)) (t' := (.object "com/example/fixpoint_checker/fixpointchecker/IntList")) (by decide) (by decide)))
  have F_buckets_o_11 := F_buckets_o_10.other W11 (Or.inr (slot_ne (Or.inl (hw _ (List.mem_of_getElem? (i := 188) rfl))) (Or.inr (hw _ (List.mem_of_getElem? (i := 120) rfl))) (by decide) (t := (.array .int)) (t' := (.object "com/example/fixpoint_checker/fixpointchecker/IntList")) (by decide) (by decide)))
  have F_cache_o_11 := F_cache_o_10.other W11 (Or.inr (slot_ne (Or.inl (hw _ (List.mem_of_getElem? (i := 198) rfl))) (Or.inr (hw _ (List.mem_of_getElem? (i := 120) rfl))) (by decide) (t := (.array .int)) (t' := (.object "com/example/fixpoint_checker/fixpointchecker/IntList")) (by decide) (by decide)))
  have F_cacheMask_o_11 := F_cacheMask_o_10.other W11 (Or.inr (slot_ne (Or.inl (hw _ (List.mem_of_getElem? (i := 200) rfl))) (Or.inr (hw _ (List.mem_of_getElem? (i := 120) rfl))) (by decide) (t := .int) (t' := (.object "com/example/fixpoint_checker/fixpointchecker/IntList")) (by decide) (by decide)))
  have F_slotCount_o_11 := F_slotCount_o_10.other W11 (Or.inr (slot_ne (Or.inl (hw _ (List.mem_of_getElem? (i := 218) rfl))) (Or.inr (hw _ (List.mem_of_getElem? (i := 120) rfl))) (by decide) (t := .int) (t' := (.object "com/example/fixpoint_checker/fixpointchecker/IntList")) (by decide) (by decide)))
  have HOld_11 := HOld_10.wr W11 g_o
  have F_lastQuantified_o_11 := F_lastQuantified_o_10.same W11
  have K11 := KK10.wr W11 (Or.inl (by simp))
  have N11 := Fr.snoc X11 N10 g_o
  have Z11 := Nat.le_trans Z10 (Keep.of_wr W11).1
  refine OFin.to (T11.setTop (mkF m 43 #[.val (.ref o), .val (.int lv), .val (.int (0 : Int32))] [])) st11 ?_
  refine OFin.to (T11.setTop (mkF m 44 #[.val (.ref o), .val (.int lv), .val (.int (0 : Int32))] [(.ref o)])) (fun _ kt => XS.aloadN X11.here hx rfl (hb hby d6_43) rfl rfl kt) ?_
  obtain ⟨T12, h12, X12, e12, E12, A12, D12, -, st12⟩ := newO X11 hx hZ hown (hw _ (List.mem_of_getElem? (i := 91) rfl)) (hw _ (List.mem_of_getElem? (i := 92) rfl)) (hw _ (List.mem_of_getElem? (i := 93) rfl)) e11 (g := (mkF m 44 #[.val (.ref o), .val (.int lv), .val (.int (0 : Int32))] [(.ref o)])) rfl (hb hby d6_44) (by decide) (by decide)
  obtain ⟨b12, g12⟩ : ∃ z, z = h11.size := ⟨_, rfl⟩
  rw [← g12] at A12 D12 st12
  have g_b12 : n0 ≤ b12 := by rw [g12]; exact Z11
  have ne_o_b12 : o ≠ b12 := by rw [g12]; exact Nat.ne_of_lt E_o_11.lt
  have sz_b12 : h0.size ≤ b12 := by rw [g12]; exact K11.1
  have E_o_12 := E_o_11.ext E12
  have F_renamings_o_12 := F_renamings_o_11.ext E12
  have F_frameOperations_o_12 := F_frameOperations_o_11.ext E12
  have F_frameFirsts_o_12 := F_frameFirsts_o_11.ext E12
  have F_frameSeconds_o_12 := F_frameSeconds_o_11.ext E12
  have F_frameExtras_o_12 := F_frameExtras_o_11.ext E12
  have F_frameLevels_o_12 := F_frameLevels_o_11.ext E12
  have F_frameStates_o_12 := F_frameStates_o_11.ext E12
  have F_results_o_12 := F_results_o_11.ext E12
  have F_walkPending_o_12 := F_walkPending_o_11.ext E12
  have F_walkVisited_o_12 := F_walkVisited_o_11.ext E12
  have F_walkMarks_o_12 := F_walkMarks_o_11.ext E12
  have F_levelCount_o_12 := F_levelCount_o_11.ext E12
  have F_collectionFloor_o_12 := F_collectionFloor_o_11.ext E12
  have F_collectionThreshold_o_12 := F_collectionThreshold_o_11.ext E12
  have F_capacity_o_12 := F_capacity_o_11.ext E12
  have F_slots_o_12 := F_slots_o_11.ext E12
  have F_buckets_o_12 := F_buckets_o_11.ext E12
  have F_cache_o_12 := F_cache_o_11.ext E12
  have F_cacheMask_o_12 := F_cacheMask_o_11.ext E12
  have F_slotCount_o_12 := F_slotCount_o_11.ext E12
  have HOld_12 := HOld_11.ext E12
  have Z12 := Nat.le_trans Z11 E12.1
  have K12 := K11.ext E12
  have E_b12 := A12
  have F_modCount_b12 : Fld Z h12 b12 "java/util/AbstractList" "modCount" "I" (.int (0 : Int32)) := D12 (Or.inl (hw _ (List.mem_of_getElem? (i := 111) rfl))) (ty := .int) (by decide)
  have F_elementData_b12 : Fld Z h12 b12 "java/util/ArrayList" "elementData" "[Ljava/lang/Object;" .null := D12 (Or.inl (hw _ (List.mem_of_getElem? (i := 114) rfl))) (ty := (.array (.object "java/lang/Object"))) (by decide)
  refine OFin.to (T12.setTop (mkF m 47 #[.val (.ref o), .val (.int lv), .val (.int (0 : Int32))] [(.ref b12), (.ref o)])) st12 ?_
  refine OFin.to (T12.setTop (mkF m 48 #[.val (.ref o), .val (.int lv), .val (.int (0 : Int32))] [(.ref b12), (.ref b12), (.ref o)])) (fun _ kt => XS.dup X12.here hx rfl (hb hby d6_47) rfl rfl kt) ?_
  obtain ⟨v13, T13, L13, hQ13, X13, st13⟩ := own_callN X12 hx hZ hown rfl (hw _ (List.mem_of_getElem? (i := 94) rfl)) (hw _ (List.mem_of_getElem? (i := 95) rfl)) (hw _ (List.mem_of_getElem? (i := 96) rfl)) (hw _ (List.mem_of_getElem? (i := 93) rfl)) (by decide) e12 (rm10 l Z a0 hw [] b12 h12 n0 Z12 g_b12 E_b12 F_modCount_b12 F_elementData_b12 aS HS HOld_12 ) 2 (by decide) (by decide) (by decide) (by decide) (g := (mkF m 48 #[.val (.ref o), .val (.int lv), .val (.int (0 : Int32))] [(.ref b12), (.ref b12), (.ref o)])) rfl (by rw [hml]; rfl) (rest := [(.ref b12), (.ref o)]) (lenOf pd_1 rfl) rfl (by show 2 * 0 + _ ≤ _; exact Nat.le_of_eq rfl) (hb hby d6_48)
  obtain ⟨rfl, Kq13, Nq13⟩ := hQ13
  refine OFin.to (T13.setTop (mkF m 51 #[.val (.ref o), .val (.int lv), .val (.int (0 : Int32))] [(.ref b12), (.ref o)])) st13 ?_
  have N13 := Fr.app N11 Nq13
  have Z13 := Nat.le_trans Z12 Kq13.1
  have E_o_13 := E_o_12.keep Kq13
  have F_renamings_o_13 := F_renamings_o_12.keep Kq13 (ninS ne_o_b12 nin0)
  have F_frameOperations_o_13 := F_frameOperations_o_12.keep Kq13 (ninS ne_o_b12 nin0)
  have F_frameFirsts_o_13 := F_frameFirsts_o_12.keep Kq13 (ninS ne_o_b12 nin0)
  have F_frameSeconds_o_13 := F_frameSeconds_o_12.keep Kq13 (ninS ne_o_b12 nin0)
  have F_frameExtras_o_13 := F_frameExtras_o_12.keep Kq13 (ninS ne_o_b12 nin0)
  have F_frameLevels_o_13 := F_frameLevels_o_12.keep Kq13 (ninS ne_o_b12 nin0)
  have F_frameStates_o_13 := F_frameStates_o_12.keep Kq13 (ninS ne_o_b12 nin0)
  have F_results_o_13 := F_results_o_12.keep Kq13 (ninS ne_o_b12 nin0)
  have F_walkPending_o_13 := F_walkPending_o_12.keep Kq13 (ninS ne_o_b12 nin0)
  have F_walkVisited_o_13 := F_walkVisited_o_12.keep Kq13 (ninS ne_o_b12 nin0)
  have F_walkMarks_o_13 := F_walkMarks_o_12.keep Kq13 (ninS ne_o_b12 nin0)
  have F_levelCount_o_13 := F_levelCount_o_12.keep Kq13 (ninS ne_o_b12 nin0)
  have F_collectionFloor_o_13 := F_collectionFloor_o_12.keep Kq13 (ninS ne_o_b12 nin0)
  have F_collectionThreshold_o_13 := F_collectionThreshold_o_12.keep Kq13 (ninS ne_o_b12 nin0)
  have F_capacity_o_13 := F_capacity_o_12.keep Kq13 (ninS ne_o_b12 nin0)
  have F_slots_o_13 := F_slots_o_12.keep Kq13 (ninS ne_o_b12 nin0)
  have F_buckets_o_13 := F_buckets_o_12.keep Kq13 (ninS ne_o_b12 nin0)
  have F_cache_o_13 := F_cache_o_12.keep Kq13 (ninS ne_o_b12 nin0)
  have F_cacheMask_o_13 := F_cacheMask_o_12.keep Kq13 (ninS ne_o_b12 nin0)
  have F_slotCount_o_13 := F_slotCount_o_12.keep Kq13 (ninS ne_o_b12 nin0)
  have HOld_13 := HOld_12.keep Kq13 (allS g_b12 all0)
  have E_b12_13 := E_b12.keep Kq13
  have KK13 := K12.trans Kq13 (fun x hx' => by cases List.mem_singleton.mp hx'; exact Or.inr sz_b12)
  obtain ⟨T14, h14, X14, e14, W14, st14⟩ := putF X13 hx hZ hown (host := "") (Or.inl (hw _ (List.mem_of_getElem? (i := 121) rfl))) Via.refl rfl F_renamings_o_13 E_o_13 (Or.inr ⟨(hw _ (List.mem_of_getElem? (i := 122) rfl)), rfl, hnm⟩) (hw _ (List.mem_of_getElem? (i := 41) rfl)) (ty := (.object "java/util/List")) (by decide) rfl rfl (g := (mkF m 51 #[.val (.ref o), .val (.int lv), .val (.int (0 : Int32))] [(.ref b12), (.ref o)])) rfl rfl (hb hby d6_51)
  have E_o_14 := E_o_13.wr W14
  have F_frameOperations_o_14 := F_frameOperations_o_13.other W14 (Or.inr (slot_ne (Or.inl (hw _ (List.mem_of_getElem? (i := 124) rfl))) (Or.inr (hw _ (List.mem_of_getElem? (i := 122) rfl))) (by decide) (t := (.array .int)) (t' := (.object "java/util/List")) (by decide) (by decide)))
  have F_frameFirsts_o_14 := F_frameFirsts_o_13.other W14 (Or.inr (slot_ne (Or.inl (hw _ (List.mem_of_getElem? (i := 126) rfl))) (Or.inr (hw _ (List.mem_of_getElem? (i := 122) rfl))) (by decide) (t := (.array .int)) (t' := (.object "java/util/List")) (by decide) (by decide)))
  have F_frameSeconds_o_14 := F_frameSeconds_o_13.other W14 (Or.inr (slot_ne (Or.inl (hw _ (List.mem_of_getElem? (i := 128) rfl))) (Or.inr (hw _ (List.mem_of_getElem? (i := 122) rfl))) (by decide) (t := (.array .int)) (t' := (.object "java/util/List")) (by decide) (by decide)))
  have F_frameExtras_o_14 := F_frameExtras_o_13.other W14 (Or.inr (slot_ne (Or.inl (hw _ (List.mem_of_getElem? (i := 130) rfl))) (Or.inr (hw _ (List.mem_of_getElem? (i := 122) rfl))) (by decide) (t := (.array .int)) (t' := (.object "java/util/List")) (by decide) (by decide)))
  have F_frameLevels_o_14 := F_frameLevels_o_13.other W14 (Or.inr (slot_ne (Or.inl (hw _ (List.mem_of_getElem? (i := 132) rfl))) (Or.inr (hw _ (List.mem_of_getElem? (i := 122) rfl))) (by decide) (t := (.array .int)) (t' := (.object "java/util/List")) (by decide) (by decide)))
  have F_frameStates_o_14 := F_frameStates_o_13.other W14 (Or.inr (slot_ne (Or.inl (hw _ (List.mem_of_getElem? (i := 134) rfl))) (Or.inr (hw _ (List.mem_of_getElem? (i := 122) rfl))) (by decide) (t := (.array .int)) (t' := (.object "java/util/List")) (by decide) (by decide)))
  have F_results_o_14 := F_results_o_13.other W14 (Or.inr (slot_ne (Or.inr (hw _ (List.mem_of_getElem? (i := 136) rfl))) (Or.inr (hw _ (List.mem_of_getElem? (i := 122) rfl))) (by decide) (t := (.object "com/example/fixpoint_checker/fixpointchecker/IntList")) (t' := (.object "java/util/List")) (by decide) (by decide)))
  have F_walkPending_o_14 := F_walkPending_o_13.other W14 (Or.inr (slot_ne (Or.inr (hw _ (List.mem_of_getElem? (i := 138) rfl))) (Or.inr (hw _ (List.mem_of_getElem? (i := 122) rfl))) (by decide) (t := (.object "com/example/fixpoint_checker/fixpointchecker/IntList")) (t' := (.object "java/util/List")) (by decide) (by decide)))
  have F_walkVisited_o_14 := F_walkVisited_o_13.other W14 (Or.inr (slot_ne (Or.inr (hw _ (List.mem_of_getElem? (i := 140) rfl))) (Or.inr (hw _ (List.mem_of_getElem? (i := 122) rfl))) (by decide) (t := (.object "com/example/fixpoint_checker/fixpointchecker/IntList")) (t' := (.object "java/util/List")) (by decide) (by decide)))
  have F_walkMarks_o_14 := F_walkMarks_o_13.other W14 (Or.inr (slot_ne (Or.inr (hw _ (List.mem_of_getElem? (i := 163) rfl))) (Or.inr (hw _ (List.mem_of_getElem? (i := 122) rfl))) (by decide) (t := (.object "java/util/BitSet")) (t' := (.object "java/util/List")) (by decide) (by decide)))
  have F_levelCount_o_14 := F_levelCount_o_13.other W14 (Or.inr (slot_ne (Or.inr (hw _ (List.mem_of_getElem? (i := 165) rfl))) (Or.inr (hw _ (List.mem_of_getElem? (i := 122) rfl))) (by decide) (t := .int) (t' := (.object "java/util/List")) (by decide) (by decide)))
  have F_collectionFloor_o_14 := F_collectionFloor_o_13.other W14 (Or.inr (slot_ne (Or.inr (hw _ (List.mem_of_getElem? (i := 167) rfl))) (Or.inr (hw _ (List.mem_of_getElem? (i := 122) rfl))) (by decide) (t := .int) (t' := (.object "java/util/List")) (by decide) (by decide)))
  have F_collectionThreshold_o_14 := F_collectionThreshold_o_13.other W14 (Or.inr (slot_ne (Or.inl (hw _ (List.mem_of_getElem? (i := 169) rfl))) (Or.inr (hw _ (List.mem_of_getElem? (i := 122) rfl))) (by decide) (t := .int) (t' := (.object "java/util/List")) (by decide) (by decide)))
  have F_capacity_o_14 := F_capacity_o_13.other W14 (Or.inr (slot_ne (Or.inl (hw _ (List.mem_of_getElem? (i := 175) rfl))) (Or.inr (hw _ (List.mem_of_getElem? (i := 122) rfl))) (by decide) (t := .int) (t' := (.object "java/util/List")) (by decide) (by decide)))
  have F_slots_o_14 := F_slots_o_13.other W14 (Or.inr (slot_ne (Or.inl (hw _ (List.mem_of_getElem? (i := 177) rfl))) (Or.inr (hw _ (List.mem_of_getElem? (i := 122) rfl))) (by decide) (t := (.array .long)) (t' := (.object "java/util/List")) (by decide) (by decide)))
  have F_buckets_o_14 := F_buckets_o_13.other W14 (Or.inr (slot_ne (Or.inl (hw _ (List.mem_of_getElem? (i := 188) rfl))) (Or.inr (hw _ (List.mem_of_getElem? (i := 122) rfl))) (by decide) (t := (.array .int)) (t' := (.object "java/util/List")) (by decide) (by decide)))
  have F_cache_o_14 := F_cache_o_13.other W14 (Or.inr (slot_ne (Or.inl (hw _ (List.mem_of_getElem? (i := 198) rfl))) (Or.inr (hw _ (List.mem_of_getElem? (i := 122) rfl))) (by decide) (t := (.array .int)) (t' := (.object "java/util/List")) (by decide) (by decide)))
  have F_cacheMask_o_14 := F_cacheMask_o_13.other W14 (Or.inr (slot_ne (Or.inl (hw _ (List.mem_of_getElem? (i := 200) rfl))) (Or.inr (hw _ (List.mem_of_getElem? (i := 122) rfl))) (by decide) (t := .int) (t' := (.object "java/util/List")) (by decide) (by decide)))
  have F_slotCount_o_14 := F_slotCount_o_13.other W14 (Or.inr (slot_ne (Or.inl (hw _ (List.mem_of_getElem? (i := 218) rfl))) (Or.inr (hw _ (List.mem_of_getElem? (i := 122) rfl))) (by decide) (t := .int) (t' := (.object "java/util/List")) (by decide) (by decide)))
  have HOld_14 := HOld_13.wr W14 g_o
  have F_renamings_o_14 := F_renamings_o_13.same W14
  have K14 := KK13.wr W14 (Or.inl (by simp))
  have N14 := Fr.snoc X14 N13 g_o
  have Z14 := Nat.le_trans Z13 (Keep.of_wr W14).1
  refine OFin.to (T14.setTop (mkF m 54 #[.val (.ref o), .val (.int lv), .val (.int (0 : Int32))] [])) st14 ?_
  refine OFin.to (T14.setTop (mkF m 55 #[.val (.ref o), .val (.int lv), .val (.int (0 : Int32))] [(.ref o)])) (fun _ kt => XS.aloadN X14.here hx rfl (hb hby d6_54) rfl rfl kt) ?_
  refine OFin.to (T14.setTop (mkF m 57 #[.val (.ref o), .val (.int lv), .val (.int (0 : Int32))] [(.int (64 : Int32)), (.ref o)])) (fun _ kt => XS.bipush X14.here hx rfl (hb hby d6_55) kt) ?_
  obtain ⟨T15, h15, X15, e15, E15, V15, st15⟩ := own_newP X14 hx hZ (hw _ (List.mem_of_getElem? (i := 59) rfl)) e14 (g := (mkF m 57 #[.val (.ref o), .val (.int lv), .val (.int (0 : Int32))] [(.int (64 : Int32)), (.ref o)])) rfl (hb hby d6_57) rfl (by decide) (64) rfl (cap := 64) (Nat.le_refl _) (by decide) (by decide) (by decide)
  obtain ⟨b15, g15⟩ : ∃ z, z = h14.size := ⟨_, rfl⟩
  rw [← g15] at V15 st15
  rw [own_rep] at V15
  have g_b15 : n0 ≤ b15 := by rw [g15]; exact Z14
  have ne_o_b15 : o ≠ b15 := by rw [g15]; exact Nat.ne_of_lt E_o_14.lt
  have sz_b15 : h0.size ≤ b15 := by rw [g15]; exact K14.1
  have E_o_15 := E_o_14.ext E15
  have F_frameOperations_o_15 := F_frameOperations_o_14.ext E15
  have F_frameFirsts_o_15 := F_frameFirsts_o_14.ext E15
  have F_frameSeconds_o_15 := F_frameSeconds_o_14.ext E15
  have F_frameExtras_o_15 := F_frameExtras_o_14.ext E15
  have F_frameLevels_o_15 := F_frameLevels_o_14.ext E15
  have F_frameStates_o_15 := F_frameStates_o_14.ext E15
  have F_results_o_15 := F_results_o_14.ext E15
  have F_walkPending_o_15 := F_walkPending_o_14.ext E15
  have F_walkVisited_o_15 := F_walkVisited_o_14.ext E15
  have F_walkMarks_o_15 := F_walkMarks_o_14.ext E15
  have F_levelCount_o_15 := F_levelCount_o_14.ext E15
  have F_collectionFloor_o_15 := F_collectionFloor_o_14.ext E15
  have F_collectionThreshold_o_15 := F_collectionThreshold_o_14.ext E15
  have F_capacity_o_15 := F_capacity_o_14.ext E15
  have F_slots_o_15 := F_slots_o_14.ext E15
  have F_buckets_o_15 := F_buckets_o_14.ext E15
  have F_cache_o_15 := F_cache_o_14.ext E15
  have F_cacheMask_o_15 := F_cacheMask_o_14.ext E15
  have F_slotCount_o_15 := F_slotCount_o_14.ext E15
  have HOld_15 := HOld_14.ext E15
  have Z15 := Nat.le_trans Z14 E15.1
  have K15 := K14.ext E15
  refine OFin.to (T15.setTop (mkF m 59 #[.val (.ref o), .val (.int lv), .val (.int (0 : Int32))] [(.ref b15), (.ref o)])) st15 ?_
  obtain ⟨T16, h16, X16, e16, W16, st16⟩ := putF X15 hx hZ hown (host := "") (Or.inl (hw _ (List.mem_of_getElem? (i := 123) rfl))) Via.refl e15 F_frameOperations_o_15 E_o_15 (Or.inl (hw _ (List.mem_of_getElem? (i := 124) rfl))) (hw _ (List.mem_of_getElem? (i := 41) rfl)) (ty := (.array .int)) (by decide) rfl rfl (g := (mkF m 59 #[.val (.ref o), .val (.int lv), .val (.int (0 : Int32))] [(.ref b15), (.ref o)])) rfl rfl (hb hby d6_59)
  have E_o_16 := E_o_15.wr W16
  have F_frameFirsts_o_16 := F_frameFirsts_o_15.other W16 (Or.inr (slot_ne (Or.inl (hw _ (List.mem_of_getElem? (i := 126) rfl))) (Or.inl (hw _ (List.mem_of_getElem? (i := 124) rfl))) (by decide) (t := (.array .int)) (t' := (.array .int)) (by decide) (by decide)))
  have F_frameSeconds_o_16 := F_frameSeconds_o_15.other W16 (Or.inr (slot_ne (Or.inl (hw _ (List.mem_of_getElem? (i := 128) rfl))) (Or.inl (hw _ (List.mem_of_getElem? (i := 124) rfl))) (by decide) (t := (.array .int)) (t' := (.array .int)) (by decide) (by decide)))
  have F_frameExtras_o_16 := F_frameExtras_o_15.other W16 (Or.inr (slot_ne (Or.inl (hw _ (List.mem_of_getElem? (i := 130) rfl))) (Or.inl (hw _ (List.mem_of_getElem? (i := 124) rfl))) (by decide) (t := (.array .int)) (t' := (.array .int)) (by decide) (by decide)))
  have F_frameLevels_o_16 := F_frameLevels_o_15.other W16 (Or.inr (slot_ne (Or.inl (hw _ (List.mem_of_getElem? (i := 132) rfl))) (Or.inl (hw _ (List.mem_of_getElem? (i := 124) rfl))) (by decide) (t := (.array .int)) (t' := (.array .int)) (by decide) (by decide)))
  have F_frameStates_o_16 := F_frameStates_o_15.other W16 (Or.inr (slot_ne (Or.inl (hw _ (List.mem_of_getElem? (i := 134) rfl))) (Or.inl (hw _ (List.mem_of_getElem? (i := 124) rfl))) (by decide) (t := (.array .int)) (t' := (.array .int)) (by decide) (by decide)))
  have F_results_o_16 := F_results_o_15.other W16 (Or.inr (slot_ne (Or.inr (hw _ (List.mem_of_getElem? (i := 136) rfl))) (Or.inl (hw _ (List.mem_of_getElem? (i := 124) rfl))) (by decide) (t := (.object "com/example/fixpoint_checker/fixpointchecker/IntList")) (t' := (.array .int)) (by decide) (by decide)))
  have F_walkPending_o_16 := F_walkPending_o_15.other W16 (Or.inr (slot_ne (Or.inr (hw _ (List.mem_of_getElem? (i := 138) rfl))) (Or.inl (hw _ (List.mem_of_getElem? (i := 124) rfl))) (by decide) (t := (.object "com/example/fixpoint_checker/fixpointchecker/IntList")) (t' := (.array .int)) (by decide) (by decide)))
  have F_walkVisited_o_16 := F_walkVisited_o_15.other W16 (Or.inr (slot_ne (Or.inr (hw _ (List.mem_of_getElem? (i := 140) rfl))) (Or.inl (hw _ (List.mem_of_getElem? (i := 124) rfl))) (by decide) (t := (.object "com/example/fixpoint_checker/fixpointchecker/IntList")) (t' := (.array .int)) (by decide) (by decide)))
  have F_walkMarks_o_16 := F_walkMarks_o_15.other W16 (Or.inr (slot_ne (Or.inr (hw _ (List.mem_of_getElem? (i := 163) rfl))) (Or.inl (hw _ (List.mem_of_getElem? (i := 124) rfl))) (by decide) (t := (.object "java/util/BitSet")) (t' := (.array .int)) (by decide) (by decide)))
  have F_levelCount_o_16 := F_levelCount_o_15.other W16 (Or.inr (slot_ne (Or.inr (hw _ (List.mem_of_getElem? (i := 165) rfl))) (Or.inl (hw _ (List.mem_of_getElem? (i := 124) rfl))) (by decide) (t := .int) (t' := (.array .int)) (by decide) (by decide)))
  have F_collectionFloor_o_16 := F_collectionFloor_o_15.other W16 (Or.inr (slot_ne (Or.inr (hw _ (List.mem_of_getElem? (i := 167) rfl))) (Or.inl (hw _ (List.mem_of_getElem? (i := 124) rfl))) (by decide) (t := .int) (t' := (.array .int)) (by decide) (by decide)))
  have F_collectionThreshold_o_16 := F_collectionThreshold_o_15.other W16 (Or.inr (slot_ne (Or.inl (hw _ (List.mem_of_getElem? (i := 169) rfl))) (Or.inl (hw _ (List.mem_of_getElem? (i := 124) rfl))) (by decide) (t := .int) (t' := (.array .int)) (by decide) (by decide)))
  have F_capacity_o_16 := F_capacity_o_15.other W16 (Or.inr (slot_ne (Or.inl (hw _ (List.mem_of_getElem? (i := 175) rfl))) (Or.inl (hw _ (List.mem_of_getElem? (i := 124) rfl))) (by decide) (t := .int) (t' := (.array .int)) (by decide) (by decide)))
  have F_slots_o_16 := F_slots_o_15.other W16 (Or.inr (slot_ne (Or.inl (hw _ (List.mem_of_getElem? (i := 177) rfl))) (Or.inl (hw _ (List.mem_of_getElem? (i := 124) rfl))) (by decide) (t := (.array .long)) (t' := (.array .int)) (by decide) (by decide)))
  have F_buckets_o_16 := F_buckets_o_15.other W16 (Or.inr (slot_ne (Or.inl (hw _ (List.mem_of_getElem? (i := 188) rfl))) (Or.inl (hw _ (List.mem_of_getElem? (i := 124) rfl))) (by decide) (t := (.array .int)) (t' := (.array .int)) (by decide) (by decide)))
  have F_cache_o_16 := F_cache_o_15.other W16 (Or.inr (slot_ne (Or.inl (hw _ (List.mem_of_getElem? (i := 198) rfl))) (Or.inl (hw _ (List.mem_of_getElem? (i := 124) rfl))) (by decide) (t := (.array .int)) (t' := (.array .int)) (by decide) (by decide)))
  have F_cacheMask_o_16 := F_cacheMask_o_15.other W16 (Or.inr (slot_ne (Or.inl (hw _ (List.mem_of_getElem? (i := 200) rfl))) (Or.inl (hw _ (List.mem_of_getElem? (i := 124) rfl))) (by decide) (t := .int) (t' := (.array .int)) (by decide) (by decide)))
  have F_slotCount_o_16 := F_slotCount_o_15.other W16 (Or.inr (slot_ne (Or.inl (hw _ (List.mem_of_getElem? (i := 218) rfl))) (Or.inl (hw _ (List.mem_of_getElem? (i := 124) rfl))) (by decide) (t := .int) (t' := (.array .int)) (by decide) (by decide)))
  have HOld_16 := HOld_15.wr W16 g_o
  have F_frameOperations_o_16 := F_frameOperations_o_15.same W16
  have K16 := K15.wr W16 (Or.inl (by simp))
  have N16 := Fr.snoc X16 N14 g_o
  have Z16 := Nat.le_trans Z15 (Keep.of_wr W16).1
  refine OFin.to (T16.setTop (mkF m 62 #[.val (.ref o), .val (.int lv), .val (.int (0 : Int32))] [])) st16 ?_
  refine OFin.to (T16.setTop (mkF m 63 #[.val (.ref o), .val (.int lv), .val (.int (0 : Int32))] [(.ref o)])) (fun _ kt => XS.aloadN X16.here hx rfl (hb hby d6_62) rfl rfl kt) ?_
  refine OFin.to (T16.setTop (mkF m 65 #[.val (.ref o), .val (.int lv), .val (.int (0 : Int32))] [(.int (64 : Int32)), (.ref o)])) (fun _ kt => XS.bipush X16.here hx rfl (hb hby d6_63) kt) ?_
  obtain ⟨T17, h17, X17, e17, E17, V17, st17⟩ := own_newP X16 hx hZ (hw _ (List.mem_of_getElem? (i := 59) rfl)) e16 (g := (mkF m 65 #[.val (.ref o), .val (.int lv), .val (.int (0 : Int32))] [(.int (64 : Int32)), (.ref o)])) rfl (hb hby d6_65) rfl (by decide) (64) rfl (cap := 64) (Nat.le_refl _) (by decide) (by decide) (by decide)
  obtain ⟨b17, g17⟩ : ∃ z, z = h16.size := ⟨_, rfl⟩
  rw [← g17] at V17 st17
  rw [own_rep] at V17
  have g_b17 : n0 ≤ b17 := by rw [g17]; exact Z16
  have ne_o_b17 : o ≠ b17 := by rw [g17]; exact Nat.ne_of_lt E_o_16.lt
  have sz_b17 : h0.size ≤ b17 := by rw [g17]; exact K16.1
  have E_o_17 := E_o_16.ext E17
  have F_frameFirsts_o_17 := F_frameFirsts_o_16.ext E17
  have F_frameSeconds_o_17 := F_frameSeconds_o_16.ext E17
  have F_frameExtras_o_17 := F_frameExtras_o_16.ext E17
  have F_frameLevels_o_17 := F_frameLevels_o_16.ext E17
  have F_frameStates_o_17 := F_frameStates_o_16.ext E17
  have F_results_o_17 := F_results_o_16.ext E17
  have F_walkPending_o_17 := F_walkPending_o_16.ext E17
  have F_walkVisited_o_17 := F_walkVisited_o_16.ext E17
  have F_walkMarks_o_17 := F_walkMarks_o_16.ext E17
  have F_levelCount_o_17 := F_levelCount_o_16.ext E17
  have F_collectionFloor_o_17 := F_collectionFloor_o_16.ext E17
  have F_collectionThreshold_o_17 := F_collectionThreshold_o_16.ext E17
  have F_capacity_o_17 := F_capacity_o_16.ext E17
  have F_slots_o_17 := F_slots_o_16.ext E17
  have F_buckets_o_17 := F_buckets_o_16.ext E17
  have F_cache_o_17 := F_cache_o_16.ext E17
  have F_cacheMask_o_17 := F_cacheMask_o_16.ext E17
  have F_slotCount_o_17 := F_slotCount_o_16.ext E17
  have HOld_17 := HOld_16.ext E17
  have Z17 := Nat.le_trans Z16 E17.1
  have K17 := K16.ext E17
  refine OFin.to (T17.setTop (mkF m 67 #[.val (.ref o), .val (.int lv), .val (.int (0 : Int32))] [(.ref b17), (.ref o)])) st17 ?_
  obtain ⟨T18, h18, X18, e18, W18, st18⟩ := putF X17 hx hZ hown (host := "") (Or.inl (hw _ (List.mem_of_getElem? (i := 125) rfl))) Via.refl e17 F_frameFirsts_o_17 E_o_17 (Or.inl (hw _ (List.mem_of_getElem? (i := 126) rfl))) (hw _ (List.mem_of_getElem? (i := 41) rfl)) (ty := (.array .int)) (by decide) rfl rfl (g := (mkF m 67 #[.val (.ref o), .val (.int lv), .val (.int (0 : Int32))] [(.ref b17), (.ref o)])) rfl rfl (hb hby d6_67)
  have E_o_18 := E_o_17.wr W18
  have F_frameSeconds_o_18 := F_frameSeconds_o_17.other W18 (Or.inr (slot_ne (Or.inl (hw _ (List.mem_of_getElem? (i := 128) rfl))) (Or.inl (hw _ (List.mem_of_getElem? (i := 126) rfl))) (by decide) (t := (.array .int)) (t' := (.array .int)) (by decide) (by decide)))
  have F_frameExtras_o_18 := F_frameExtras_o_17.other W18 (Or.inr (slot_ne (Or.inl (hw _ (List.mem_of_getElem? (i := 130) rfl))) (Or.inl (hw _ (List.mem_of_getElem? (i := 126) rfl))) (by decide) (t := (.array .int)) (t' := (.array .int)) (by decide) (by decide)))
  have F_frameLevels_o_18 := F_frameLevels_o_17.other W18 (Or.inr (slot_ne (Or.inl (hw _ (List.mem_of_getElem? (i := 132) rfl))) (Or.inl (hw _ (List.mem_of_getElem? (i := 126) rfl))) (by decide) (t := (.array .int)) (t' := (.array .int)) (by decide) (by decide)))
  have F_frameStates_o_18 := F_frameStates_o_17.other W18 (Or.inr (slot_ne (Or.inl (hw _ (List.mem_of_getElem? (i := 134) rfl))) (Or.inl (hw _ (List.mem_of_getElem? (i := 126) rfl))) (by decide) (t := (.array .int)) (t' := (.array .int)) (by decide) (by decide)))
  have F_results_o_18 := F_results_o_17.other W18 (Or.inr (slot_ne (Or.inr (hw _ (List.mem_of_getElem? (i := 136) rfl))) (Or.inl (hw _ (List.mem_of_getElem? (i := 126) rfl))) (by decide) (t := (.object "com/example/fixpoint_checker/fixpointchecker/IntList")) (t' := (.array .int)) (by decide) (by decide)))
  have F_walkPending_o_18 := F_walkPending_o_17.other W18 (Or.inr (slot_ne (Or.inr (hw _ (List.mem_of_getElem? (i := 138) rfl))) (Or.inl (hw _ (List.mem_of_getElem? (i := 126) rfl))) (by decide) (t := (.object "com/example/fixpoint_checker/fixpointchecker/IntList")) (t' := (.array .int)) (by decide) (by decide)))
  have F_walkVisited_o_18 := F_walkVisited_o_17.other W18 (Or.inr (slot_ne (Or.inr (hw _ (List.mem_of_getElem? (i := 140) rfl))) (Or.inl (hw _ (List.mem_of_getElem? (i := 126) rfl))) (by decide) (t := (.object "com/example/fixpoint_checker/fixpointchecker/IntList")) (t' := (.array .int)) (by decide) (by decide)))
  have F_walkMarks_o_18 := F_walkMarks_o_17.other W18 (Or.inr (slot_ne (Or.inr (hw _ (List.mem_of_getElem? (i := 163) rfl))) (Or.inl (hw _ (List.mem_of_getElem? (i := 126) rfl))) (by decide) (t := (.object "java/util/BitSet")) (t' := (.array .int)) (by decide) (by decide)))
  have F_levelCount_o_18 := F_levelCount_o_17.other W18 (Or.inr (slot_ne (Or.inr (hw _ (List.mem_of_getElem? (i := 165) rfl))) (Or.inl (hw _ (List.mem_of_getElem? (i := 126) rfl))) (by decide) (t := .int) (t' := (.array .int)) (by decide) (by decide)))
  have F_collectionFloor_o_18 := F_collectionFloor_o_17.other W18 (Or.inr (slot_ne (Or.inr (hw _ (List.mem_of_getElem? (i := 167) rfl))) (Or.inl (hw _ (List.mem_of_getElem? (i := 126) rfl))) (by decide) (t := .int) (t' := (.array .int)) (by decide) (by decide)))
  have F_collectionThreshold_o_18 := F_collectionThreshold_o_17.other W18 (Or.inr (slot_ne (Or.inl (hw _ (List.mem_of_getElem? (i := 169) rfl))) (Or.inl (hw _ (List.mem_of_getElem? (i := 126) rfl))) (by decide) (t := .int) (t' := (.array .int)) (by decide) (by decide)))
  have F_capacity_o_18 := F_capacity_o_17.other W18 (Or.inr (slot_ne (Or.inl (hw _ (List.mem_of_getElem? (i := 175) rfl))) (Or.inl (hw _ (List.mem_of_getElem? (i := 126) rfl))) (by decide) (t := .int) (t' := (.array .int)) (by decide) (by decide)))
  have F_slots_o_18 := F_slots_o_17.other W18 (Or.inr (slot_ne (Or.inl (hw _ (List.mem_of_getElem? (i := 177) rfl))) (Or.inl (hw _ (List.mem_of_getElem? (i := 126) rfl))) (by decide) (t := (.array .long)) (t' := (.array .int)) (by decide) (by decide)))
  have F_buckets_o_18 := F_buckets_o_17.other W18 (Or.inr (slot_ne (Or.inl (hw _ (List.mem_of_getElem? (i := 188) rfl))) (Or.inl (hw _ (List.mem_of_getElem? (i := 126) rfl))) (by decide) (t := (.array .int)) (t' := (.array .int)) (by decide) (by decide)))
  have F_cache_o_18 := F_cache_o_17.other W18 (Or.inr (slot_ne (Or.inl (hw _ (List.mem_of_getElem? (i := 198) rfl))) (Or.inl (hw _ (List.mem_of_getElem? (i := 126) rfl))) (by decide) (t := (.array .int)) (t' := (.array .int)) (by decide) (by decide)))
  have F_cacheMask_o_18 := F_cacheMask_o_17.other W18 (Or.inr (slot_ne (Or.inl (hw _ (List.mem_of_getElem? (i := 200) rfl))) (Or.inl (hw _ (List.mem_of_getElem? (i := 126) rfl))) (by decide) (t := .int) (t' := (.array .int)) (by decide) (by decide)))
  have F_slotCount_o_18 := F_slotCount_o_17.other W18 (Or.inr (slot_ne (Or.inl (hw _ (List.mem_of_getElem? (i := 218) rfl))) (Or.inl (hw _ (List.mem_of_getElem? (i := 126) rfl))) (by decide) (t := .int) (t' := (.array .int)) (by decide) (by decide)))
  have HOld_18 := HOld_17.wr W18 g_o
  have F_frameFirsts_o_18 := F_frameFirsts_o_17.same W18
  have K18 := K17.wr W18 (Or.inl (by simp))
  have N18 := Fr.snoc X18 N16 g_o
  have Z18 := Nat.le_trans Z17 (Keep.of_wr W18).1
  refine OFin.to (T18.setTop (mkF m 70 #[.val (.ref o), .val (.int lv), .val (.int (0 : Int32))] [])) st18 ?_
  refine OFin.to (T18.setTop (mkF m 71 #[.val (.ref o), .val (.int lv), .val (.int (0 : Int32))] [(.ref o)])) (fun _ kt => XS.aloadN X18.here hx rfl (hb hby d6_70) rfl rfl kt) ?_
  refine OFin.to (T18.setTop (mkF m 73 #[.val (.ref o), .val (.int lv), .val (.int (0 : Int32))] [(.int (64 : Int32)), (.ref o)])) (fun _ kt => XS.bipush X18.here hx rfl (hb hby d6_71) kt) ?_
  obtain ⟨T19, h19, X19, e19, E19, V19, st19⟩ := own_newP X18 hx hZ (hw _ (List.mem_of_getElem? (i := 59) rfl)) e18 (g := (mkF m 73 #[.val (.ref o), .val (.int lv), .val (.int (0 : Int32))] [(.int (64 : Int32)), (.ref o)])) rfl (hb hby d6_73) rfl (by decide) (64) rfl (cap := 64) (Nat.le_refl _) (by decide) (by decide) (by decide)
  obtain ⟨b19, g19⟩ : ∃ z, z = h18.size := ⟨_, rfl⟩
  rw [← g19] at V19 st19
  rw [own_rep] at V19
  have g_b19 : n0 ≤ b19 := by rw [g19]; exact Z18
  have ne_o_b19 : o ≠ b19 := by rw [g19]; exact Nat.ne_of_lt E_o_18.lt
  have sz_b19 : h0.size ≤ b19 := by rw [g19]; exact K18.1
  have E_o_19 := E_o_18.ext E19
  have F_frameSeconds_o_19 := F_frameSeconds_o_18.ext E19
  have F_frameExtras_o_19 := F_frameExtras_o_18.ext E19
  have F_frameLevels_o_19 := F_frameLevels_o_18.ext E19
  have F_frameStates_o_19 := F_frameStates_o_18.ext E19
  have F_results_o_19 := F_results_o_18.ext E19
  have F_walkPending_o_19 := F_walkPending_o_18.ext E19
  have F_walkVisited_o_19 := F_walkVisited_o_18.ext E19
  have F_walkMarks_o_19 := F_walkMarks_o_18.ext E19
  have F_levelCount_o_19 := F_levelCount_o_18.ext E19
  have F_collectionFloor_o_19 := F_collectionFloor_o_18.ext E19
  have F_collectionThreshold_o_19 := F_collectionThreshold_o_18.ext E19
  have F_capacity_o_19 := F_capacity_o_18.ext E19
  have F_slots_o_19 := F_slots_o_18.ext E19
  have F_buckets_o_19 := F_buckets_o_18.ext E19
  have F_cache_o_19 := F_cache_o_18.ext E19
  have F_cacheMask_o_19 := F_cacheMask_o_18.ext E19
  have F_slotCount_o_19 := F_slotCount_o_18.ext E19
  have HOld_19 := HOld_18.ext E19
  have Z19 := Nat.le_trans Z18 E19.1
  have K19 := K18.ext E19
  refine OFin.to (T19.setTop (mkF m 75 #[.val (.ref o), .val (.int lv), .val (.int (0 : Int32))] [(.ref b19), (.ref o)])) st19 ?_
  obtain ⟨T20, h20, X20, e20, W20, st20⟩ := putF X19 hx hZ hown (host := "") (Or.inl (hw _ (List.mem_of_getElem? (i := 127) rfl))) Via.refl e19 F_frameSeconds_o_19 E_o_19 (Or.inl (hw _ (List.mem_of_getElem? (i := 128) rfl))) (hw _ (List.mem_of_getElem? (i := 41) rfl)) (ty := (.array .int)) (by decide) rfl rfl (g := (mkF m 75 #[.val (.ref o), .val (.int lv), .val (.int (0 : Int32))] [(.ref b19), (.ref o)])) rfl rfl (hb hby d6_75)
  have E_o_20 := E_o_19.wr W20
  have F_frameExtras_o_20 := F_frameExtras_o_19.other W20 (Or.inr (slot_ne (Or.inl (hw _ (List.mem_of_getElem? (i := 130) rfl))) (Or.inl (hw _ (List.mem_of_getElem? (i := 128) rfl))) (by decide) (t := (.array .int)) (t' := (.array .int)) (by decide) (by decide)))
  have F_frameLevels_o_20 := F_frameLevels_o_19.other W20 (Or.inr (slot_ne (Or.inl (hw _ (List.mem_of_getElem? (i := 132) rfl))) (Or.inl (hw _ (List.mem_of_getElem? (i := 128) rfl))) (by decide) (t := (.array .int)) (t' := (.array .int)) (by decide) (by decide)))
  have F_frameStates_o_20 := F_frameStates_o_19.other W20 (Or.inr (slot_ne (Or.inl (hw _ (List.mem_of_getElem? (i := 134) rfl))) (Or.inl (hw _ (List.mem_of_getElem? (i := 128) rfl))) (by decide) (t := (.array .int)) (t' := (.array .int)) (by decide) (by decide)))
  have F_results_o_20 := F_results_o_19.other W20 (Or.inr (slot_ne (Or.inr (hw _ (List.mem_of_getElem? (i := 136) rfl))) (Or.inl (hw _ (List.mem_of_getElem? (i := 128) rfl))) (by decide) (t := (.object "com/example/fixpoint_checker/fixpointchecker/IntList")) (t' := (.array .int)) (by decide) (by decide)))
  have F_walkPending_o_20 := F_walkPending_o_19.other W20 (Or.inr (slot_ne (Or.inr (hw _ (List.mem_of_getElem? (i := 138) rfl))) (Or.inl (hw _ (List.mem_of_getElem? (i := 128) rfl))) (by decide) (t := (.object "com/example/fixpoint_checker/fixpointchecker/IntList")) (t' := (.array .int)) (by decide) (by decide)))
  have F_walkVisited_o_20 := F_walkVisited_o_19.other W20 (Or.inr (slot_ne (Or.inr (hw _ (List.mem_of_getElem? (i := 140) rfl))) (Or.inl (hw _ (List.mem_of_getElem? (i := 128) rfl))) (by decide) (t := (.object "com/example/fixpoint_checker/fixpointchecker/IntList")) (t' := (.array .int)) (by decide) (by decide)))
  have F_walkMarks_o_20 := F_walkMarks_o_19.other W20 (Or.inr (slot_ne (Or.inr (hw _ (List.mem_of_getElem? (i := 163) rfl))) (Or.inl (hw _ (List.mem_of_getElem? (i := 128) rfl))) (by decide) (t := (.object "java/util/BitSet")) (t' := (.array .int)) (by decide) (by decide)))
  have F_levelCount_o_20 := F_levelCount_o_19.other W20 (Or.inr (slot_ne (Or.inr (hw _ (List.mem_of_getElem? (i := 165) rfl))) (Or.inl (hw _ (List.mem_of_getElem? (i := 128) rfl))) (by decide) (t := .int) (t' := (.array .int)) (by decide) (by decide)))
  have F_collectionFloor_o_20 := F_collectionFloor_o_19.other W20 (Or.inr (slot_ne (Or.inr (hw _ (List.mem_of_getElem? (i := 167) rfl))) (Or.inl (hw _ (List.mem_of_getElem? (i := 128) rfl))) (by decide) (t := .int) (t' := (.array .int)) (by decide) (by decide)))
  have F_collectionThreshold_o_20 := F_collectionThreshold_o_19.other W20 (Or.inr (slot_ne (Or.inl (hw _ (List.mem_of_getElem? (i := 169) rfl))) (Or.inl (hw _ (List.mem_of_getElem? (i := 128) rfl))) (by decide) (t := .int) (t' := (.array .int)) (by decide) (by decide)))
  have F_capacity_o_20 := F_capacity_o_19.other W20 (Or.inr (slot_ne (Or.inl (hw _ (List.mem_of_getElem? (i := 175) rfl))) (Or.inl (hw _ (List.mem_of_getElem? (i := 128) rfl))) (by decide) (t := .int) (t' := (.array .int)) (by decide) (by decide)))
  have F_slots_o_20 := F_slots_o_19.other W20 (Or.inr (slot_ne (Or.inl (hw _ (List.mem_of_getElem? (i := 177) rfl))) (Or.inl (hw _ (List.mem_of_getElem? (i := 128) rfl))) (by decide) (t := (.array .long)) (t' := (.array .int)) (by decide) (by decide)))
  have F_buckets_o_20 := F_buckets_o_19.other W20 (Or.inr (slot_ne (Or.inl (hw _ (List.mem_of_getElem? (i := 188) rfl))) (Or.inl (hw _ (List.mem_of_getElem? (i := 128) rfl))) (by decide) (t := (.array .int)) (t' := (.array .int)) (by decide) (by decide)))
  have F_cache_o_20 := F_cache_o_19.other W20 (Or.inr (slot_ne (Or.inl (hw _ (List.mem_of_getElem? (i := 198) rfl))) (Or.inl (hw _ (List.mem_of_getElem? (i := 128) rfl))) (by decide) (t := (.array .int)) (t' := (.array .int)) (by decide) (by decide)))
  have F_cacheMask_o_20 := F_cacheMask_o_19.other W20 (Or.inr (slot_ne (Or.inl (hw _ (List.mem_of_getElem? (i := 200) rfl))) (Or.inl (hw _ (List.mem_of_getElem? (i := 128) rfl))) (by decide) (t := .int) (t' := (.array .int)) (by decide) (by decide)))
  have F_slotCount_o_20 := F_slotCount_o_19.other W20 (Or.inr (slot_ne (Or.inl (hw _ (List.mem_of_getElem? (i := 218) rfl))) (Or.inl (hw _ (List.mem_of_getElem? (i := 128) rfl))) (by decide) (t := .int) (t' := (.array .int)) (by decide) (by decide)))
  have HOld_20 := HOld_19.wr W20 g_o
  have F_frameSeconds_o_20 := F_frameSeconds_o_19.same W20
  have K20 := K19.wr W20 (Or.inl (by simp))
  have N20 := Fr.snoc X20 N18 g_o
  have Z20 := Nat.le_trans Z19 (Keep.of_wr W20).1
  refine OFin.to (T20.setTop (mkF m 78 #[.val (.ref o), .val (.int lv), .val (.int (0 : Int32))] [])) st20 ?_
  refine OFin.to (T20.setTop (mkF m 79 #[.val (.ref o), .val (.int lv), .val (.int (0 : Int32))] [(.ref o)])) (fun _ kt => XS.aloadN X20.here hx rfl (hb hby d6_78) rfl rfl kt) ?_
  refine OFin.to (T20.setTop (mkF m 81 #[.val (.ref o), .val (.int lv), .val (.int (0 : Int32))] [(.int (64 : Int32)), (.ref o)])) (fun _ kt => XS.bipush X20.here hx rfl (hb hby d6_79) kt) ?_
  obtain ⟨T21, h21, X21, e21, E21, V21, st21⟩ := own_newP X20 hx hZ (hw _ (List.mem_of_getElem? (i := 59) rfl)) e20 (g := (mkF m 81 #[.val (.ref o), .val (.int lv), .val (.int (0 : Int32))] [(.int (64 : Int32)), (.ref o)])) rfl (hb hby d6_81) rfl (by decide) (64) rfl (cap := 64) (Nat.le_refl _) (by decide) (by decide) (by decide)
  obtain ⟨b21, g21⟩ : ∃ z, z = h20.size := ⟨_, rfl⟩
  rw [← g21] at V21 st21
  rw [own_rep] at V21
  have g_b21 : n0 ≤ b21 := by rw [g21]; exact Z20
  have ne_o_b21 : o ≠ b21 := by rw [g21]; exact Nat.ne_of_lt E_o_20.lt
  have sz_b21 : h0.size ≤ b21 := by rw [g21]; exact K20.1
  have E_o_21 := E_o_20.ext E21
  have F_frameExtras_o_21 := F_frameExtras_o_20.ext E21
  have F_frameLevels_o_21 := F_frameLevels_o_20.ext E21
  have F_frameStates_o_21 := F_frameStates_o_20.ext E21
  have F_results_o_21 := F_results_o_20.ext E21
  have F_walkPending_o_21 := F_walkPending_o_20.ext E21
  have F_walkVisited_o_21 := F_walkVisited_o_20.ext E21
  have F_walkMarks_o_21 := F_walkMarks_o_20.ext E21
  have F_levelCount_o_21 := F_levelCount_o_20.ext E21
  have F_collectionFloor_o_21 := F_collectionFloor_o_20.ext E21
  have F_collectionThreshold_o_21 := F_collectionThreshold_o_20.ext E21
  have F_capacity_o_21 := F_capacity_o_20.ext E21
  have F_slots_o_21 := F_slots_o_20.ext E21
  have F_buckets_o_21 := F_buckets_o_20.ext E21
  have F_cache_o_21 := F_cache_o_20.ext E21
  have F_cacheMask_o_21 := F_cacheMask_o_20.ext E21
  have F_slotCount_o_21 := F_slotCount_o_20.ext E21
  have HOld_21 := HOld_20.ext E21
  have Z21 := Nat.le_trans Z20 E21.1
  have K21 := K20.ext E21
  refine OFin.to (T21.setTop (mkF m 83 #[.val (.ref o), .val (.int lv), .val (.int (0 : Int32))] [(.ref b21), (.ref o)])) st21 ?_
  obtain ⟨T22, h22, X22, e22, W22, st22⟩ := putF X21 hx hZ hown (host := "") (Or.inl (hw _ (List.mem_of_getElem? (i := 129) rfl))) Via.refl e21 F_frameExtras_o_21 E_o_21 (Or.inl (hw _ (List.mem_of_getElem? (i := 130) rfl))) (hw _ (List.mem_of_getElem? (i := 41) rfl)) (ty := (.array .int)) (by decide) rfl rfl (g := (mkF m 83 #[.val (.ref o), .val (.int lv), .val (.int (0 : Int32))] [(.ref b21), (.ref o)])) rfl rfl (hb hby d6_83)
  have E_o_22 := E_o_21.wr W22
  have F_frameLevels_o_22 := F_frameLevels_o_21.other W22 (Or.inr (slot_ne (Or.inl (hw _ (List.mem_of_getElem? (i := 132) rfl))) (Or.inl (hw _ (List.mem_of_getElem? (i := 130) rfl))) (by decide) (t := (.array .int)) (t' := (.array .int)) (by decide) (by decide)))
  have F_frameStates_o_22 := F_frameStates_o_21.other W22 (Or.inr (slot_ne (Or.inl (hw _ (List.mem_of_getElem? (i := 134) rfl))) (Or.inl (hw _ (List.mem_of_getElem? (i := 130) rfl))) (by decide) (t := (.array .int)) (t' := (.array .int)) (by decide) (by decide)))
  have F_results_o_22 := F_results_o_21.other W22 (Or.inr (slot_ne (Or.inr (hw _ (List.mem_of_getElem? (i := 136) rfl))) (Or.inl (hw _ (List.mem_of_getElem? (i := 130) rfl))) (by decide) (t := (.object "com/example/fixpoint_checker/fixpointchecker/IntList")) (t' := (.array .int)) (by decide) (by decide)))
  have F_walkPending_o_22 := F_walkPending_o_21.other W22 (Or.inr (slot_ne (Or.inr (hw _ (List.mem_of_getElem? (i := 138) rfl))) (Or.inl (hw _ (List.mem_of_getElem? (i := 130) rfl))) (by decide) (t := (.object "com/example/fixpoint_checker/fixpointchecker/IntList")) (t' := (.array .int)) (by decide) (by decide)))
  have F_walkVisited_o_22 := F_walkVisited_o_21.other W22 (Or.inr (slot_ne (Or.inr (hw _ (List.mem_of_getElem? (i := 140) rfl))) (Or.inl (hw _ (List.mem_of_getElem? (i := 130) rfl))) (by decide) (t := (.object "com/example/fixpoint_checker/fixpointchecker/IntList")) (t' := (.array .int)) (by decide) (by decide)))
  have F_walkMarks_o_22 := F_walkMarks_o_21.other W22 (Or.inr (slot_ne (Or.inr (hw _ (List.mem_of_getElem? (i := 163) rfl))) (Or.inl (hw _ (List.mem_of_getElem? (i := 130) rfl))) (by decide) (t := (.object "java/util/BitSet")) (t' := (.array .int)) (by decide) (by decide)))
  have F_levelCount_o_22 := F_levelCount_o_21.other W22 (Or.inr (slot_ne (Or.inr (hw _ (List.mem_of_getElem? (i := 165) rfl))) (Or.inl (hw _ (List.mem_of_getElem? (i := 130) rfl))) (by decide) (t := .int) (t' := (.array .int)) (by decide) (by decide)))
  have F_collectionFloor_o_22 := F_collectionFloor_o_21.other W22 (Or.inr (slot_ne (Or.inr (hw _ (List.mem_of_getElem? (i := 167) rfl))) (Or.inl (hw _ (List.mem_of_getElem? (i := 130) rfl))) (by decide) (t := .int) (t' := (.array .int)) (by decide) (by decide)))
  have F_collectionThreshold_o_22 := F_collectionThreshold_o_21.other W22 (Or.inr (slot_ne (Or.inl (hw _ (List.mem_of_getElem? (i := 169) rfl))) (Or.inl (hw _ (List.mem_of_getElem? (i := 130) rfl))) (by decide) (t := .int) (t' := (.array .int)) (by decide) (by decide)))
  have F_capacity_o_22 := F_capacity_o_21.other W22 (Or.inr (slot_ne (Or.inl (hw _ (List.mem_of_getElem? (i := 175) rfl))) (Or.inl (hw _ (List.mem_of_getElem? (i := 130) rfl))) (by decide) (t := .int) (t' := (.array .int)) (by decide) (by decide)))
  have F_slots_o_22 := F_slots_o_21.other W22 (Or.inr (slot_ne (Or.inl (hw _ (List.mem_of_getElem? (i := 177) rfl))) (Or.inl (hw _ (List.mem_of_getElem? (i := 130) rfl))) (by decide) (t := (.array .long)) (t' := (.array .int)) (by decide) (by decide)))
  have F_buckets_o_22 := F_buckets_o_21.other W22 (Or.inr (slot_ne (Or.inl (hw _ (List.mem_of_getElem? (i := 188) rfl))) (Or.inl (hw _ (List.mem_of_getElem? (i := 130) rfl))) (by decide) (t := (.array .int)) (t' := (.array .int)) (by decide) (by decide)))
  have F_cache_o_22 := F_cache_o_21.other W22 (Or.inr (slot_ne (Or.inl (hw _ (List.mem_of_getElem? (i := 198) rfl))) (Or.inl (hw _ (List.mem_of_getElem? (i := 130) rfl))) (by decide) (t := (.array .int)) (t' := (.array .int)) (by decide) (by decide)))
  have F_cacheMask_o_22 := F_cacheMask_o_21.other W22 (Or.inr (slot_ne (Or.inl (hw _ (List.mem_of_getElem? (i := 200) rfl))) (Or.inl (hw _ (List.mem_of_getElem? (i := 130) rfl))) (by decide) (t := .int) (t' := (.array .int)) (by decide) (by decide)))
  have F_slotCount_o_22 := F_slotCount_o_21.other W22 (Or.inr (slot_ne (Or.inl (hw _ (List.mem_of_getElem? (i := 218) rfl))) (Or.inl (hw _ (List.mem_of_getElem? (i := 130) rfl))) (by decide) (t := .int) (t' := (.array .int)) (by decide) (by decide)))
  have HOld_22 := HOld_21.wr W22 g_o
  have F_frameExtras_o_22 := F_frameExtras_o_21.same W22
  have K22 := K21.wr W22 (Or.inl (by simp))
  have N22 := Fr.snoc X22 N20 g_o
  have Z22 := Nat.le_trans Z21 (Keep.of_wr W22).1
  refine OFin.to (T22.setTop (mkF m 86 #[.val (.ref o), .val (.int lv), .val (.int (0 : Int32))] [])) st22 ?_
  refine OFin.to (T22.setTop (mkF m 87 #[.val (.ref o), .val (.int lv), .val (.int (0 : Int32))] [(.ref o)])) (fun _ kt => XS.aloadN X22.here hx rfl (hb hby d6_86) rfl rfl kt) ?_
  refine OFin.to (T22.setTop (mkF m 89 #[.val (.ref o), .val (.int lv), .val (.int (0 : Int32))] [(.int (64 : Int32)), (.ref o)])) (fun _ kt => XS.bipush X22.here hx rfl (hb hby d6_87) kt) ?_
  obtain ⟨T23, h23, X23, e23, E23, V23, st23⟩ := own_newP X22 hx hZ (hw _ (List.mem_of_getElem? (i := 59) rfl)) e22 (g := (mkF m 89 #[.val (.ref o), .val (.int lv), .val (.int (0 : Int32))] [(.int (64 : Int32)), (.ref o)])) rfl (hb hby d6_89) rfl (by decide) (64) rfl (cap := 64) (Nat.le_refl _) (by decide) (by decide) (by decide)
  obtain ⟨b23, g23⟩ : ∃ z, z = h22.size := ⟨_, rfl⟩
  rw [← g23] at V23 st23
  rw [own_rep] at V23
  have g_b23 : n0 ≤ b23 := by rw [g23]; exact Z22
  have ne_o_b23 : o ≠ b23 := by rw [g23]; exact Nat.ne_of_lt E_o_22.lt
  have sz_b23 : h0.size ≤ b23 := by rw [g23]; exact K22.1
  have E_o_23 := E_o_22.ext E23
  have F_frameLevels_o_23 := F_frameLevels_o_22.ext E23
  have F_frameStates_o_23 := F_frameStates_o_22.ext E23
  have F_results_o_23 := F_results_o_22.ext E23
  have F_walkPending_o_23 := F_walkPending_o_22.ext E23
  have F_walkVisited_o_23 := F_walkVisited_o_22.ext E23
  have F_walkMarks_o_23 := F_walkMarks_o_22.ext E23
  have F_levelCount_o_23 := F_levelCount_o_22.ext E23
  have F_collectionFloor_o_23 := F_collectionFloor_o_22.ext E23
  have F_collectionThreshold_o_23 := F_collectionThreshold_o_22.ext E23
  have F_capacity_o_23 := F_capacity_o_22.ext E23
  have F_slots_o_23 := F_slots_o_22.ext E23
  have F_buckets_o_23 := F_buckets_o_22.ext E23
  have F_cache_o_23 := F_cache_o_22.ext E23
  have F_cacheMask_o_23 := F_cacheMask_o_22.ext E23
  have F_slotCount_o_23 := F_slotCount_o_22.ext E23
  have HOld_23 := HOld_22.ext E23
  have Z23 := Nat.le_trans Z22 E23.1
  have K23 := K22.ext E23
  refine OFin.to (T23.setTop (mkF m 91 #[.val (.ref o), .val (.int lv), .val (.int (0 : Int32))] [(.ref b23), (.ref o)])) st23 ?_
  obtain ⟨T24, h24, X24, e24, W24, st24⟩ := putF X23 hx hZ hown (host := "") (Or.inl (hw _ (List.mem_of_getElem? (i := 131) rfl))) Via.refl e23 F_frameLevels_o_23 E_o_23 (Or.inl (hw _ (List.mem_of_getElem? (i := 132) rfl))) (hw _ (List.mem_of_getElem? (i := 41) rfl)) (ty := (.array .int)) (by decide) rfl rfl (g := (mkF m 91 #[.val (.ref o), .val (.int lv), .val (.int (0 : Int32))] [(.ref b23), (.ref o)])) rfl rfl (hb hby d6_91)
  have E_o_24 := E_o_23.wr W24
  have F_frameStates_o_24 := F_frameStates_o_23.other W24 (Or.inr (slot_ne (Or.inl (hw _ (List.mem_of_getElem? (i := 134) rfl))) (Or.inl (hw _ (List.mem_of_getElem? (i := 132) rfl))) (by decide) (t := (.array .int)) (t' := (.array .int)) (by decide) (by decide)))
  have F_results_o_24 := F_results_o_23.other W24 (Or.inr (slot_ne (Or.inr (hw _ (List.mem_of_getElem? (i := 136) rfl))) (Or.inl (hw _ (List.mem_of_getElem? (i := 132) rfl))) (by decide) (t := (.object "com/example/fixpoint_checker/fixpointchecker/IntList")) (t' := (.array .int)) (by decide) (by decide)))
  have F_walkPending_o_24 := F_walkPending_o_23.other W24 (Or.inr (slot_ne (Or.inr (hw _ (List.mem_of_getElem? (i := 138) rfl))) (Or.inl (hw _ (List.mem_of_getElem? (i := 132) rfl))) (by decide) (t := (.object "com/example/fixpoint_checker/fixpointchecker/IntList")) (t' := (.array .int)) (by decide) (by decide)))
  have F_walkVisited_o_24 := F_walkVisited_o_23.other W24 (Or.inr (slot_ne (Or.inr (hw _ (List.mem_of_getElem? (i := 140) rfl))) (Or.inl (hw _ (List.mem_of_getElem? (i := 132) rfl))) (by decide) (t := (.object "com/example/fixpoint_checker/fixpointchecker/IntList")) (t' := (.array .int)) (by decide) (by decide)))
  have F_walkMarks_o_24 := F_walkMarks_o_23.other W24 (Or.inr (slot_ne (Or.inr (hw _ (List.mem_of_getElem? (i := 163) rfl))) (Or.inl (hw _ (List.mem_of_getElem? (i := 132) rfl))) (by decide) (t := (.object "java/util/BitSet")) (t' := (.array .int)) (by decide) (by decide)))
  have F_levelCount_o_24 := F_levelCount_o_23.other W24 (Or.inr (slot_ne (Or.inr (hw _ (List.mem_of_getElem? (i := 165) rfl))) (Or.inl (hw _ (List.mem_of_getElem? (i := 132) rfl))) (by decide) (t := .int) (t' := (.array .int)) (by decide) (by decide)))
  have F_collectionFloor_o_24 := F_collectionFloor_o_23.other W24 (Or.inr (slot_ne (Or.inr (hw _ (List.mem_of_getElem? (i := 167) rfl))) (Or.inl (hw _ (List.mem_of_getElem? (i := 132) rfl))) (by decide) (t := .int) (t' := (.array .int)) (by decide) (by decide)))
  have F_collectionThreshold_o_24 := F_collectionThreshold_o_23.other W24 (Or.inr (slot_ne (Or.inl (hw _ (List.mem_of_getElem? (i := 169) rfl))) (Or.inl (hw _ (List.mem_of_getElem? (i := 132) rfl))) (by decide) (t := .int) (t' := (.array .int)) (by decide) (by decide)))
  have F_capacity_o_24 := F_capacity_o_23.other W24 (Or.inr (slot_ne (Or.inl (hw _ (List.mem_of_getElem? (i := 175) rfl))) (Or.inl (hw _ (List.mem_of_getElem? (i := 132) rfl))) (by decide) (t := .int) (t' := (.array .int)) (by decide) (by decide)))
  have F_slots_o_24 := F_slots_o_23.other W24 (Or.inr (slot_ne (Or.inl (hw _ (List.mem_of_getElem? (i := 177) rfl))) (Or.inl (hw _ (List.mem_of_getElem? (i := 132) rfl))) (by decide) (t := (.array .long)) (t' := (.array .int)) (by decide) (by decide)))
  have F_buckets_o_24 := F_buckets_o_23.other W24 (Or.inr (slot_ne (Or.inl (hw _ (List.mem_of_getElem? (i := 188) rfl))) (Or.inl (hw _ (List.mem_of_getElem? (i := 132) rfl))) (by decide) (t := (.array .int)) (t' := (.array .int)) (by decide) (by decide)))
  have F_cache_o_24 := F_cache_o_23.other W24 (Or.inr (slot_ne (Or.inl (hw _ (List.mem_of_getElem? (i := 198) rfl))) (Or.inl (hw _ (List.mem_of_getElem? (i := 132) rfl))) (by decide) (t := (.array .int)) (t' := (.array .int)) (by decide) (by decide)))
  have F_cacheMask_o_24 := F_cacheMask_o_23.other W24 (Or.inr (slot_ne (Or.inl (hw _ (List.mem_of_getElem? (i := 200) rfl))) (Or.inl (hw _ (List.mem_of_getElem? (i := 132) rfl))) (by decide) (t := .int) (t' := (.array .int)) (by decide) (by decide)))
  have F_slotCount_o_24 := F_slotCount_o_23.other W24 (Or.inr (slot_ne (Or.inl (hw _ (List.mem_of_getElem? (i := 218) rfl))) (Or.inl (hw _ (List.mem_of_getElem? (i := 132) rfl))) (by decide) (t := .int) (t' := (.array .int)) (by decide) (by decide)))
  have HOld_24 := HOld_23.wr W24 g_o
  have F_frameLevels_o_24 := F_frameLevels_o_23.same W24
  have K24 := K23.wr W24 (Or.inl (by simp))
  have N24 := Fr.snoc X24 N22 g_o
  have Z24 := Nat.le_trans Z23 (Keep.of_wr W24).1
  refine OFin.to (T24.setTop (mkF m 94 #[.val (.ref o), .val (.int lv), .val (.int (0 : Int32))] [])) st24 ?_
  refine OFin.to (T24.setTop (mkF m 95 #[.val (.ref o), .val (.int lv), .val (.int (0 : Int32))] [(.ref o)])) (fun _ kt => XS.aloadN X24.here hx rfl (hb hby d6_94) rfl rfl kt) ?_
  refine OFin.to (T24.setTop (mkF m 97 #[.val (.ref o), .val (.int lv), .val (.int (0 : Int32))] [(.int (64 : Int32)), (.ref o)])) (fun _ kt => XS.bipush X24.here hx rfl (hb hby d6_95) kt) ?_
  obtain ⟨T25, h25, X25, e25, E25, V25, st25⟩ := own_newP X24 hx hZ (hw _ (List.mem_of_getElem? (i := 59) rfl)) e24 (g := (mkF m 97 #[.val (.ref o), .val (.int lv), .val (.int (0 : Int32))] [(.int (64 : Int32)), (.ref o)])) rfl (hb hby d6_97) rfl (by decide) (64) rfl (cap := 64) (Nat.le_refl _) (by decide) (by decide) (by decide)
  obtain ⟨b25, g25⟩ : ∃ z, z = h24.size := ⟨_, rfl⟩
  rw [← g25] at V25 st25
  rw [own_rep] at V25
  have g_b25 : n0 ≤ b25 := by rw [g25]; exact Z24
  have ne_o_b25 : o ≠ b25 := by rw [g25]; exact Nat.ne_of_lt E_o_24.lt
  have sz_b25 : h0.size ≤ b25 := by rw [g25]; exact K24.1
  have E_o_25 := E_o_24.ext E25
  have F_frameStates_o_25 := F_frameStates_o_24.ext E25
  have F_results_o_25 := F_results_o_24.ext E25
  have F_walkPending_o_25 := F_walkPending_o_24.ext E25
  have F_walkVisited_o_25 := F_walkVisited_o_24.ext E25
  have F_walkMarks_o_25 := F_walkMarks_o_24.ext E25
  have F_levelCount_o_25 := F_levelCount_o_24.ext E25
  have F_collectionFloor_o_25 := F_collectionFloor_o_24.ext E25
  have F_collectionThreshold_o_25 := F_collectionThreshold_o_24.ext E25
  have F_capacity_o_25 := F_capacity_o_24.ext E25
  have F_slots_o_25 := F_slots_o_24.ext E25
  have F_buckets_o_25 := F_buckets_o_24.ext E25
  have F_cache_o_25 := F_cache_o_24.ext E25
  have F_cacheMask_o_25 := F_cacheMask_o_24.ext E25
  have F_slotCount_o_25 := F_slotCount_o_24.ext E25
  have HOld_25 := HOld_24.ext E25
  have Z25 := Nat.le_trans Z24 E25.1
  have K25 := K24.ext E25
  refine OFin.to (T25.setTop (mkF m 99 #[.val (.ref o), .val (.int lv), .val (.int (0 : Int32))] [(.ref b25), (.ref o)])) st25 ?_
  obtain ⟨T26, h26, X26, e26, W26, st26⟩ := putF X25 hx hZ hown (host := "") (Or.inl (hw _ (List.mem_of_getElem? (i := 133) rfl))) Via.refl e25 F_frameStates_o_25 E_o_25 (Or.inl (hw _ (List.mem_of_getElem? (i := 134) rfl))) (hw _ (List.mem_of_getElem? (i := 41) rfl)) (ty := (.array .int)) (by decide) rfl rfl (g := (mkF m 99 #[.val (.ref o), .val (.int lv), .val (.int (0 : Int32))] [(.ref b25), (.ref o)])) rfl rfl (hb hby d6_99)
  have E_o_26 := E_o_25.wr W26
  have F_results_o_26 := F_results_o_25.other W26 (Or.inr (slot_ne (Or.inr (hw _ (List.mem_of_getElem? (i := 136) rfl))) (Or.inl (hw _ (List.mem_of_getElem? (i := 134) rfl))) (by decide) (t := (.object "com/example/fixpoint_checker/fixpointchecker/IntList")) (t' := (.array .int)) (by decide) (by decide)))
  have F_walkPending_o_26 := F_walkPending_o_25.other W26 (Or.inr (slot_ne (Or.inr (hw _ (List.mem_of_getElem? (i := 138) rfl))) (Or.inl (hw _ (List.mem_of_getElem? (i := 134) rfl))) (by decide) (t := (.object "com/example/fixpoint_checker/fixpointchecker/IntList")) (t' := (.array .int)) (by decide) (by decide)))
  have F_walkVisited_o_26 := F_walkVisited_o_25.other W26 (Or.inr (slot_ne (Or.inr (hw _ (List.mem_of_getElem? (i := 140) rfl))) (Or.inl (hw _ (List.mem_of_getElem? (i := 134) rfl))) (by decide) (t := (.object "com/example/fixpoint_checker/fixpointchecker/IntList")) (t' := (.array .int)) (by decide) (by decide)))
  have F_walkMarks_o_26 := F_walkMarks_o_25.other W26 (Or.inr (slot_ne (Or.inr (hw _ (List.mem_of_getElem? (i := 163) rfl))) (Or.inl (hw _ (List.mem_of_getElem? (i := 134) rfl))) (by decide) (t := (.object "java/util/BitSet")) (t' := (.array .int)) (by decide) (by decide)))
  have F_levelCount_o_26 := F_levelCount_o_25.other W26 (Or.inr (slot_ne (Or.inr (hw _ (List.mem_of_getElem? (i := 165) rfl))) (Or.inl (hw _ (List.mem_of_getElem? (i := 134) rfl))) (by decide) (t := .int) (t' := (.array .int)) (by decide) (by decide)))
  have F_collectionFloor_o_26 := F_collectionFloor_o_25.other W26 (Or.inr (slot_ne (Or.inr (hw _ (List.mem_of_getElem? (i := 167) rfl))) (Or.inl (hw _ (List.mem_of_getElem? (i := 134) rfl))) (by decide) (t := .int) (t' := (.array .int)) (by decide) (by decide)))
  have F_collectionThreshold_o_26 := F_collectionThreshold_o_25.other W26 (Or.inr (slot_ne (Or.inl (hw _ (List.mem_of_getElem? (i := 169) rfl))) (Or.inl (hw _ (List.mem_of_getElem? (i := 134) rfl))) (by decide) (t := .int) (t' := (.array .int)) (by decide) (by decide)))
  have F_capacity_o_26 := F_capacity_o_25.other W26 (Or.inr (slot_ne (Or.inl (hw _ (List.mem_of_getElem? (i := 175) rfl))) (Or.inl (hw _ (List.mem_of_getElem? (i := 134) rfl))) (by decide) (t := .int) (t' := (.array .int)) (by decide) (by decide)))
  have F_slots_o_26 := F_slots_o_25.other W26 (Or.inr (slot_ne (Or.inl (hw _ (List.mem_of_getElem? (i := 177) rfl))) (Or.inl (hw _ (List.mem_of_getElem? (i := 134) rfl))) (by decide) (t := (.array .long)) (t' := (.array .int)) (by decide) (by decide)))
  have F_buckets_o_26 := F_buckets_o_25.other W26 (Or.inr (slot_ne (Or.inl (hw _ (List.mem_of_getElem? (i := 188) rfl))) (Or.inl (hw _ (List.mem_of_getElem? (i := 134) rfl))) (by decide) (t := (.array .int)) (t' := (.array .int)) (by decide) (by decide)))
  have F_cache_o_26 := F_cache_o_25.other W26 (Or.inr (slot_ne (Or.inl (hw _ (List.mem_of_getElem? (i := 198) rfl))) (Or.inl (hw _ (List.mem_of_getElem? (i := 134) rfl))) (by decide) (t := (.array .int)) (t' := (.array .int)) (by decide) (by decide)))
  have F_cacheMask_o_26 := F_cacheMask_o_25.other W26 (Or.inr (slot_ne (Or.inl (hw _ (List.mem_of_getElem? (i := 200) rfl))) (Or.inl (hw _ (List.mem_of_getElem? (i := 134) rfl))) (by decide) (t := .int) (t' := (.array .int)) (by decide) (by decide)))
  have F_slotCount_o_26 := F_slotCount_o_25.other W26 (Or.inr (slot_ne (Or.inl (hw _ (List.mem_of_getElem? (i := 218) rfl))) (Or.inl (hw _ (List.mem_of_getElem? (i := 134) rfl))) (by decide) (t := .int) (t' := (.array .int)) (by decide) (by decide)))
  have HOld_26 := HOld_25.wr W26 g_o
  have F_frameStates_o_26 := F_frameStates_o_25.same W26
  have K26 := K25.wr W26 (Or.inl (by simp))
  have N26 := Fr.snoc X26 N24 g_o
  have Z26 := Nat.le_trans Z25 (Keep.of_wr W26).1
  refine OFin.to (T26.setTop (mkF m 102 #[.val (.ref o), .val (.int lv), .val (.int (0 : Int32))] [])) st26 ?_
  refine OFin.to (T26.setTop (mkF m 103 #[.val (.ref o), .val (.int lv), .val (.int (0 : Int32))] [(.ref o)])) (fun _ kt => XS.aloadN X26.here hx rfl (hb hby d6_102) rfl rfl kt) ?_
  obtain ⟨T27, h27, X27, e27, E27, A27, D27, -, st27⟩ := newO X26 hx hZ hown (hw _ (List.mem_of_getElem? (i := 117) rfl)) (hw _ (List.mem_of_getElem? (i := 69) rfl)) (hw _ (List.mem_of_getElem? (i := 70) rfl)) e26 (g := (mkF m 103 #[.val (.ref o), .val (.int lv), .val (.int (0 : Int32))] [(.ref o)])) rfl (hb hby d6_103) (by decide) (by decide)
  obtain ⟨b27, g27⟩ : ∃ z, z = h26.size := ⟨_, rfl⟩
  rw [← g27] at A27 D27 st27
  have g_b27 : n0 ≤ b27 := by rw [g27]; exact Z26
  have ne_o_b27 : o ≠ b27 := by rw [g27]; exact Nat.ne_of_lt E_o_26.lt
  have sz_b27 : h0.size ≤ b27 := by rw [g27]; exact K26.1
  have E_o_27 := E_o_26.ext E27
  have F_results_o_27 := F_results_o_26.ext E27
  have F_walkPending_o_27 := F_walkPending_o_26.ext E27
  have F_walkVisited_o_27 := F_walkVisited_o_26.ext E27
  have F_walkMarks_o_27 := F_walkMarks_o_26.ext E27
  have F_levelCount_o_27 := F_levelCount_o_26.ext E27
  have F_collectionFloor_o_27 := F_collectionFloor_o_26.ext E27
  have F_collectionThreshold_o_27 := F_collectionThreshold_o_26.ext E27
  have F_capacity_o_27 := F_capacity_o_26.ext E27
  have F_slots_o_27 := F_slots_o_26.ext E27
  have F_buckets_o_27 := F_buckets_o_26.ext E27
  have F_cache_o_27 := F_cache_o_26.ext E27
  have F_cacheMask_o_27 := F_cacheMask_o_26.ext E27
  have F_slotCount_o_27 := F_slotCount_o_26.ext E27
  have HOld_27 := HOld_26.ext E27
  have Z27 := Nat.le_trans Z26 E27.1
  have K27 := K26.ext E27
  have E_b27 := A27
  have F_values_b27 : Fld Z h27 b27 "com/example/fixpoint_checker/fixpointchecker/IntList" "values" "[I" .null := D27 (Or.inl (hw _ (List.mem_of_getElem? (i := 80) rfl))) (ty := (.array .int)) (by decide)
  refine OFin.to (T27.setTop (mkF m 106 #[.val (.ref o), .val (.int lv), .val (.int (0 : Int32))] [(.ref b27), (.ref o)])) st27 ?_
  refine OFin.to (T27.setTop (mkF m 107 #[.val (.ref o), .val (.int lv), .val (.int (0 : Int32))] [(.ref b27), (.ref b27), (.ref o)])) (fun _ kt => XS.dup X27.here hx rfl (hb hby d6_106) rfl rfl kt) ?_
  obtain ⟨v28, T28, L28, hQ28, X28, st28⟩ := own_callN X27 hx hZ hown rfl (hw _ (List.mem_of_getElem? (i := 118) rfl)) (hw _ (List.mem_of_getElem? (i := 72) rfl)) (hw _ (List.mem_of_getElem? (i := 73) rfl)) (hw _ (List.mem_of_getElem? (i := 70) rfl)) (by decide) e27 (rm8 l Z a0 hw [] b27 h27 n0 Z27 g_b27 E_b27 F_values_b27  ) 2 (by decide) (by decide) (by decide) (by decide) (g := (mkF m 107 #[.val (.ref o), .val (.int lv), .val (.int (0 : Int32))] [(.ref b27), (.ref b27), (.ref o)])) rfl (by rw [hml]; rfl) (rest := [(.ref b27), (.ref o)]) (lenOf pd_1 rfl) rfl (by show 2 * 0 + _ ≤ _; exact Nat.le_of_eq rfl) (hb hby d6_107)
  obtain ⟨rfl, Kq28, Nq28⟩ := hQ28
  refine OFin.to (T28.setTop (mkF m 110 #[.val (.ref o), .val (.int lv), .val (.int (0 : Int32))] [(.ref b27), (.ref o)])) st28 ?_
  have N28 := Fr.app N26 Nq28
  have Z28 := Nat.le_trans Z27 Kq28.1
  have E_o_28 := E_o_27.keep Kq28
  have F_results_o_28 := F_results_o_27.keep Kq28 (ninS ne_o_b27 nin0)
  have F_walkPending_o_28 := F_walkPending_o_27.keep Kq28 (ninS ne_o_b27 nin0)
  have F_walkVisited_o_28 := F_walkVisited_o_27.keep Kq28 (ninS ne_o_b27 nin0)
  have F_walkMarks_o_28 := F_walkMarks_o_27.keep Kq28 (ninS ne_o_b27 nin0)
  have F_levelCount_o_28 := F_levelCount_o_27.keep Kq28 (ninS ne_o_b27 nin0)
  have F_collectionFloor_o_28 := F_collectionFloor_o_27.keep Kq28 (ninS ne_o_b27 nin0)
  have F_collectionThreshold_o_28 := F_collectionThreshold_o_27.keep Kq28 (ninS ne_o_b27 nin0)
  have F_capacity_o_28 := F_capacity_o_27.keep Kq28 (ninS ne_o_b27 nin0)
  have F_slots_o_28 := F_slots_o_27.keep Kq28 (ninS ne_o_b27 nin0)
  have F_buckets_o_28 := F_buckets_o_27.keep Kq28 (ninS ne_o_b27 nin0)
  have F_cache_o_28 := F_cache_o_27.keep Kq28 (ninS ne_o_b27 nin0)
  have F_cacheMask_o_28 := F_cacheMask_o_27.keep Kq28 (ninS ne_o_b27 nin0)
  have F_slotCount_o_28 := F_slotCount_o_27.keep Kq28 (ninS ne_o_b27 nin0)
  have HOld_28 := HOld_27.keep Kq28 (allS g_b27 all0)
  have E_b27_28 := E_b27.keep Kq28
  have KK28 := K27.trans Kq28 (fun x hx' => by cases List.mem_singleton.mp hx'; exact Or.inr sz_b27)
  obtain ⟨T29, h29, X29, e29, W29, st29⟩ := putF X28 hx hZ hown (host := "") (Or.inl (hw _ (List.mem_of_getElem? (i := 135) rfl))) Via.refl rfl F_results_o_28 E_o_28 (Or.inr ⟨(hw _ (List.mem_of_getElem? (i := 136) rfl)), rfl, hnm⟩) (hw _ (List.mem_of_getElem? (i := 41) rfl)) (ty := (.object "com/example/fixpoint_checker/fixpointchecker/IntList")) (by decide) rfl rfl (g := (mkF m 110 #[.val (.ref o), .val (.int lv), .val (.int (0 : Int32))] [(.ref b27), (.ref o)])) rfl rfl (hb hby d6_110)
  have E_o_29 := E_o_28.wr W29
  have F_walkPending_o_29 := F_walkPending_o_28.other W29 (Or.inr (slot_ne (Or.inr (hw _ (List.mem_of_getElem? (i := 138) rfl))) (Or.inr (hw _ (List.mem_of_getElem? (i := 136) rfl))) (by decide) (t := (.object "com/example/fixpoint_checker/fixpointchecker/IntList")) (t' := (.object "com/example/fixpoint_checker/fixpointchecker/IntList")) (by decide) (by decide)))
  have F_walkVisited_o_29 := F_walkVisited_o_28.other W29 (Or.inr (slot_ne (Or.inr (hw _ (List.mem_of_getElem? (i := 140) rfl))) (Or.inr (hw _ (List.mem_of_getElem? (i := 136) rfl))) (by decide) (t := (.object "com/example/fixpoint_checker/fixpointchecker/IntList")) (t' := (.object "com/example/fixpoint_checker/fixpointchecker/IntList")) (by decide) (by decide)))
  have F_walkMarks_o_29 := F_walkMarks_o_28.other W29 (Or.inr (slot_ne (Or.inr (hw _ (List.mem_of_getElem? (i := 163) rfl))) (Or.inr (hw _ (List.mem_of_getElem? (i := 136) rfl))) (by decide) (t := (.object "java/util/BitSet")) (t' := (.object "com/example/fixpoint_checker/fixpointchecker/IntList")) (by decide) (by decide)))
  have F_levelCount_o_29 := F_levelCount_o_28.other W29 (Or.inr (slot_ne (Or.inr (hw _ (List.mem_of_getElem? (i := 165) rfl))) (Or.inr (hw _ (List.mem_of_getElem? (i := 136) rfl))) (by decide) (t := .int) (t' := (.object "com/example/fixpoint_checker/fixpointchecker/IntList")) (by decide) (by decide)))
  have F_collectionFloor_o_29 := F_collectionFloor_o_28.other W29 (Or.inr (slot_ne (Or.inr (hw _ (List.mem_of_getElem? (i := 167) rfl))) (Or.inr (hw _ (List.mem_of_getElem? (i := 136) rfl))) (by decide) (t := .int) (t' := (.object "com/example/fixpoint_checker/fixpointchecker/IntList")) (by decide) (by decide)))
  have F_collectionThreshold_o_29 := F_collectionThreshold_o_28.other W29 (Or.inr (slot_ne (Or.inl (hw _ (List.mem_of_getElem? (i := 169) rfl))) (Or.inr (hw _ (List.mem_of_getElem? (i := 136) rfl))) (by decide) (t := .int) (t' := (.object "com/example/fixpoint_checker/fixpointchecker/IntList")) (by decide) (by decide)))
  have F_capacity_o_29 := F_capacity_o_28.other W29 (Or.inr (slot_ne (Or.inl (hw _ (List.mem_of_getElem? (i := 175) rfl))) (Or.inr (hw _ (List.mem_of_getElem? (i := 136) rfl))) (by decide) (t := .int) (t' := (.object "com/example/fixpoint_checker/fixpointchecker/IntList")) (by decide) (by decide)))
  have F_slots_o_29 := F_slots_o_28.other W29 (Or.inr (slot_ne (Or.inl (hw _ (List.mem_of_getElem? (i := 177) rfl))) (Or.inr (hw _ (List.mem_of_getElem? (i := 136) rfl))) (by decide) (t := (.array .long)) (t' := (.object "com/example/fixpoint_checker/fixpointchecker/IntList")) (by decide) (by decide)))
  have F_buckets_o_29 := F_buckets_o_28.other W29 (Or.inr (slot_ne (Or.inl (hw _ (List.mem_of_getElem? (i := 188) rfl))) (Or.inr (hw _ (List.mem_of_getElem? (i := 136) rfl))) (by decide) (t := (.array .int)) (t' := (.object "com/example/fixpoint_checker/fixpointchecker/IntList")) (by decide) (by decide)))
  have F_cache_o_29 := F_cache_o_28.other W29 (Or.inr (slot_ne (Or.inl (hw _ (List.mem_of_getElem? (i := 198) rfl))) (Or.inr (hw _ (List.mem_of_getElem? (i := 136) rfl))) (by decide) (t := (.array .int)) (t' := (.object "com/example/fixpoint_checker/fixpointchecker/IntList")) (by decide) (by decide)))
  have F_cacheMask_o_29 := F_cacheMask_o_28.other W29 (Or.inr (slot_ne (Or.inl (hw _ (List.mem_of_getElem? (i := 200) rfl))) (Or.inr (hw _ (List.mem_of_getElem? (i := 136) rfl))) (by decide) (t := .int) (t' := (.object "com/example/fixpoint_checker/fixpointchecker/IntList")) (by decide) (by decide)))
  have F_slotCount_o_29 := F_slotCount_o_28.other W29 (Or.inr (slot_ne (Or.inl (hw _ (List.mem_of_getElem? (i := 218) rfl))) (Or.inr (hw _ (List.mem_of_getElem? (i := 136) rfl))) (by decide) (t := .int) (t' := (.object "com/example/fixpoint_checker/fixpointchecker/IntList")) (by decide) (by decide)))
  have HOld_29 := HOld_28.wr W29 g_o
  have F_results_o_29 := F_results_o_28.same W29
  have K29 := KK28.wr W29 (Or.inl (by simp))
  have N29 := Fr.snoc X29 N28 g_o
  have Z29 := Nat.le_trans Z28 (Keep.of_wr W29).1
  refine OFin.to (T29.setTop (mkF m 113 #[.val (.ref o), .val (.int lv), .val (.int (0 : Int32))] [])) st29 ?_
  refine OFin.to (T29.setTop (mkF m 114 #[.val (.ref o), .val (.int lv), .val (.int (0 : Int32))] [(.ref o)])) (fun _ kt => XS.aloadN X29.here hx rfl (hb hby d6_113) rfl rfl kt) ?_
  obtain ⟨T30, h30, X30, e30, E30, A30, D30, -, st30⟩ := newO X29 hx hZ hown (hw _ (List.mem_of_getElem? (i := 117) rfl)) (hw _ (List.mem_of_getElem? (i := 69) rfl)) (hw _ (List.mem_of_getElem? (i := 70) rfl)) e29 (g := (mkF m 114 #[.val (.ref o), .val (.int lv), .val (.int (0 : Int32))] [(.ref o)])) rfl (hb hby d6_114) (by decide) (by decide)
  obtain ⟨b30, g30⟩ : ∃ z, z = h29.size := ⟨_, rfl⟩
  rw [← g30] at A30 D30 st30
  have g_b30 : n0 ≤ b30 := by rw [g30]; exact Z29
  have ne_o_b30 : o ≠ b30 := by rw [g30]; exact Nat.ne_of_lt E_o_29.lt
  have sz_b30 : h0.size ≤ b30 := by rw [g30]; exact K29.1
  have E_o_30 := E_o_29.ext E30
  have F_walkPending_o_30 := F_walkPending_o_29.ext E30
  have F_walkVisited_o_30 := F_walkVisited_o_29.ext E30
  have F_walkMarks_o_30 := F_walkMarks_o_29.ext E30
  have F_levelCount_o_30 := F_levelCount_o_29.ext E30
  have F_collectionFloor_o_30 := F_collectionFloor_o_29.ext E30
  have F_collectionThreshold_o_30 := F_collectionThreshold_o_29.ext E30
  have F_capacity_o_30 := F_capacity_o_29.ext E30
  have F_slots_o_30 := F_slots_o_29.ext E30
  have F_buckets_o_30 := F_buckets_o_29.ext E30
  have F_cache_o_30 := F_cache_o_29.ext E30
  have F_cacheMask_o_30 := F_cacheMask_o_29.ext E30
  have F_slotCount_o_30 := F_slotCount_o_29.ext E30
  have HOld_30 := HOld_29.ext E30
  have Z30 := Nat.le_trans Z29 E30.1
  have K30 := K29.ext E30
  have E_b30 := A30
  have F_values_b30 : Fld Z h30 b30 "com/example/fixpoint_checker/fixpointchecker/IntList" "values" "[I" .null := D30 (Or.inl (hw _ (List.mem_of_getElem? (i := 80) rfl))) (ty := (.array .int)) (by decide)
  refine OFin.to (T30.setTop (mkF m 117 #[.val (.ref o), .val (.int lv), .val (.int (0 : Int32))] [(.ref b30), (.ref o)])) st30 ?_
  refine OFin.to (T30.setTop (mkF m 118 #[.val (.ref o), .val (.int lv), .val (.int (0 : Int32))] [(.ref b30), (.ref b30), (.ref o)])) (fun _ kt => XS.dup X30.here hx rfl (hb hby d6_117) rfl rfl kt) ?_
  obtain ⟨v31, T31, L31, hQ31, X31, st31⟩ := own_callN X30 hx hZ hown rfl (hw _ (List.mem_of_getElem? (i := 118) rfl)) (hw _ (List.mem_of_getElem? (i := 72) rfl)) (hw _ (List.mem_of_getElem? (i := 73) rfl)) (hw _ (List.mem_of_getElem? (i := 70) rfl)) (by decide) e30 (rm8 l Z a0 hw [] b30 h30 n0 Z30 g_b30 E_b30 F_values_b30  ) 2 (by decide) (by decide) (by decide) (by decide) (g := (mkF m 118 #[.val (.ref o), .val (.int lv), .val (.int (0 : Int32))] [(.ref b30), (.ref b30), (.ref o)])) rfl (by rw [hml]; rfl) (rest := [(.ref b30), (.ref o)]) (lenOf pd_1 rfl) rfl (by show 2 * 0 + _ ≤ _; exact Nat.le_of_eq rfl) (hb hby d6_118)
  obtain ⟨rfl, Kq31, Nq31⟩ := hQ31
  refine OFin.to (T31.setTop (mkF m 121 #[.val (.ref o), .val (.int lv), .val (.int (0 : Int32))] [(.ref b30), (.ref o)])) st31 ?_
  have N31 := Fr.app N29 Nq31
  have Z31 := Nat.le_trans Z30 Kq31.1
  have E_o_31 := E_o_30.keep Kq31
  have F_walkPending_o_31 := F_walkPending_o_30.keep Kq31 (ninS ne_o_b30 nin0)
  have F_walkVisited_o_31 := F_walkVisited_o_30.keep Kq31 (ninS ne_o_b30 nin0)
  have F_walkMarks_o_31 := F_walkMarks_o_30.keep Kq31 (ninS ne_o_b30 nin0)
  have F_levelCount_o_31 := F_levelCount_o_30.keep Kq31 (ninS ne_o_b30 nin0)
  have F_collectionFloor_o_31 := F_collectionFloor_o_30.keep Kq31 (ninS ne_o_b30 nin0)
  have F_collectionThreshold_o_31 := F_collectionThreshold_o_30.keep Kq31 (ninS ne_o_b30 nin0)
  have F_capacity_o_31 := F_capacity_o_30.keep Kq31 (ninS ne_o_b30 nin0)
  have F_slots_o_31 := F_slots_o_30.keep Kq31 (ninS ne_o_b30 nin0)
  have F_buckets_o_31 := F_buckets_o_30.keep Kq31 (ninS ne_o_b30 nin0)
  have F_cache_o_31 := F_cache_o_30.keep Kq31 (ninS ne_o_b30 nin0)
  have F_cacheMask_o_31 := F_cacheMask_o_30.keep Kq31 (ninS ne_o_b30 nin0)
  have F_slotCount_o_31 := F_slotCount_o_30.keep Kq31 (ninS ne_o_b30 nin0)
  have HOld_31 := HOld_30.keep Kq31 (allS g_b30 all0)
  have E_b30_31 := E_b30.keep Kq31
  have KK31 := K30.trans Kq31 (fun x hx' => by cases List.mem_singleton.mp hx'; exact Or.inr sz_b30)
  obtain ⟨T32, h32, X32, e32, W32, st32⟩ := putF X31 hx hZ hown (host := "") (Or.inl (hw _ (List.mem_of_getElem? (i := 137) rfl))) Via.refl rfl F_walkPending_o_31 E_o_31 (Or.inr ⟨(hw _ (List.mem_of_getElem? (i := 138) rfl)), rfl, hnm⟩) (hw _ (List.mem_of_getElem? (i := 41) rfl)) (ty := (.object "com/example/fixpoint_checker/fixpointchecker/IntList")) (by decide) rfl rfl (g := (mkF m 121 #[.val (.ref o), .val (.int lv), .val (.int (0 : Int32))] [(.ref b30), (.ref o)])) rfl rfl (hb hby d6_121)
  have E_o_32 := E_o_31.wr W32
  have F_walkVisited_o_32 := F_walkVisited_o_31.other W32 (Or.inr (slot_ne (Or.inr (hw _ (List.mem_of_getElem? (i := 140) rfl))) (Or.inr (hw _ (List.mem_of_getElem? (i := 138) rfl))) (by decide) (t := (.object "com/example/fixpoint_checker/fixpointchecker/IntList")) (t' := (.object "com/example/fixpoint_checker/fixpointchecker/IntList")) (by decide) (by decide)))
  have F_walkMarks_o_32 := F_walkMarks_o_31.other W32 (Or.inr (slot_ne (Or.inr (hw _ (List.mem_of_getElem? (i := 163) rfl))) (Or.inr (hw _ (List.mem_of_getElem? (i := 138) rfl))) (by decide) (t := (.object "java/util/BitSet")) (t' := (.object "com/example/fixpoint_checker/fixpointchecker/IntList")) (by decide) (by decide)))
  have F_levelCount_o_32 := F_levelCount_o_31.other W32 (Or.inr (slot_ne (Or.inr (hw _ (List.mem_of_getElem? (i := 165) rfl))) (Or.inr (hw _ (List.mem_of_getElem? (i := 138) rfl))) (by decide) (t := .int) (t' := (.object "com/example/fixpoint_checker/fixpointchecker/IntList")) (by decide) (by decide)))
  have F_collectionFloor_o_32 := F_collectionFloor_o_31.other W32 (Or.inr (slot_ne (Or.inr (hw _ (List.mem_of_getElem? (i := 167) rfl))) (Or.inr (hw _ (List.mem_of_getElem? (i := 138) rfl))) (by decide) (t := .int) (t' := (.object "com/example/fixpoint_checker/fixpointchecker/IntList")) (by decide) (by decide)))
  have F_collectionThreshold_o_32 := F_collectionThreshold_o_31.other W32 (Or.inr (slot_ne (Or.inl (hw _ (List.mem_of_getElem? (i := 169) rfl))) (Or.inr (hw _ (List.mem_of_getElem? (i := 138) rfl))) (by decide) (t := .int) (t' := (.object "com/example/fixpoint_checker/fixpointchecker/IntList")) (by decide) (by decide)))
  have F_capacity_o_32 := F_capacity_o_31.other W32 (Or.inr (slot_ne (Or.inl (hw _ (List.mem_of_getElem? (i := 175) rfl))) (Or.inr (hw _ (List.mem_of_getElem? (i := 138) rfl))) (by decide) (t := .int) (t' := (.object "com/example/fixpoint_checker/fixpointchecker/IntList")) (by decide) (by decide)))
  have F_slots_o_32 := F_slots_o_31.other W32 (Or.inr (slot_ne (Or.inl (hw _ (List.mem_of_getElem? (i := 177) rfl))) (Or.inr (hw _ (List.mem_of_getElem? (i := 138) rfl))) (by decide) (t := (.array .long)) (t' := (.object "com/example/fixpoint_checker/fixpointchecker/IntList")) (by decide) (by decide)))
  have F_buckets_o_32 := F_buckets_o_31.other W32 (Or.inr (slot_ne (Or.inl (hw _ (List.mem_of_getElem? (i := 188) rfl))) (Or.inr (hw _ (List.mem_of_getElem? (i := 138) rfl))) (by decide) (t := (.array .int)) (t' := (.object "com/example/fixpoint_checker/fixpointchecker/IntList")) (by decide) (by decide)))
  have F_cache_o_32 := F_cache_o_31.other W32 (Or.inr (slot_ne (Or.inl (hw _ (List.mem_of_getElem? (i := 198) rfl))) (Or.inr (hw _ (List.mem_of_getElem? (i := 138) rfl))) (by decide) (t := (.array .int)) (t' := (.object "com/example/fixpoint_checker/fixpointchecker/IntList")) (by decide) (by decide)))
  have F_cacheMask_o_32 := F_cacheMask_o_31.other W32 (Or.inr (slot_ne (Or.inl (hw _ (List.mem_of_getElem? (i := 200) rfl))) (Or.inr (hw _ (List.mem_of_getElem? (i := 138) rfl))) (by decide) (t := .int) (t' := (.object "com/example/fixpoint_checker/fixpointchecker/IntList")) (by decide) (by decide)))
  have F_slotCount_o_32 := F_slotCount_o_31.other W32 (Or.inr (slot_ne (Or.inl (hw _ (List.mem_of_getElem? (i := 218) rfl))) (Or.inr (hw _ (List.mem_of_getElem? (i := 138) rfl))) (by decide) (t := .int) (t' := (.object "com/example/fixpoint_checker/fixpointchecker/IntList")) (by decide) (by decide)))
  have HOld_32 := HOld_31.wr W32 g_o
  have F_walkPending_o_32 := F_walkPending_o_31.same W32
  have K32 := KK31.wr W32 (Or.inl (by simp))
  have N32 := Fr.snoc X32 N31 g_o
  have Z32 := Nat.le_trans Z31 (Keep.of_wr W32).1
  refine OFin.to (T32.setTop (mkF m 124 #[.val (.ref o), .val (.int lv), .val (.int (0 : Int32))] [])) st32 ?_
  refine OFin.to (T32.setTop (mkF m 125 #[.val (.ref o), .val (.int lv), .val (.int (0 : Int32))] [(.ref o)])) (fun _ kt => XS.aloadN X32.here hx rfl (hb hby d6_124) rfl rfl kt) ?_
  obtain ⟨T33, h33, X33, e33, E33, A33, D33, -, st33⟩ := newO X32 hx hZ hown (hw _ (List.mem_of_getElem? (i := 117) rfl)) (hw _ (List.mem_of_getElem? (i := 69) rfl)) (hw _ (List.mem_of_getElem? (i := 70) rfl)) e32 (g := (mkF m 125 #[.val (.ref o), .val (.int lv), .val (.int (0 : Int32))] [(.ref o)])) rfl (hb hby d6_125) (by decide) (by decide)
  obtain ⟨b33, g33⟩ : ∃ z, z = h32.size := ⟨_, rfl⟩
  rw [← g33] at A33 D33 st33
  have g_b33 : n0 ≤ b33 := by rw [g33]; exact Z32
  have ne_o_b33 : o ≠ b33 := by rw [g33]; exact Nat.ne_of_lt E_o_32.lt
  have sz_b33 : h0.size ≤ b33 := by rw [g33]; exact K32.1
  have E_o_33 := E_o_32.ext E33
  have F_walkVisited_o_33 := F_walkVisited_o_32.ext E33
  have F_walkMarks_o_33 := F_walkMarks_o_32.ext E33
  have F_levelCount_o_33 := F_levelCount_o_32.ext E33
  have F_collectionFloor_o_33 := F_collectionFloor_o_32.ext E33
  have F_collectionThreshold_o_33 := F_collectionThreshold_o_32.ext E33
  have F_capacity_o_33 := F_capacity_o_32.ext E33
  have F_slots_o_33 := F_slots_o_32.ext E33
  have F_buckets_o_33 := F_buckets_o_32.ext E33
  have F_cache_o_33 := F_cache_o_32.ext E33
  have F_cacheMask_o_33 := F_cacheMask_o_32.ext E33
  have F_slotCount_o_33 := F_slotCount_o_32.ext E33
  have HOld_33 := HOld_32.ext E33
  have Z33 := Nat.le_trans Z32 E33.1
  have K33 := K32.ext E33
  have E_b33 := A33
  have F_values_b33 : Fld Z h33 b33 "com/example/fixpoint_checker/fixpointchecker/IntList" "values" "[I" .null := D33 (Or.inl (hw _ (List.mem_of_getElem? (i := 80) rfl))) (ty := (.array .int)) (by decide)
  refine OFin.to (T33.setTop (mkF m 128 #[.val (.ref o), .val (.int lv), .val (.int (0 : Int32))] [(.ref b33), (.ref o)])) st33 ?_
  refine OFin.to (T33.setTop (mkF m 129 #[.val (.ref o), .val (.int lv), .val (.int (0 : Int32))] [(.ref b33), (.ref b33), (.ref o)])) (fun _ kt => XS.dup X33.here hx rfl (hb hby d6_128) rfl rfl kt) ?_
  obtain ⟨v34, T34, L34, hQ34, X34, st34⟩ := own_callN X33 hx hZ hown rfl (hw _ (List.mem_of_getElem? (i := 118) rfl)) (hw _ (List.mem_of_getElem? (i := 72) rfl)) (hw _ (List.mem_of_getElem? (i := 73) rfl)) (hw _ (List.mem_of_getElem? (i := 70) rfl)) (by decide) e33 (rm8 l Z a0 hw [] b33 h33 n0 Z33 g_b33 E_b33 F_values_b33  ) 2 (by decide) (by decide) (by decide) (by decide) (g := (mkF m 129 #[.val (.ref o), .val (.int lv), .val (.int (0 : Int32))] [(.ref b33), (.ref b33), (.ref o)])) rfl (by rw [hml]; rfl) (rest := [(.ref b33), (.ref o)]) (lenOf pd_1 rfl) rfl (by show 2 * 0 + _ ≤ _; exact Nat.le_of_eq rfl) (hb hby d6_129)
  obtain ⟨rfl, Kq34, Nq34⟩ := hQ34
  refine OFin.to (T34.setTop (mkF m 132 #[.val (.ref o), .val (.int lv), .val (.int (0 : Int32))] [(.ref b33), (.ref o)])) st34 ?_
  have N34 := Fr.app N32 Nq34
  have Z34 := Nat.le_trans Z33 Kq34.1
  have E_o_34 := E_o_33.keep Kq34
  have F_walkVisited_o_34 := F_walkVisited_o_33.keep Kq34 (ninS ne_o_b33 nin0)
  have F_walkMarks_o_34 := F_walkMarks_o_33.keep Kq34 (ninS ne_o_b33 nin0)
  have F_levelCount_o_34 := F_levelCount_o_33.keep Kq34 (ninS ne_o_b33 nin0)
  have F_collectionFloor_o_34 := F_collectionFloor_o_33.keep Kq34 (ninS ne_o_b33 nin0)
  have F_collectionThreshold_o_34 := F_collectionThreshold_o_33.keep Kq34 (ninS ne_o_b33 nin0)
  have F_capacity_o_34 := F_capacity_o_33.keep Kq34 (ninS ne_o_b33 nin0)
  have F_slots_o_34 := F_slots_o_33.keep Kq34 (ninS ne_o_b33 nin0)
  have F_buckets_o_34 := F_buckets_o_33.keep Kq34 (ninS ne_o_b33 nin0)
  have F_cache_o_34 := F_cache_o_33.keep Kq34 (ninS ne_o_b33 nin0)
  have F_cacheMask_o_34 := F_cacheMask_o_33.keep Kq34 (ninS ne_o_b33 nin0)
  have F_slotCount_o_34 := F_slotCount_o_33.keep Kq34 (ninS ne_o_b33 nin0)
  have HOld_34 := HOld_33.keep Kq34 (allS g_b33 all0)
  have E_b33_34 := E_b33.keep Kq34
  have KK34 := K33.trans Kq34 (fun x hx' => by cases List.mem_singleton.mp hx'; exact Or.inr sz_b33)
  obtain ⟨T35, h35, X35, e35, W35, st35⟩ := putF X34 hx hZ hown (host := "") (Or.inl (hw _ (List.mem_of_getElem? (i := 139) rfl))) Via.refl rfl F_walkVisited_o_34 E_o_34 (Or.inr ⟨(hw _ (List.mem_of_getElem? (i := 140) rfl)), rfl, hnm⟩) (hw _ (List.mem_of_getElem? (i := 41) rfl)) (ty := (.object "com/example/fixpoint_checker/fixpointchecker/IntList")) (by decide) rfl rfl (g := (mkF m 132 #[.val (.ref o), .val (.int lv), .val (.int (0 : Int32))] [(.ref b33), (.ref o)])) rfl rfl (hb hby d6_132)
  have E_o_35 := E_o_34.wr W35
  have F_walkMarks_o_35 := F_walkMarks_o_34.other W35 (Or.inr (slot_ne (Or.inr (hw _ (List.mem_of_getElem? (i := 163) rfl))) (Or.inr (hw _ (List.mem_of_getElem? (i := 140) rfl))) (by decide) (t := (.object "java/util/BitSet")) (t' := (.object "com/example/fixpoint_checker/fixpointchecker/IntList")) (by decide) (by decide)))
  have F_levelCount_o_35 := F_levelCount_o_34.other W35 (Or.inr (slot_ne (Or.inr (hw _ (List.mem_of_getElem? (i := 165) rfl))) (Or.inr (hw _ (List.mem_of_getElem? (i := 140) rfl))) (by decide) (t := .int) (t' := (.object "com/example/fixpoint_checker/fixpointchecker/IntList")) (by decide) (by decide)))
  have F_collectionFloor_o_35 := F_collectionFloor_o_34.other W35 (Or.inr (slot_ne (Or.inr (hw _ (List.mem_of_getElem? (i := 167) rfl))) (Or.inr (hw _ (List.mem_of_getElem? (i := 140) rfl))) (by decide) (t := .int) (t' := (.object "com/example/fixpoint_checker/fixpointchecker/IntList")) (by decide) (by decide)))
  have F_collectionThreshold_o_35 := F_collectionThreshold_o_34.other W35 (Or.inr (slot_ne (Or.inl (hw _ (List.mem_of_getElem? (i := 169) rfl))) (Or.inr (hw _ (List.mem_of_getElem? (i := 140) rfl))) (by decide) (t := .int) (t' := (.object "com/example/fixpoint_checker/fixpointchecker/IntList")) (by decide) (by decide)))
  have F_capacity_o_35 := F_capacity_o_34.other W35 (Or.inr (slot_ne (Or.inl (hw _ (List.mem_of_getElem? (i := 175) rfl))) (Or.inr (hw _ (List.mem_of_getElem? (i := 140) rfl))) (by decide) (t := .int) (t' := (.object "com/example/fixpoint_checker/fixpointchecker/IntList")) (by decide) (by decide)))
  have F_slots_o_35 := F_slots_o_34.other W35 (Or.inr (slot_ne (Or.inl (hw _ (List.mem_of_getElem? (i := 177) rfl))) (Or.inr (hw _ (List.mem_of_getElem? (i := 140) rfl))) (by decide) (t := (.array .long)) (t' := (.object "com/example/fixpoint_checker/fixpointchecker/IntList")) (by decide) (by decide)))
  have F_buckets_o_35 := F_buckets_o_34.other W35 (Or.inr (slot_ne (Or.inl (hw _ (List.mem_of_getElem? (i := 188) rfl))) (Or.inr (hw _ (List.mem_of_getElem? (i := 140) rfl))) (by decide) (t := (.array .int)) (t' := (.object "com/example/fixpoint_checker/fixpointchecker/IntList")) (by decide) (by decide)))
  have F_cache_o_35 := F_cache_o_34.other W35 (Or.inr (slot_ne (Or.inl (hw _ (List.mem_of_getElem? (i := 198) rfl))) (Or.inr (hw _ (List.mem_of_getElem? (i := 140) rfl))) (by decide) (t := (.array .int)) (t' := (.object "com/example/fixpoint_checker/fixpointchecker/IntList")) (by decide) (by decide)))
  have F_cacheMask_o_35 := F_cacheMask_o_34.other W35 (Or.inr (slot_ne (Or.inl (hw _ (List.mem_of_getElem? (i := 200) rfl))) (Or.inr (hw _ (List.mem_of_getElem? (i := 140) rfl))) (by decide) (t := .int) (t' := (.object "com/example/fixpoint_checker/fixpointchecker/IntList")) (by decide) (by decide)))
  have F_slotCount_o_35 := F_slotCount_o_34.other W35 (Or.inr (slot_ne (Or.inl (hw _ (List.mem_of_getElem? (i := 218) rfl))) (Or.inr (hw _ (List.mem_of_getElem? (i := 140) rfl))) (by decide) (t := .int) (t' := (.object "com/example/fixpoint_checker/fixpointchecker/IntList")) (by decide) (by decide)))
  have HOld_35 := HOld_34.wr W35 g_o
  have F_walkVisited_o_35 := F_walkVisited_o_34.same W35
  have K35 := KK34.wr W35 (Or.inl (by simp))
  have N35 := Fr.snoc X35 N34 g_o
  have Z35 := Nat.le_trans Z34 (Keep.of_wr W35).1
  refine OFin.to (T35.setTop (mkF m 135 #[.val (.ref o), .val (.int lv), .val (.int (0 : Int32))] [])) st35 ?_
  refine OFin.to (T35.setTop (mkF m 136 #[.val (.ref o), .val (.int lv), .val (.int (0 : Int32))] [(.ref o)])) (fun _ kt => XS.aloadN X35.here hx rfl (hb hby d6_135) rfl rfl kt) ?_
  obtain ⟨T36, h36, X36, e36, E36, A36, D36, -, st36⟩ := newO X35 hx hZ hown (hw _ (List.mem_of_getElem? (i := 141) rfl)) (hw _ (List.mem_of_getElem? (i := 142) rfl)) (hw _ (List.mem_of_getElem? (i := 143) rfl)) e35 (g := (mkF m 136 #[.val (.ref o), .val (.int lv), .val (.int (0 : Int32))] [(.ref o)])) rfl (hb hby d6_136) (by decide) (by decide)
  obtain ⟨b36, g36⟩ : ∃ z, z = h35.size := ⟨_, rfl⟩
  rw [← g36] at A36 D36 st36
  have g_b36 : n0 ≤ b36 := by rw [g36]; exact Z35
  have ne_o_b36 : o ≠ b36 := by rw [g36]; exact Nat.ne_of_lt E_o_35.lt
  have sz_b36 : h0.size ≤ b36 := by rw [g36]; exact K35.1
  have E_o_36 := E_o_35.ext E36
  have F_walkMarks_o_36 := F_walkMarks_o_35.ext E36
  have F_levelCount_o_36 := F_levelCount_o_35.ext E36
  have F_collectionFloor_o_36 := F_collectionFloor_o_35.ext E36
  have F_collectionThreshold_o_36 := F_collectionThreshold_o_35.ext E36
  have F_capacity_o_36 := F_capacity_o_35.ext E36
  have F_slots_o_36 := F_slots_o_35.ext E36
  have F_buckets_o_36 := F_buckets_o_35.ext E36
  have F_cache_o_36 := F_cache_o_35.ext E36
  have F_cacheMask_o_36 := F_cacheMask_o_35.ext E36
  have F_slotCount_o_36 := F_slotCount_o_35.ext E36
  have HOld_36 := HOld_35.ext E36
  have Z36 := Nat.le_trans Z35 E36.1
  have K36 := K35.ext E36
  have E_b36 := A36
  have F_wordsInUse_b36 : Fld Z h36 b36 "java/util/BitSet" "wordsInUse" "I" (.int (0 : Int32)) := D36 (Or.inl (hw _ (List.mem_of_getElem? (i := 149) rfl))) (ty := .int) (by decide)
  have F_sizeIsSticky_b36 : Fld Z h36 b36 "java/util/BitSet" "sizeIsSticky" "Z" (.int (0 : Int32)) := D36 (Or.inl (hw _ (List.mem_of_getElem? (i := 151) rfl))) (ty := .boolean) (by decide)
  have F_words_b36 : Fld Z h36 b36 "java/util/BitSet" "words" "[J" .null := D36 (Or.inl (hw _ (List.mem_of_getElem? (i := 161) rfl))) (ty := (.array .long)) (by decide)
  refine OFin.to (T36.setTop (mkF m 139 #[.val (.ref o), .val (.int lv), .val (.int (0 : Int32))] [(.ref b36), (.ref o)])) st36 ?_
  refine OFin.to (T36.setTop (mkF m 140 #[.val (.ref o), .val (.int lv), .val (.int (0 : Int32))] [(.ref b36), (.ref b36), (.ref o)])) (fun _ kt => XS.dup X36.here hx rfl (hb hby d6_139) rfl rfl kt) ?_
  obtain ⟨v37, T37, L37, hQ37, X37, st37⟩ := own_callN X36 hx hZ hown rfl (hw _ (List.mem_of_getElem? (i := 144) rfl)) (hw _ (List.mem_of_getElem? (i := 145) rfl)) (hw _ (List.mem_of_getElem? (i := 146) rfl)) (hw _ (List.mem_of_getElem? (i := 143) rfl)) (by decide) e36 (rm13 l Z a0 hw [] b36 h36 n0 Z36 g_b36 E_b36 F_wordsInUse_b36 F_sizeIsSticky_b36 F_words_b36  ) 2 (by decide) (by decide) (by decide) (by decide) (g := (mkF m 140 #[.val (.ref o), .val (.int lv), .val (.int (0 : Int32))] [(.ref b36), (.ref b36), (.ref o)])) rfl (by rw [hml]; rfl) (rest := [(.ref b36), (.ref o)]) (lenOf pd_1 rfl) rfl (by show 2 * 0 + _ ≤ _; exact Nat.le_of_eq rfl) (hb hby d6_140)
  obtain ⟨rfl, Kq37, Nq37⟩ := hQ37
  refine OFin.to (T37.setTop (mkF m 143 #[.val (.ref o), .val (.int lv), .val (.int (0 : Int32))] [(.ref b36), (.ref o)])) st37 ?_
  have N37 := Fr.app N35 Nq37
  have Z37 := Nat.le_trans Z36 Kq37.1
  have E_o_37 := E_o_36.keep Kq37
  have F_walkMarks_o_37 := F_walkMarks_o_36.keep Kq37 (ninS ne_o_b36 nin0)
  have F_levelCount_o_37 := F_levelCount_o_36.keep Kq37 (ninS ne_o_b36 nin0)
  have F_collectionFloor_o_37 := F_collectionFloor_o_36.keep Kq37 (ninS ne_o_b36 nin0)
  have F_collectionThreshold_o_37 := F_collectionThreshold_o_36.keep Kq37 (ninS ne_o_b36 nin0)
  have F_capacity_o_37 := F_capacity_o_36.keep Kq37 (ninS ne_o_b36 nin0)
  have F_slots_o_37 := F_slots_o_36.keep Kq37 (ninS ne_o_b36 nin0)
  have F_buckets_o_37 := F_buckets_o_36.keep Kq37 (ninS ne_o_b36 nin0)
  have F_cache_o_37 := F_cache_o_36.keep Kq37 (ninS ne_o_b36 nin0)
  have F_cacheMask_o_37 := F_cacheMask_o_36.keep Kq37 (ninS ne_o_b36 nin0)
  have F_slotCount_o_37 := F_slotCount_o_36.keep Kq37 (ninS ne_o_b36 nin0)
  have HOld_37 := HOld_36.keep Kq37 (allS g_b36 all0)
  have E_b36_37 := E_b36.keep Kq37
  have KK37 := K36.trans Kq37 (fun x hx' => by cases List.mem_singleton.mp hx'; exact Or.inr sz_b36)
  obtain ⟨T38, h38, X38, e38, W38, st38⟩ := putF X37 hx hZ hown (host := "") (Or.inl (hw _ (List.mem_of_getElem? (i := 162) rfl))) Via.refl rfl F_walkMarks_o_37 E_o_37 (Or.inr ⟨(hw _ (List.mem_of_getElem? (i := 163) rfl)), rfl, hnm⟩) (hw _ (List.mem_of_getElem? (i := 41) rfl)) (ty := (.object "java/util/BitSet")) (by decide) rfl rfl (g := (mkF m 143 #[.val (.ref o), .val (.int lv), .val (.int (0 : Int32))] [(.ref b36), (.ref o)])) rfl rfl (hb hby d6_143)
  have E_o_38 := E_o_37.wr W38
  have F_levelCount_o_38 := F_levelCount_o_37.other W38 (Or.inr (slot_ne (Or.inr (hw _ (List.mem_of_getElem? (i := 165) rfl))) (Or.inr (hw _ (List.mem_of_getElem? (i := 163) rfl))) (by decide) (t := .int) (t' := (.object "java/util/BitSet")) (by decide) (by decide)))
  have F_collectionFloor_o_38 := F_collectionFloor_o_37.other W38 (Or.inr (slot_ne (Or.inr (hw _ (List.mem_of_getElem? (i := 167) rfl))) (Or.inr (hw _ (List.mem_of_getElem? (i := 163) rfl))) (by decide) (t := .int) (t' := (.object "java/util/BitSet")) (by decide) (by decide)))
  have F_collectionThreshold_o_38 := F_collectionThreshold_o_37.other W38 (Or.inr (slot_ne (Or.inl (hw _ (List.mem_of_getElem? (i := 169) rfl))) (Or.inr (hw _ (List.mem_of_getElem? (i := 163) rfl))) (by decide) (t := .int) (t' := (.object "java/util/BitSet")) (by decide) (by decide)))
  have F_capacity_o_38 := F_capacity_o_37.other W38 (Or.inr (slot_ne (Or.inl (hw _ (List.mem_of_getElem? (i := 175) rfl))) (Or.inr (hw _ (List.mem_of_getElem? (i := 163) rfl))) (by decide) (t := .int) (t' := (.object "java/util/BitSet")) (by decide) (by decide)))
  have F_slots_o_38 := F_slots_o_37.other W38 (Or.inr (slot_ne (Or.inl (hw _ (List.mem_of_getElem? (i := 177) rfl))) (Or.inr (hw _ (List.mem_of_getElem? (i := 163) rfl))) (by decide) (t := (.array .long)) (t' := (.object "java/util/BitSet")) (by decide) (by decide)))
  have F_buckets_o_38 := F_buckets_o_37.other W38 (Or.inr (slot_ne (Or.inl (hw _ (List.mem_of_getElem? (i := 188) rfl))) (Or.inr (hw _ (List.mem_of_getElem? (i := 163) rfl))) (by decide) (t := (.array .int)) (t' := (.object "java/util/BitSet")) (by decide) (by decide)))
  have F_cache_o_38 := F_cache_o_37.other W38 (Or.inr (slot_ne (Or.inl (hw _ (List.mem_of_getElem? (i := 198) rfl))) (Or.inr (hw _ (List.mem_of_getElem? (i := 163) rfl))) (by decide) (t := (.array .int)) (t' := (.object "java/util/BitSet")) (by decide) (by decide)))
  have F_cacheMask_o_38 := F_cacheMask_o_37.other W38 (Or.inr (slot_ne (Or.inl (hw _ (List.mem_of_getElem? (i := 200) rfl))) (Or.inr (hw _ (List.mem_of_getElem? (i := 163) rfl))) (by decide) (t := .int) (t' := (.object "java/util/BitSet")) (by decide) (by decide)))
  have F_slotCount_o_38 := F_slotCount_o_37.other W38 (Or.inr (slot_ne (Or.inl (hw _ (List.mem_of_getElem? (i := 218) rfl))) (Or.inr (hw _ (List.mem_of_getElem? (i := 163) rfl))) (by decide) (t := .int) (t' := (.object "java/util/BitSet")) (by decide) (by decide)))
  have HOld_38 := HOld_37.wr W38 g_o
  have F_walkMarks_o_38 := F_walkMarks_o_37.same W38
  have K38 := KK37.wr W38 (Or.inl (by simp))
  have N38 := Fr.snoc X38 N37 g_o
  have Z38 := Nat.le_trans Z37 (Keep.of_wr W38).1
  refine OFin.to (T38.setTop (mkF m 146 #[.val (.ref o), .val (.int lv), .val (.int (0 : Int32))] [])) st38 ?_
  refine OFin.to (T38.setTop (mkF m 147 #[.val (.ref o), .val (.int lv), .val (.int (0 : Int32))] [(.int lv)])) (fun _ kt => XS.iloadN X38.here hx rfl (hb hby d6_146) rfl kt) ?_
  refine OFin.to (T38.setTop (mkF m 150 #[.val (.ref o), .val (.int lv), .val (.int (0 : Int32))] [])) (fun _ kt => XS.ifNo X38.here hx rfl (hb hby d6_147) rfl (XT.i0_lt_f hlv) kt) ?_
  refine OFin.to (T38.setTop (mkF m 151 #[.val (.ref o), .val (.int lv), .val (.int (0 : Int32))] [(.int (0 : Int32))])) (fun _ kt => XS.iloadN X38.here hx rfl (hb hby d6_150) rfl kt) ?_
  refine OFin.to (T38.setTop (mkF m 169 #[.val (.ref o), .val (.int lv), .val (.int (0 : Int32))] [])) (fun _ kt => XS.ifYes X38.here hx rfl (pc0 := 151) (pc' := 169) rfl (hb hby d6_151) rfl (XT.i0_ge_t Int32.lt_irrefl) (by decide) (by decide) kt) ?_
  refine OFin.to (T38.setTop (mkF m 170 #[.val (.ref o), .val (.int lv), .val (.int (0 : Int32))] [(.ref o)])) (fun _ kt => XS.aloadN X38.here hx rfl (hb hby d6_169) rfl rfl kt) ?_
  refine OFin.to (T38.setTop (mkF m 171 #[.val (.ref o), .val (.int lv), .val (.int (0 : Int32))] [(.int lv), (.ref o)])) (fun _ kt => XS.iloadN X38.here hx rfl (hb hby d6_170) rfl kt) ?_
  obtain ⟨T39, h39, X39, e39, W39, st39⟩ := putF X38 hx hZ hown (host := "") (Or.inl (hw _ (List.mem_of_getElem? (i := 164) rfl))) Via.refl e38 F_levelCount_o_38 E_o_38 (Or.inr ⟨(hw _ (List.mem_of_getElem? (i := 165) rfl)), rfl, hnm⟩) (hw _ (List.mem_of_getElem? (i := 41) rfl)) (ty := .int) (by decide) rfl rfl (g := (mkF m 171 #[.val (.ref o), .val (.int lv), .val (.int (0 : Int32))] [(.int lv), (.ref o)])) rfl rfl (hb hby d6_171)
  have E_o_39 := E_o_38.wr W39
  have F_collectionFloor_o_39 := F_collectionFloor_o_38.other W39 (Or.inr (slot_ne (Or.inr (hw _ (List.mem_of_getElem? (i := 167) rfl))) (Or.inr (hw _ (List.mem_of_getElem? (i := 165) rfl))) (by decide) (t := .int) (t' := .int) (by decide) (by decide)))
  have F_collectionThreshold_o_39 := F_collectionThreshold_o_38.other W39 (Or.inr (slot_ne (Or.inl (hw _ (List.mem_of_getElem? (i := 169) rfl))) (Or.inr (hw _ (List.mem_of_getElem? (i := 165) rfl))) (by decide) (t := .int) (t' := .int) (by decide) (by decide)))
  have F_capacity_o_39 := F_capacity_o_38.other W39 (Or.inr (slot_ne (Or.inl (hw _ (List.mem_of_getElem? (i := 175) rfl))) (Or.inr (hw _ (List.mem_of_getElem? (i := 165) rfl))) (by decide) (t := .int) (t' := .int) (by decide) (by decide)))
  have F_slots_o_39 := F_slots_o_38.other W39 (Or.inr (slot_ne (Or.inl (hw _ (List.mem_of_getElem? (i := 177) rfl))) (Or.inr (hw _ (List.mem_of_getElem? (i := 165) rfl))) (by decide) (t := (.array .long)) (t' := .int) (by decide) (by decide)))
  have F_buckets_o_39 := F_buckets_o_38.other W39 (Or.inr (slot_ne (Or.inl (hw _ (List.mem_of_getElem? (i := 188) rfl))) (Or.inr (hw _ (List.mem_of_getElem? (i := 165) rfl))) (by decide) (t := (.array .int)) (t' := .int) (by decide) (by decide)))
  have F_cache_o_39 := F_cache_o_38.other W39 (Or.inr (slot_ne (Or.inl (hw _ (List.mem_of_getElem? (i := 198) rfl))) (Or.inr (hw _ (List.mem_of_getElem? (i := 165) rfl))) (by decide) (t := (.array .int)) (t' := .int) (by decide) (by decide)))
  have F_cacheMask_o_39 := F_cacheMask_o_38.other W39 (Or.inr (slot_ne (Or.inl (hw _ (List.mem_of_getElem? (i := 200) rfl))) (Or.inr (hw _ (List.mem_of_getElem? (i := 165) rfl))) (by decide) (t := .int) (t' := .int) (by decide) (by decide)))
  have F_slotCount_o_39 := F_slotCount_o_38.other W39 (Or.inr (slot_ne (Or.inl (hw _ (List.mem_of_getElem? (i := 218) rfl))) (Or.inr (hw _ (List.mem_of_getElem? (i := 165) rfl))) (by decide) (t := .int) (t' := .int) (by decide) (by decide)))
  have HOld_39 := HOld_38.wr W39 g_o
  have F_levelCount_o_39 := F_levelCount_o_38.same W39
  have K39 := K38.wr W39 (Or.inl (by simp))
  have N39 := Fr.snoc X39 N38 g_o
  have Z39 := Nat.le_trans Z38 (Keep.of_wr W39).1
  refine OFin.to (T39.setTop (mkF m 174 #[.val (.ref o), .val (.int lv), .val (.int (0 : Int32))] [])) st39 ?_
  refine OFin.to (T39.setTop (mkF m 175 #[.val (.ref o), .val (.int lv), .val (.int (0 : Int32))] [(.ref o)])) (fun _ kt => XS.aloadN X39.here hx rfl (hb hby d6_174) rfl rfl kt) ?_
  refine OFin.to (T39.setTop (mkF m 176 #[.val (.ref o), .val (.int lv), .val (.int (0 : Int32))] [(.int (0 : Int32)), (.ref o)])) (fun _ kt => XS.iloadN X39.here hx rfl (hb hby d6_175) rfl kt) ?_
  obtain ⟨T40, h40, X40, e40, W40, st40⟩ := putF X39 hx hZ hown (host := "") (Or.inl (hw _ (List.mem_of_getElem? (i := 166) rfl))) Via.refl e39 F_collectionFloor_o_39 E_o_39 (Or.inr ⟨(hw _ (List.mem_of_getElem? (i := 167) rfl)), rfl, hnm⟩) (hw _ (List.mem_of_getElem? (i := 41) rfl)) (ty := .int) (by decide) rfl rfl (g := (mkF m 176 #[.val (.ref o), .val (.int lv), .val (.int (0 : Int32))] [(.int (0 : Int32)), (.ref o)])) rfl rfl (hb hby d6_176)
  have E_o_40 := E_o_39.wr W40
  have F_collectionThreshold_o_40 := F_collectionThreshold_o_39.other W40 (Or.inr (slot_ne (Or.inl (hw _ (List.mem_of_getElem? (i := 169) rfl))) (Or.inr (hw _ (List.mem_of_getElem? (i := 167) rfl))) (by decide) (t := .int) (t' := .int) (by decide) (by decide)))
  have F_capacity_o_40 := F_capacity_o_39.other W40 (Or.inr (slot_ne (Or.inl (hw _ (List.mem_of_getElem? (i := 175) rfl))) (Or.inr (hw _ (List.mem_of_getElem? (i := 167) rfl))) (by decide) (t := .int) (t' := .int) (by decide) (by decide)))
  have F_slots_o_40 := F_slots_o_39.other W40 (Or.inr (slot_ne (Or.inl (hw _ (List.mem_of_getElem? (i := 177) rfl))) (Or.inr (hw _ (List.mem_of_getElem? (i := 167) rfl))) (by decide) (t := (.array .long)) (t' := .int) (by decide) (by decide)))
  have F_buckets_o_40 := F_buckets_o_39.other W40 (Or.inr (slot_ne (Or.inl (hw _ (List.mem_of_getElem? (i := 188) rfl))) (Or.inr (hw _ (List.mem_of_getElem? (i := 167) rfl))) (by decide) (t := (.array .int)) (t' := .int) (by decide) (by decide)))
  have F_cache_o_40 := F_cache_o_39.other W40 (Or.inr (slot_ne (Or.inl (hw _ (List.mem_of_getElem? (i := 198) rfl))) (Or.inr (hw _ (List.mem_of_getElem? (i := 167) rfl))) (by decide) (t := (.array .int)) (t' := .int) (by decide) (by decide)))
  have F_cacheMask_o_40 := F_cacheMask_o_39.other W40 (Or.inr (slot_ne (Or.inl (hw _ (List.mem_of_getElem? (i := 200) rfl))) (Or.inr (hw _ (List.mem_of_getElem? (i := 167) rfl))) (by decide) (t := .int) (t' := .int) (by decide) (by decide)))
  have F_slotCount_o_40 := F_slotCount_o_39.other W40 (Or.inr (slot_ne (Or.inl (hw _ (List.mem_of_getElem? (i := 218) rfl))) (Or.inr (hw _ (List.mem_of_getElem? (i := 167) rfl))) (by decide) (t := .int) (t' := .int) (by decide) (by decide)))
  have HOld_40 := HOld_39.wr W40 g_o
  have F_collectionFloor_o_40 := F_collectionFloor_o_39.same W40
  have K40 := K39.wr W40 (Or.inl (by simp))
  have N40 := Fr.snoc X40 N39 g_o
  have Z40 := Nat.le_trans Z39 (Keep.of_wr W40).1
  refine OFin.to (T40.setTop (mkF m 179 #[.val (.ref o), .val (.int lv), .val (.int (0 : Int32))] [])) st40 ?_
  refine OFin.to (T40.setTop (mkF m 180 #[.val (.ref o), .val (.int lv), .val (.int (0 : Int32))] [(.ref o)])) (fun _ kt => XS.aloadN X40.here hx rfl (hb hby d6_179) rfl rfl kt) ?_
  refine OFin.to (T40.setTop (mkF m 181 #[.val (.ref o), .val (.int lv), .val (.int (0 : Int32))] [(.int (0 : Int32)), (.ref o)])) (fun _ kt => XS.iloadN X40.here hx rfl (hb hby d6_180) rfl kt) ?_
  obtain ⟨T41, h41, X41, e41, W41, st41⟩ := putF X40 hx hZ hown (host := "") (Or.inl (hw _ (List.mem_of_getElem? (i := 168) rfl))) Via.refl e40 F_collectionThreshold_o_40 E_o_40 (Or.inl (hw _ (List.mem_of_getElem? (i := 169) rfl))) (hw _ (List.mem_of_getElem? (i := 41) rfl)) (ty := .int) (by decide) rfl rfl (g := (mkF m 181 #[.val (.ref o), .val (.int lv), .val (.int (0 : Int32))] [(.int (0 : Int32)), (.ref o)])) rfl rfl (hb hby d6_181)
  have E_o_41 := E_o_40.wr W41
  have F_capacity_o_41 := F_capacity_o_40.other W41 (Or.inr (slot_ne (Or.inl (hw _ (List.mem_of_getElem? (i := 175) rfl))) (Or.inl (hw _ (List.mem_of_getElem? (i := 169) rfl))) (by decide) (t := .int) (t' := .int) (by decide) (by decide)))
  have F_slots_o_41 := F_slots_o_40.other W41 (Or.inr (slot_ne (Or.inl (hw _ (List.mem_of_getElem? (i := 177) rfl))) (Or.inl (hw _ (List.mem_of_getElem? (i := 169) rfl))) (by decide) (t := (.array .long)) (t' := .int) (by decide) (by decide)))
  have F_buckets_o_41 := F_buckets_o_40.other W41 (Or.inr (slot_ne (Or.inl (hw _ (List.mem_of_getElem? (i := 188) rfl))) (Or.inl (hw _ (List.mem_of_getElem? (i := 169) rfl))) (by decide) (t := (.array .int)) (t' := .int) (by decide) (by decide)))
  have F_cache_o_41 := F_cache_o_40.other W41 (Or.inr (slot_ne (Or.inl (hw _ (List.mem_of_getElem? (i := 198) rfl))) (Or.inl (hw _ (List.mem_of_getElem? (i := 169) rfl))) (by decide) (t := (.array .int)) (t' := .int) (by decide) (by decide)))
  have F_cacheMask_o_41 := F_cacheMask_o_40.other W41 (Or.inr (slot_ne (Or.inl (hw _ (List.mem_of_getElem? (i := 200) rfl))) (Or.inl (hw _ (List.mem_of_getElem? (i := 169) rfl))) (by decide) (t := .int) (t' := .int) (by decide) (by decide)))
  have F_slotCount_o_41 := F_slotCount_o_40.other W41 (Or.inr (slot_ne (Or.inl (hw _ (List.mem_of_getElem? (i := 218) rfl))) (Or.inl (hw _ (List.mem_of_getElem? (i := 169) rfl))) (by decide) (t := .int) (t' := .int) (by decide) (by decide)))
  have HOld_41 := HOld_40.wr W41 g_o
  have F_collectionThreshold_o_41 := F_collectionThreshold_o_40.same W41
  have K41 := K40.wr W41 (Or.inl (by simp))
  have N41 := Fr.snoc X41 N40 g_o
  have Z41 := Nat.le_trans Z40 (Keep.of_wr W41).1
  refine OFin.to (T41.setTop (mkF m 184 #[.val (.ref o), .val (.int lv), .val (.int (0 : Int32))] [])) st41 ?_
  refine OFin.to (T41.setTop (mkF m 185 #[.val (.ref o), .val (.int lv), .val (.int (0 : Int32))] [(.ref o)])) (fun _ kt => XS.aloadN X41.here hx rfl (hb hby d6_184) rfl rfl kt) ?_
  refine OFin.to (T41.setTop (mkF m 188 #[.val (.ref o), .val (.int lv), .val (.int (0 : Int32))] [(.int (1024 : Int32)), (.ref o)])) (fun _ kt => XS.sipush X41.here hx rfl (hb hby d6_185) kt) ?_
  obtain ⟨v42, T42, L42, hQ42, X42, st42⟩ := own_callP X41 hx hZ hown (hw _ (List.mem_of_getElem? (i := 170) rfl)) (own_selI hZ (hw _ (List.mem_of_getElem? (i := 41) rfl)) (hw _ (List.mem_of_getElem? (i := 172) rfl)) (hw _ (List.mem_of_getElem? (i := 171) rfl)) (by decide)) (hw _ (List.mem_of_getElem? (i := 172) rfl)) (hw _ (List.mem_of_getElem? (i := 171) rfl)) (hw _ (List.mem_of_getElem? (i := 173) rfl)) (hw _ (List.mem_of_getElem? (i := 42) rfl)) (by decide) e41 E_o_41 (rm16 l Z a0 hw [] o h41 n0 Z41 g_o E_o_41 F_capacity_o_41 F_slots_o_41 F_buckets_o_41 F_cache_o_41 F_cacheMask_o_41 F_slotCount_o_41  ) 0 (by decide) (by decide) (by decide) (by decide) (g := (mkF m 188 #[.val (.ref o), .val (.int lv), .val (.int (0 : Int32))] [(.int (1024 : Int32)), (.ref o)])) rfl (by rw [hml]; rfl) (rest := []) (lenOf pd_3 rfl) rfl (by show 2 * 0 + _ ≤ _; exact Nat.le_of_eq rfl) (hb hby d6_188)
  obtain ⟨rfl, Kq42, Nq42, Fq42_slotCount, aq42, gfq42, szq42, gq42, Fsq42, Vsq42⟩ := hQ42
  refine OFin.to (T42.setTop (mkF m 191 #[.val (.ref o), .val (.int lv), .val (.int (0 : Int32))] [])) st42 ?_
  have N42 := Fr.app N41 Nq42
  have Z42 := Nat.le_trans Z41 Kq42.1
  have E_o_42 := E_o_41.keep Kq42
  have KK42 := K41.trans Kq42 (fun x hx' => by cases List.mem_singleton.mp hx'; exact Or.inl (by simp))
  have ne_aq42_o : aq42 ≠ o := own_neVO E_o_42 (hw _ (List.mem_of_getElem? (i := 41) rfl)) Vsq42
  have sz_aq42 : h0.size ≤ aq42 := Nat.le_trans K41.1 szq42
  have g_aq42 := gq42
  refine OFin.to (T42.setTop (mkF m 192 #[.val (.ref o), .val (.int lv), .val (.int (0 : Int32))] [(.ref o)])) (fun _ kt => XS.aloadN X42.here hx rfl (hb hby d6_191) rfl rfl kt) ?_
  refine OFin.to (T42.setTop (mkF m 193 #[.val (.ref o), .val (.int lv), .val (.int (0 : Int32))] [(.int (0 : Int32)), (.ref o)])) (fun _ kt => XS.iconst X42.here hx rfl (hb hby d6_192) kt) ?_
  refine OFin.to (T42.setTop (mkF m 194 #[.val (.ref o), .val (.int lv), .val (.int (0 : Int32))] [(.int lv), (.int (0 : Int32)), (.ref o)])) (fun _ kt => XS.iloadN X42.here hx rfl (hb hby d6_193) rfl kt) ?_
  refine OFin.to (T42.setTop (mkF m 195 #[.val (.ref o), .val (.int lv), .val (.int (0 : Int32))] [(.int (0 : Int32)), (.int lv), (.int (0 : Int32)), (.ref o)])) (fun _ kt => XS.iconst X42.here hx rfl (hb hby d6_194) kt) ?_
  refine OFin.to (T42.setTop (mkF m 196 #[.val (.ref o), .val (.int lv), .val (.int (0 : Int32))] [(.int (0 : Int32)), (.int (0 : Int32)), (.int lv), (.int (0 : Int32)), (.ref o)])) (fun _ kt => XS.iconst X42.here hx rfl (hb hby d6_195) kt) ?_
  obtain ⟨v43, T43, L43, hQ43, X43, st43⟩ := own_callP X42 hx hZ hown (hw _ (List.mem_of_getElem? (i := 205) rfl)) (own_selI hZ (hw _ (List.mem_of_getElem? (i := 41) rfl)) (hw _ (List.mem_of_getElem? (i := 207) rfl)) (hw _ (List.mem_of_getElem? (i := 206) rfl)) (by decide)) (hw _ (List.mem_of_getElem? (i := 207) rfl)) (hw _ (List.mem_of_getElem? (i := 206) rfl)) (hw _ (List.mem_of_getElem? (i := 208) rfl)) (hw _ (List.mem_of_getElem? (i := 42) rfl)) (by decide) rfl E_o_42 (rm22 l Z a0 hw [] o lv T42.heap n0 Z42 aq42 gq42 ne_aq42_o _ E_o_42 Fsq42 Vsq42) 0 (by decide) (by decide) (by decide) (by decide) (g := (mkF m 196 #[.val (.ref o), .val (.int lv), .val (.int (0 : Int32))] [(.int (0 : Int32)), (.int (0 : Int32)), (.int lv), (.int (0 : Int32)), (.ref o)])) rfl (by rw [hml]; rfl) (rest := []) (lenOf pd_8 rfl) rfl (by show 2 * 0 + _ ≤ _; exact Nat.le_of_eq rfl) (hb hby d6_196)
  obtain ⟨rfl, Kq43, Nq43⟩ := hQ43
  refine OFin.to (T43.setTop (mkF m 199 #[.val (.ref o), .val (.int lv), .val (.int (0 : Int32))] [])) st43 ?_
  have N43 := Fr.app N42 Nq43
  have Z43 := Nat.le_trans Z42 Kq43.1
  have E_o_43 := E_o_42.keep Kq43
  have F_slotCount_o_43 := Fq42_slotCount.keep Kq43 (ninS (Ne.symm ne_aq42_o) nin0)
  have KK43 := KK42.trans Kq43 (fun x hx' => by cases List.mem_singleton.mp hx'; exact Or.inr sz_aq42)
  refine OFin.to (T43.setTop (mkF m 200 #[.val (.ref o), .val (.int lv), .val (.int (0 : Int32))] [(.ref o)])) (fun _ kt => XS.aloadN X43.here hx rfl (hb hby d6_199) rfl rfl kt) ?_
  refine OFin.to (T43.setTop (mkF m 201 #[.val (.ref o), .val (.int lv), .val (.int (0 : Int32))] [(.int (1 : Int32)), (.ref o)])) (fun _ kt => XS.iconst X43.here hx rfl (hb hby d6_200) kt) ?_
  obtain ⟨T44, h44, X44, e44, W44, st44⟩ := putF X43 hx hZ hown (host := "") (Or.inl (hw _ (List.mem_of_getElem? (i := 217) rfl))) Via.refl rfl F_slotCount_o_43 E_o_43 (Or.inl (hw _ (List.mem_of_getElem? (i := 218) rfl))) (hw _ (List.mem_of_getElem? (i := 41) rfl)) (ty := .int) (by decide) rfl rfl (g := (mkF m 201 #[.val (.ref o), .val (.int lv), .val (.int (0 : Int32))] [(.int (1 : Int32)), (.ref o)])) rfl rfl (hb hby d6_201)
  have E_o_44 := E_o_43.wr W44
  have F_slotCount_o_44 := F_slotCount_o_43.same W44
  have K44 := KK43.wr W44 (Or.inl (by simp))
  have N44 := Fr.snoc X44 N43 g_o
  have Z44 := Nat.le_trans Z43 (Keep.of_wr W44).1
  refine OFin.to (T44.setTop (mkF m 204 #[.val (.ref o), .val (.int lv), .val (.int (0 : Int32))] [])) st44 ?_
  exact OFin.retV X44 hx hret hlk (hb hby d6_204) (by decide) (by decide) (by rw [e44]; exact ⟨rfl, K44, N44⟩)
theorem d25_0 : decode prog_123_method_38_code 0 = .ok (.iload_n 0, 1) := by decide +kernel
theorem d25_1 : decode prog_123_method_38_code 1 = .ok (.newarray .int, 2) := by decide +kernel
theorem d25_3 : decode prog_123_method_38_code 3 = .ok (.astore_n 1, 1) := by decide +kernel
theorem d25_4 : decode prog_123_method_38_code 4 = .ok (.aload_n 1, 1) := by decide +kernel
theorem d25_5 : decode prog_123_method_38_code 5 = .ok (.iconst (-1), 1) := by decide +kernel
theorem d25_6 : decode prog_123_method_38_code 6 = .ok (.invokestatic 247, 3) := by decide +kernel
theorem d25_9 : decode prog_123_method_38_code 9 = .ok (.aload_n 1, 1) := by decide +kernel
theorem d25_10 : decode prog_123_method_38_code 10 = .ok (.areturn, 1) := by decide +kernel
theorem pn_25 : plainName "com/example/fixpoint_checker/fixpointchecker/symbolic/StateEncoding" = true := by first | (simp [plainName, overriddenIn]; done) | decide +kernel
theorem ef_25 (m : MethodId) (p0 : Int32) : entryFrame m #[(.int p0)] 2 = mkF m 0 #[.val (.int p0), .unset] [] := by first | (simp [entryFrame, mkF, argsToLocals, Value.category]; done) | rfl
set_option maxRecDepth 65536 in
set_option maxHeartbeats 40000000 in
theorem rm25 (l : Launch) (Z : State) (a0 : Array Value) (hw : ∀ d ∈ tables_1, d.before a0 Z = true) (ws : List Jvm.Cond) (h0 : Heap) (n0 : Nat) (Z0 : n0 ≤ h0.size) :
    MetFree l (⟨"com/example/fixpoint_checker/fixpointchecker/symbolic/StateEncoding", "newNumbers", "(I)[I"⟩ : MethodName) (head1 (Jvm.Cond.code (⟨"com/example/fixpoint_checker/fixpointchecker/symbolic/StateEncoding", "newNumbers", "(I)[I"⟩ : MethodName) prog_123_method_38_code 2 (some (.array .int)) :: ws) ({ frames := 1, cells := 1, slots := 1, locals := 15 } : Room)) (fun a_ U => a_ = #[(.int (1 : Int32))] ∧ Z.Warmed39 U.vm ∧ U.heap = h0) (fun _ _ _ _ _ => True) (fun _ U o_ U' => ∃ v L, o_ = .returned v ∧ OQ (fun v h L => ∃ b, v = some (.ref b) ∧ Keep h0 h [] ∧ Fr n0 L) v U'.heap L ∧ FrameEnd U o_ U' L ({ frames := 1, cells := 1, slots := 1, locals := 15 } : Room).cells ({ frames := 1, cells := 1, slots := 1, locals := 15 } : Room).slots) := by
  refine MetFree.of_bodySF (plainFor_of_name pn_25) hisR ?_
  intro p e s m args below meth c s₁ Bd hml0 hP hK
  obtain ⟨rfl, hZ, hh⟩ := hP
  have hx := Bd.exec
  have hby := Bd.bytes
  have hml : c.maxLocals = 2 := hml0
  have hown : s.vm.findClass "com/example/fixpoint_checker/fixpointchecker/symbolic/StateEncoding" = some m.cls := findClass_of_methodNamed Bd.named
  have hnm := (name_of_methodNamed Bd.named Bd.method).1
  have hret := Bd.returns
  have hlk : meth.locks = false := Bd.notSynchronized
  have X0 : Stand p l e ({ frames := 1, cells := 1, slots := 1, locals := 15 } : Room) s m #[(.int (1 : Int32))] below meth c s₁ [] 0 0 := Stand.of_body Bd
  have e0 : s₁.heap = h0 := by rw [← hh, Bd.state]; rfl
  refine OFin.start (Q := fun v h L => ∃ b, v = some (.ref b) ∧ Keep h0 h [] ∧ Fr n0 L) (s := s) (fun t kt => castTop (ef_25 m ((1 : Int32))) kt) ?_
  refine OFin.to (s₁.setTop (mkF m 1 #[.val (.int (1 : Int32)), .unset] [(.int (1 : Int32))])) (fun _ kt => XS.iloadN X0.here hx rfl (hb hby d25_0) rfl kt) ?_
  obtain ⟨T1, h1, X1, e1, E1, V1, st1⟩ := own_newP X0 hx hZ (hw _ (List.mem_of_getElem? (i := 59) rfl)) e0 (g := (mkF m 1 #[.val (.int (1 : Int32)), .unset] [(.int (1 : Int32))])) rfl (hb hby d25_1) rfl (by decide) (1) rfl (cap := 1) (Nat.le_refl _) (by decide) (by decide) (by decide)
  obtain ⟨b1, g1⟩ : ∃ z, z = h0.size := ⟨_, rfl⟩
  rw [← g1] at V1 st1
  rw [own_rep] at V1
  have g_b1 : n0 ≤ b1 := by rw [g1]; exact Z0
  have sz_b1 : h0.size ≤ b1 := by rw [g1]; exact (Keep.refl h0 []).1
  have Z1 := Nat.le_trans Z0 E1.1
  have K1 := (Keep.refl h0 []).ext E1
  have Vb : OFn Z h1 b1 .int (1) _ := V1
  refine OFin.to (T1.setTop (mkF m 3 #[.val (.int (1 : Int32)), .unset] [(.ref b1)])) st1 ?_
  refine OFin.to (T1.setTop (mkF m 4 #[.val (.int (1 : Int32)), .val (.ref b1)] [])) (fun _ kt => XS.astoreN X1.here hx rfl (hb hby d25_3) rfl rfl (l' := #[.val (.int (1 : Int32)), .val (.ref b1)]) rfl kt) ?_
  refine OFin.to (T1.setTop (mkF m 5 #[.val (.int (1 : Int32)), .val (.ref b1)] [(.ref b1)])) (fun _ kt => XS.aloadN X1.here hx rfl (hb hby d25_4) rfl rfl kt) ?_
  refine OFin.to (T1.setTop (mkF m 6 #[.val (.int (1 : Int32)), .val (.ref b1)] [(.int (-1 : Int32)), (.ref b1)])) (fun _ kt => XS.iconst X1.here hx rfl (hb hby d25_5) kt) ?_
  obtain ⟨v2, T2, L2, hQ2, X2, st2⟩ := own_callS X1 hx hZ hown (hw _ (List.mem_of_getElem? (i := 227) rfl)) (hw _ (List.mem_of_getElem? (i := 190) rfl)) (hw _ (List.mem_of_getElem? (i := 191) rfl)) (hw _ (List.mem_of_getElem? (i := 192) rfl)) (by decide) e1 (rm19 l Z a0 hw [] b1 (-1 : Int32) h1 n0 Z1 1 (by decide) _ g_b1 Vb) 0 (by decide) (by decide) (by decide) (by decide) (g := (mkF m 6 #[.val (.int (1 : Int32)), .val (.ref b1)] [(.int (-1 : Int32)), (.ref b1)])) rfl (by rw [hml]; rfl) (rest := []) (lenOf pd_6 rfl) rfl (by show 2 * 0 + _ ≤ _; exact Nat.le_of_eq rfl) (hb hby d25_6)
  obtain ⟨rfl, Kq2, Nq2, gq2, Vq2⟩ := hQ2
  refine OFin.to (T2.setTop (mkF m 9 #[.val (.int (1 : Int32)), .val (.ref b1)] [])) st2 ?_
  have N2 := Fr.app (Fr.nil n0) Nq2
  have Z2 := Nat.le_trans Z1 Kq2.1
  have KK2 := K1.trans Kq2 (fun x hx' => by cases List.mem_singleton.mp hx'; exact Or.inr sz_b1)
  refine OFin.to (T2.setTop (mkF m 10 #[.val (.int (1 : Int32)), .val (.ref b1)] [(.ref b1)])) (fun _ kt => XS.aloadN X2.here hx rfl (hb hby d25_9) rfl rfl kt) ?_
  exact OFin.retA X2 hx hret rfl hlk (hb hby d25_10) (by decide) (by decide) ⟨b1, rfl, KK2, N2⟩
theorem d2_0 : decode prog_123_method_1_code 0 = .ok (.aload_n 0, 1) := by decide +kernel
theorem d2_1 : decode prog_123_method_1_code 1 = .ok (.invokespecial 1, 3) := by decide +kernel
theorem d2_4 : decode prog_123_method_1_code 4 = .ok (.aload_n 0, 1) := by decide +kernel
theorem d2_5 : decode prog_123_method_1_code 5 = .ok (.new 7, 3) := by decide +kernel
theorem d2_8 : decode prog_123_method_1_code 8 = .ok (.dup, 1) := by decide +kernel
theorem d2_9 : decode prog_123_method_1_code 9 = .ok (.invokespecial 9, 3) := by decide +kernel
theorem d2_12 : decode prog_123_method_1_code 12 = .ok (.putfield 10, 3) := by decide +kernel
theorem d2_15 : decode prog_123_method_1_code 15 = .ok (.iload_n 1, 1) := by decide +kernel
theorem d2_16 : decode prog_123_method_1_code 16 = .ok (.iconst 1, 1) := by decide +kernel
theorem d2_17 : decode prog_123_method_1_code 17 = .ok (.if_icmp .lt 7, 3) := by decide +kernel
theorem d2_20 : decode prog_123_method_1_code 20 = .ok (.iload_n 2, 1) := by decide +kernel
theorem d2_21 : decode prog_123_method_1_code 21 = .ok (.ifCond .ge 18, 3) := by decide +kernel
theorem d2_39 : decode prog_123_method_1_code 39 = .ok (.iconst 0, 1) := by decide +kernel
theorem d2_40 : decode prog_123_method_1_code 40 = .ok (.istore 4, 2) := by decide +kernel
theorem d2_42 : decode prog_123_method_1_code 42 = .ok (.lconst 1, 1) := by decide +kernel
theorem d2_43 : decode prog_123_method_1_code 43 = .ok (.iload 4, 2) := by decide +kernel
theorem d2_45 : decode prog_123_method_1_code 45 = .ok (.lshl, 1) := by decide +kernel
theorem d2_46 : decode prog_123_method_1_code 46 = .ok (.iload_n 1, 1) := by decide +kernel
theorem d2_47 : decode prog_123_method_1_code 47 = .ok (.i2l, 1) := by decide +kernel
theorem d2_48 : decode prog_123_method_1_code 48 = .ok (.lcmp, 1) := by decide +kernel
theorem d2_49 : decode prog_123_method_1_code 49 = .ok (.ifCond .ge 9, 3) := by decide +kernel
theorem d2_52 : decode prog_123_method_1_code 52 = .ok (.iinc 4 1, 3) := by decide +kernel
theorem d2_55 : decode prog_123_method_1_code 55 = .ok (.goto (-13), 3) := by decide +kernel
theorem d2_58 : decode prog_123_method_1_code 58 = .ok (.ldc2_w 25, 3) := by decide +kernel
theorem d2_61 : decode prog_123_method_1_code 61 = .ok (.iload 4, 2) := by decide +kernel
theorem d2_63 : decode prog_123_method_1_code 63 = .ok (.i2l, 1) := by decide +kernel
theorem d2_64 : decode prog_123_method_1_code 64 = .ok (.lmul, 1) := by decide +kernel
theorem d2_65 : decode prog_123_method_1_code 65 = .ok (.iload_n 2, 1) := by decide +kernel
theorem d2_66 : decode prog_123_method_1_code 66 = .ok (.i2l, 1) := by decide +kernel
theorem d2_67 : decode prog_123_method_1_code 67 = .ok (.lmul, 1) := by decide +kernel
theorem d2_68 : decode prog_123_method_1_code 68 = .ok (.lstore 5, 2) := by decide +kernel
theorem d2_70 : decode prog_123_method_1_code 70 = .ok (.lload 5, 2) := by decide +kernel
theorem d2_72 : decode prog_123_method_1_code 72 = .ok (.ldc2_w 29, 3) := by decide +kernel
theorem d2_75 : decode prog_123_method_1_code 75 = .ok (.lcmp, 1) := by decide +kernel
theorem d2_76 : decode prog_123_method_1_code 76 = .ok (.ifCond .le 18, 3) := by decide +kernel
theorem d2_94 : decode prog_123_method_1_code 94 = .ok (.aload_n 0, 1) := by decide +kernel
theorem d2_95 : decode prog_123_method_1_code 95 = .ok (.iload_n 1, 1) := by decide +kernel
theorem d2_96 : decode prog_123_method_1_code 96 = .ok (.putfield 35, 3) := by decide +kernel
theorem d2_99 : decode prog_123_method_1_code 99 = .ok (.aload_n 0, 1) := by decide +kernel
theorem d2_100 : decode prog_123_method_1_code 100 = .ok (.iload_n 2, 1) := by decide +kernel
theorem d2_101 : decode prog_123_method_1_code 101 = .ok (.putfield 39, 3) := by decide +kernel
theorem d2_104 : decode prog_123_method_1_code 104 = .ok (.aload_n 0, 1) := by decide +kernel
theorem d2_105 : decode prog_123_method_1_code 105 = .ok (.iload 4, 2) := by decide +kernel
theorem d2_107 : decode prog_123_method_1_code 107 = .ok (.putfield 42, 3) := by decide +kernel
theorem d2_110 : decode prog_123_method_1_code 110 = .ok (.aload_n 0, 1) := by decide +kernel
theorem d2_111 : decode prog_123_method_1_code 111 = .ok (.new 45, 3) := by decide +kernel
theorem d2_114 : decode prog_123_method_1_code 114 = .ok (.dup, 1) := by decide +kernel
theorem d2_115 : decode prog_123_method_1_code 115 = .ok (.lload 5, 2) := by decide +kernel
theorem d2_117 : decode prog_123_method_1_code 117 = .ok (.l2i, 1) := by decide +kernel
theorem d2_118 : decode prog_123_method_1_code 118 = .ok (.iload_n 3, 1) := by decide +kernel
theorem d2_119 : decode prog_123_method_1_code 119 = .ok (.invokespecial 47, 3) := by decide +kernel
theorem d2_122 : decode prog_123_method_1_code 122 = .ok (.putfield 50, 3) := by decide +kernel
theorem d2_125 : decode prog_123_method_1_code 125 = .ok (.aload_n 0, 1) := by decide +kernel
theorem d2_126 : decode prog_123_method_1_code 126 = .ok (.lload 5, 2) := by decide +kernel
theorem d2_128 : decode prog_123_method_1_code 128 = .ok (.l2i, 1) := by decide +kernel
theorem d2_129 : decode prog_123_method_1_code 129 = .ok (.newarray .boolean, 2) := by decide +kernel
theorem d2_131 : decode prog_123_method_1_code 131 = .ok (.putfield 54, 3) := by decide +kernel
theorem d2_134 : decode prog_123_method_1_code 134 = .ok (.iconst 0, 1) := by decide +kernel
theorem d2_135 : decode prog_123_method_1_code 135 = .ok (.istore 7, 2) := by decide +kernel
theorem d2_137 : decode prog_123_method_1_code 137 = .ok (.iload 7, 2) := by decide +kernel
theorem d2_139 : decode prog_123_method_1_code 139 = .ok (.i2l, 1) := by decide +kernel
theorem d2_140 : decode prog_123_method_1_code 140 = .ok (.lload 5, 2) := by decide +kernel
theorem d2_142 : decode prog_123_method_1_code 142 = .ok (.lcmp, 1) := by decide +kernel
theorem d2_143 : decode prog_123_method_1_code 143 = .ok (.ifCond .ge 17, 3) := by decide +kernel
theorem d2_146 : decode prog_123_method_1_code 146 = .ok (.aload_n 0, 1) := by decide +kernel
theorem d2_147 : decode prog_123_method_1_code 147 = .ok (.getfield 54, 3) := by decide +kernel
theorem d2_150 : decode prog_123_method_1_code 150 = .ok (.iload 7, 2) := by decide +kernel
theorem d2_152 : decode prog_123_method_1_code 152 = .ok (.iconst 1, 1) := by decide +kernel
theorem d2_153 : decode prog_123_method_1_code 153 = .ok (.bastore, 1) := by decide +kernel
theorem d2_154 : decode prog_123_method_1_code 154 = .ok (.iinc 7 2, 3) := by decide +kernel
theorem d2_157 : decode prog_123_method_1_code 157 = .ok (.goto (-20), 3) := by decide +kernel
theorem d2_160 : decode prog_123_method_1_code 160 = .ok (.aload_n 0, 1) := by decide +kernel
theorem d2_161 : decode prog_123_method_1_code 161 = .ok (.iload_n 2, 1) := by decide +kernel
theorem d2_162 : decode prog_123_method_1_code 162 = .ok (.invokestatic 58, 3) := by decide +kernel
theorem d2_165 : decode prog_123_method_1_code 165 = .ok (.putfield 62, 3) := by decide +kernel
theorem d2_168 : decode prog_123_method_1_code 168 = .ok (.aload_n 0, 1) := by decide +kernel
theorem d2_169 : decode prog_123_method_1_code 169 = .ok (.iload_n 2, 1) := by decide +kernel
theorem d2_170 : decode prog_123_method_1_code 170 = .ok (.invokestatic 58, 3) := by decide +kernel
theorem d2_173 : decode prog_123_method_1_code 173 = .ok (.putfield 66, 3) := by decide +kernel
theorem d2_176 : decode prog_123_method_1_code 176 = .ok (.aload_n 0, 1) := by decide +kernel
theorem d2_177 : decode prog_123_method_1_code 177 = .ok (.iload_n 2, 1) := by decide +kernel
theorem d2_178 : decode prog_123_method_1_code 178 = .ok (.invokestatic 58, 3) := by decide +kernel
theorem d2_181 : decode prog_123_method_1_code 181 = .ok (.putfield 69, 3) := by decide +kernel
theorem d2_184 : decode prog_123_method_1_code 184 = .ok (.aload_n 0, 1) := by decide +kernel
theorem d2_185 : decode prog_123_method_1_code 185 = .ok (.iload_n 2, 1) := by decide +kernel
theorem d2_186 : decode prog_123_method_1_code 186 = .ok (.invokestatic 58, 3) := by decide +kernel
theorem d2_189 : decode prog_123_method_1_code 189 = .ok (.putfield 72, 3) := by decide +kernel
theorem d2_192 : decode prog_123_method_1_code 192 = .ok (.aload_n 0, 1) := by decide +kernel
theorem d2_193 : decode prog_123_method_1_code 193 = .ok (.iload_n 2, 1) := by decide +kernel
theorem d2_194 : decode prog_123_method_1_code 194 = .ok (.invokestatic 58, 3) := by decide +kernel
theorem d2_197 : decode prog_123_method_1_code 197 = .ok (.putfield 75, 3) := by decide +kernel
theorem d2_200 : decode prog_123_method_1_code 200 = .ok (.aload_n 0, 1) := by decide +kernel
theorem d2_201 : decode prog_123_method_1_code 201 = .ok (.iload_n 2, 1) := by decide +kernel
theorem d2_202 : decode prog_123_method_1_code 202 = .ok (.invokestatic 58, 3) := by decide +kernel
theorem d2_205 : decode prog_123_method_1_code 205 = .ok (.putfield 78, 3) := by decide +kernel
theorem d2_208 : decode prog_123_method_1_code 208 = .ok (.aload_n 0, 1) := by decide +kernel
theorem d2_209 : decode prog_123_method_1_code 209 = .ok (.iload_n 2, 1) := by decide +kernel
theorem d2_210 : decode prog_123_method_1_code 210 = .ok (.invokestatic 58, 3) := by decide +kernel
theorem d2_213 : decode prog_123_method_1_code 213 = .ok (.putfield 81, 3) := by decide +kernel
theorem d2_216 : decode prog_123_method_1_code 216 = .ok (.return_, 1) := by decide +kernel
theorem pn_2 : plainName "com/example/fixpoint_checker/fixpointchecker/symbolic/StateEncoding" = true := by first | (simp [plainName, overriddenIn]; done) | decide +kernel
theorem ef_2 (m : MethodId) (a0 : Addr) (p1 : Int32) (p2 : Int32) (p3 : Int32) : entryFrame m #[(.ref a0), (.int p1), (.int p2), (.int p3)] 8 = mkF m 0 #[.val (.ref a0), .val (.int p1), .val (.int p2), .val (.int p3), .unset, .unset, .unset, .unset] [] := by first | (simp [entryFrame, mkF, argsToLocals, Value.category]; done) | rfl
set_option maxRecDepth 65536 in
set_option maxHeartbeats 40000000 in
theorem rm2 (l : Launch) (Z : State) (a0 : Array Value) (hw : ∀ d ∈ tables_1, d.before a0 Z = true) (ws : List Jvm.Cond) (o : Addr) (sc : Int32) (hsc : 1 ≤ sc.toInt) (h0 : Heap) (n0 : Nat) (Z0 : n0 ≤ h0.size) (g_o : n0 ≤ o) (E_o : Exa Z h0 o "com/example/fixpoint_checker/fixpointchecker/symbolic/StateEncoding") {u_equalities : Value} (F_equalities_o : Fld Z h0 o "com/example/fixpoint_checker/fixpointchecker/symbolic/StateEncoding" "equalities" "Ljava/util/Map;" u_equalities) {u_stateCount : Value} (F_stateCount_o : Fld Z h0 o "com/example/fixpoint_checker/fixpointchecker/symbolic/StateEncoding" "stateCount" "I" u_stateCount) {u_dimension : Value} (F_dimension_o : Fld Z h0 o "com/example/fixpoint_checker/fixpointchecker/symbolic/StateEncoding" "dimension" "I" u_dimension) {u_bitCount : Value} (F_bitCount_o : Fld Z h0 o "com/example/fixpoint_checker/fixpointchecker/symbolic/StateEncoding" "bitCount" "I" u_bitCount) {u_diagrams : Value} (F_diagrams_o : Fld Z h0 o "com/example/fixpoint_checker/fixpointchecker/symbolic/StateEncoding" "diagrams" "Lcom/example/fixpoint_checker/fixpointchecker/bdd/DecisionDiagrams;" u_diagrams) {u_unprimedLevels : Value} (F_unprimedLevels_o : Fld Z h0 o "com/example/fixpoint_checker/fixpointchecker/symbolic/StateEncoding" "unprimedLevels" "[Z" u_unprimedLevels) {u_primings : Value} (F_primings_o : Fld Z h0 o "com/example/fixpoint_checker/fixpointchecker/symbolic/StateEncoding" "primings" "[I" u_primings) {u_unprimings : Value} (F_unprimings_o : Fld Z h0 o "com/example/fixpoint_checker/fixpointchecker/symbolic/StateEncoding" "unprimings" "[I" u_unprimings) {u_primedQuantifiers : Value} (F_primedQuantifiers_o : Fld Z h0 o "com/example/fixpoint_checker/fixpointchecker/symbolic/StateEncoding" "primedQuantifiers" "[I" u_primedQuantifiers) {u_stateQuantifiers : Value} (F_stateQuantifiers_o : Fld Z h0 o "com/example/fixpoint_checker/fixpointchecker/symbolic/StateEncoding" "stateQuantifiers" "[I" u_stateQuantifiers) {u_laterQuantifiers : Value} (F_laterQuantifiers_o : Fld Z h0 o "com/example/fixpoint_checker/fixpointchecker/symbolic/StateEncoding" "laterQuantifiers" "[I" u_laterQuantifiers) {u_firstBitQuantifiers : Value} (F_firstBitQuantifiers_o : Fld Z h0 o "com/example/fixpoint_checker/fixpointchecker/symbolic/StateEncoding" "firstBitQuantifiers" "[I" u_firstBitQuantifiers) {u_stateCodes : Value} (F_stateCodes_o : Fld Z h0 o "com/example/fixpoint_checker/fixpointchecker/symbolic/StateEncoding" "stateCodes" "[I" u_stateCodes) (aS : Addr) (HS : Sta Z Z.heap "java/util/ArrayList" "DEFAULTCAPACITY_EMPTY_ELEMENTDATA" "[Ljava/lang/Object;" (.ref aS)) (HOld : Old Z n0 h0) :
    MetFree l (⟨"com/example/fixpoint_checker/fixpointchecker/symbolic/StateEncoding", "<init>", "(III)V"⟩ : MethodName) (head1 (Jvm.Cond.code (⟨"com/example/fixpoint_checker/fixpointchecker/symbolic/StateEncoding", "<init>", "(III)V"⟩ : MethodName) prog_123_method_1_code 8 none :: ws) ({ frames := 5, cells := 41, slots := 20375, locals := 72 } : Room)) (fun a_ U => a_ = #[(.ref o), (.int sc), (.int (1 : Int32)), (.int (0 : Int32))] ∧ Z.Warmed39 U.vm ∧ U.heap = h0) (fun _ _ _ _ _ => True) (fun _ U o_ U' => ∃ v L, o_ = .returned v ∧ OQ (fun v h L => v = none ∧ Keep h0 h [o] ∧ Fr n0 L ∧ ∃ N : Nat, N ≤ 31 ∧ sc.toInt ≤ ((2 ^ N : Nat) : Int) ∧ (∀ b : Nat, b < N → ((2 ^ b : Nat) : Int) < sc.toInt) ∧ Exa Z h o "com/example/fixpoint_checker/fixpointchecker/symbolic/StateEncoding" ∧ Fld Z h o "com/example/fixpoint_checker/fixpointchecker/symbolic/StateEncoding" "bitCount" "I" (.int (Int32.ofNat N))) v U'.heap L ∧ FrameEnd U o_ U' L ({ frames := 5, cells := 41, slots := 20375, locals := 72 } : Room).cells ({ frames := 5, cells := 41, slots := 20375, locals := 72 } : Room).slots) := by
  refine MetFree.of_bodySF (plainFor_of_name pn_2) hisR ?_
  intro p e s m args below meth c s₁ Bd hml0 hP hK
  obtain ⟨rfl, hZ, hh⟩ := hP
  have hx := Bd.exec
  have hby := Bd.bytes
  have hml : c.maxLocals = 8 := hml0
  have hown : s.vm.findClass "com/example/fixpoint_checker/fixpointchecker/symbolic/StateEncoding" = some m.cls := findClass_of_methodNamed Bd.named
  have hnm := (name_of_methodNamed Bd.named Bd.method).1
  have hret := Bd.returns
  have hlk : meth.locks = false := Bd.notSynchronized
  have X0 : Stand p l e ({ frames := 5, cells := 41, slots := 20375, locals := 72 } : Room) s m #[(.ref o), (.int sc), (.int (1 : Int32)), (.int (0 : Int32))] below meth c s₁ [] 0 0 := Stand.of_body Bd
  have e0 : s₁.heap = h0 := by rw [← hh, Bd.state]; rfl
  refine OFin.start (Q := fun v h L => v = none ∧ Keep h0 h [o] ∧ Fr n0 L ∧ ∃ N : Nat, N ≤ 31 ∧ sc.toInt ≤ ((2 ^ N : Nat) : Int) ∧ (∀ b : Nat, b < N → ((2 ^ b : Nat) : Int) < sc.toInt) ∧ Exa Z h o "com/example/fixpoint_checker/fixpointchecker/symbolic/StateEncoding" ∧ Fld Z h o "com/example/fixpoint_checker/fixpointchecker/symbolic/StateEncoding" "bitCount" "I" (.int (Int32.ofNat N))) (s := s) (fun t kt => castTop (ef_2 m (o) (sc) ((1 : Int32)) ((0 : Int32))) kt) ?_
  obtain ⟨N, hN, hle, hlt⟩ := own_nb sc hsc
  refine OFin.to (s₁.setTop (mkF m 1 #[.val (.ref o), .val (.int sc), .val (.int (1 : Int32)), .val (.int (0 : Int32)), .unset, .unset, .unset, .unset] [(.ref o)])) (fun _ kt => XS.aloadN X0.here hx rfl (hb hby d2_0) rfl rfl kt) ?_
  obtain ⟨T1, X1, e1, st1⟩ := initO X0 hx hZ hown (hw _ (List.mem_of_getElem? (i := 11) rfl)) (hw _ (List.mem_of_getElem? (i := 12) rfl)) (hw _ (List.mem_of_getElem? (i := 13) rfl)) e0 (g := (mkF m 1 #[.val (.ref o), .val (.int sc), .val (.int (1 : Int32)), .val (.int (0 : Int32)), .unset, .unset, .unset, .unset] [(.ref o)])) rfl (by rw [hml]; rfl) rfl (hb hby d2_1) (by decide) (W := 0) (by show 2 * 0 + _ ≤ _; exact Nat.le_of_eq rfl) (by decide)
  refine OFin.to (T1.setTop (mkF m 4 #[.val (.ref o), .val (.int sc), .val (.int (1 : Int32)), .val (.int (0 : Int32)), .unset, .unset, .unset, .unset] [])) st1 ?_
  refine OFin.to (T1.setTop (mkF m 5 #[.val (.ref o), .val (.int sc), .val (.int (1 : Int32)), .val (.int (0 : Int32)), .unset, .unset, .unset, .unset] [(.ref o)])) (fun _ kt => XS.aloadN X1.here hx rfl (hb hby d2_4) rfl rfl kt) ?_
  obtain ⟨T2, h2, X2, e2, E2, A2, D2, -, st2⟩ := newO X1 hx hZ hown (hw _ (List.mem_of_getElem? (i := 14) rfl)) (hw _ (List.mem_of_getElem? (i := 15) rfl)) (hw _ (List.mem_of_getElem? (i := 16) rfl)) e1 (g := (mkF m 5 #[.val (.ref o), .val (.int sc), .val (.int (1 : Int32)), .val (.int (0 : Int32)), .unset, .unset, .unset, .unset] [(.ref o)])) rfl (hb hby d2_5) (by decide) (by decide)
  obtain ⟨b2, g2⟩ : ∃ z, z = h0.size := ⟨_, rfl⟩
  rw [← g2] at A2 D2 st2
  have g_b2 : n0 ≤ b2 := by rw [g2]; exact Z0
  have ne_o_b2 : o ≠ b2 := by rw [g2]; exact Nat.ne_of_lt E_o.lt
  have sz_b2 : h0.size ≤ b2 := by rw [g2]; exact (Keep.refl h0 [o]).1
  have E_o_2 := E_o.ext E2
  have F_equalities_o_2 := F_equalities_o.ext E2
  have F_stateCount_o_2 := F_stateCount_o.ext E2
  have F_dimension_o_2 := F_dimension_o.ext E2
  have F_bitCount_o_2 := F_bitCount_o.ext E2
  have F_diagrams_o_2 := F_diagrams_o.ext E2
  have F_unprimedLevels_o_2 := F_unprimedLevels_o.ext E2
  have F_primings_o_2 := F_primings_o.ext E2
  have F_unprimings_o_2 := F_unprimings_o.ext E2
  have F_primedQuantifiers_o_2 := F_primedQuantifiers_o.ext E2
  have F_stateQuantifiers_o_2 := F_stateQuantifiers_o.ext E2
  have F_laterQuantifiers_o_2 := F_laterQuantifiers_o.ext E2
  have F_firstBitQuantifiers_o_2 := F_firstBitQuantifiers_o.ext E2
  have F_stateCodes_o_2 := F_stateCodes_o.ext E2
  have HOld_2 := HOld.ext E2
  have Z2 := Nat.le_trans Z0 E2.1
  have K2 := (Keep.refl h0 [o]).ext E2
  have E_b2 := A2
  have F_loadFactor_b2 : Fld Z h2 b2 "java/util/HashMap" "loadFactor" "F" (defaultValue .float) := D2 (Or.inr (hw _ (List.mem_of_getElem? (i := 29) rfl))) (ty := .float) (by decide)
  refine OFin.to (T2.setTop (mkF m 8 #[.val (.ref o), .val (.int sc), .val (.int (1 : Int32)), .val (.int (0 : Int32)), .unset, .unset, .unset, .unset] [(.ref b2), (.ref o)])) st2 ?_
  refine OFin.to (T2.setTop (mkF m 9 #[.val (.ref o), .val (.int sc), .val (.int (1 : Int32)), .val (.int (0 : Int32)), .unset, .unset, .unset, .unset] [(.ref b2), (.ref b2), (.ref o)])) (fun _ kt => XS.dup X2.here hx rfl (hb hby d2_8) rfl rfl kt) ?_
  obtain ⟨v3, T3, L3, hQ3, X3, st3⟩ := own_callN X2 hx hZ hown rfl (hw _ (List.mem_of_getElem? (i := 17) rfl)) (hw _ (List.mem_of_getElem? (i := 18) rfl)) (hw _ (List.mem_of_getElem? (i := 19) rfl)) (hw _ (List.mem_of_getElem? (i := 16) rfl)) (by decide) e2 (rm4 l Z a0 hw [] b2 h2 n0 Z2 g_b2 E_b2 F_loadFactor_b2  ) 2 (by decide) (by decide) (by decide) (by decide) (g := (mkF m 9 #[.val (.ref o), .val (.int sc), .val (.int (1 : Int32)), .val (.int (0 : Int32)), .unset, .unset, .unset, .unset] [(.ref b2), (.ref b2), (.ref o)])) rfl (by rw [hml]; rfl) (rest := [(.ref b2), (.ref o)]) (lenOf pd_1 rfl) rfl (by show 2 * 0 + _ ≤ _; exact Nat.le_of_eq rfl) (hb hby d2_9)
  obtain ⟨rfl, Kq3, Nq3⟩ := hQ3
  refine OFin.to (T3.setTop (mkF m 12 #[.val (.ref o), .val (.int sc), .val (.int (1 : Int32)), .val (.int (0 : Int32)), .unset, .unset, .unset, .unset] [(.ref b2), (.ref o)])) st3 ?_
  have N3 := Fr.app (Fr.nil n0) Nq3
  have Z3 := Nat.le_trans Z2 Kq3.1
  have E_o_3 := E_o_2.keep Kq3
  have F_equalities_o_3 := F_equalities_o_2.keep Kq3 (ninS ne_o_b2 nin0)
  have F_stateCount_o_3 := F_stateCount_o_2.keep Kq3 (ninS ne_o_b2 nin0)
  have F_dimension_o_3 := F_dimension_o_2.keep Kq3 (ninS ne_o_b2 nin0)
  have F_bitCount_o_3 := F_bitCount_o_2.keep Kq3 (ninS ne_o_b2 nin0)
  have F_diagrams_o_3 := F_diagrams_o_2.keep Kq3 (ninS ne_o_b2 nin0)
  have F_unprimedLevels_o_3 := F_unprimedLevels_o_2.keep Kq3 (ninS ne_o_b2 nin0)
  have F_primings_o_3 := F_primings_o_2.keep Kq3 (ninS ne_o_b2 nin0)
  have F_unprimings_o_3 := F_unprimings_o_2.keep Kq3 (ninS ne_o_b2 nin0)
  have F_primedQuantifiers_o_3 := F_primedQuantifiers_o_2.keep Kq3 (ninS ne_o_b2 nin0)
  have F_stateQuantifiers_o_3 := F_stateQuantifiers_o_2.keep Kq3 (ninS ne_o_b2 nin0)
  have F_laterQuantifiers_o_3 := F_laterQuantifiers_o_2.keep Kq3 (ninS ne_o_b2 nin0)
  have F_firstBitQuantifiers_o_3 := F_firstBitQuantifiers_o_2.keep Kq3 (ninS ne_o_b2 nin0)
  have F_stateCodes_o_3 := F_stateCodes_o_2.keep Kq3 (ninS ne_o_b2 nin0)
  have HOld_3 := HOld_2.keep Kq3 (allS g_b2 all0)
  have E_b2_3 := E_b2.keep Kq3
  have KK3 := K2.trans Kq3 (fun x hx' => by cases List.mem_singleton.mp hx'; exact Or.inr sz_b2)
  obtain ⟨T4, h4, X4, e4, W4, st4⟩ := putF X3 hx hZ hown (host := "") (Or.inl (hw _ (List.mem_of_getElem? (i := 30) rfl))) Via.refl rfl F_equalities_o_3 E_o_3 (Or.inr ⟨(hw _ (List.mem_of_getElem? (i := 31) rfl)), rfl, hnm⟩) (hw _ (List.mem_of_getElem? (i := 6) rfl)) (ty := (.object "java/util/Map")) (by decide) rfl rfl (g := (mkF m 12 #[.val (.ref o), .val (.int sc), .val (.int (1 : Int32)), .val (.int (0 : Int32)), .unset, .unset, .unset, .unset] [(.ref b2), (.ref o)])) rfl rfl (hb hby d2_12)
  have E_o_4 := E_o_3.wr W4
  have F_stateCount_o_4 := F_stateCount_o_3.other W4 (Or.inr (slot_ne (Or.inr (hw _ (List.mem_of_getElem? (i := 35) rfl))) (Or.inr (hw _ (List.mem_of_getElem? (i := 31) rfl))) (by decide) (t := .int) (t' := (.object "java/util/Map")) (by decide) (by decide)))
  have F_dimension_o_4 := F_dimension_o_3.other W4 (Or.inr (slot_ne (Or.inr (hw _ (List.mem_of_getElem? (i := 37) rfl))) (Or.inr (hw _ (List.mem_of_getElem? (i := 31) rfl))) (by decide) (t := .int) (t' := (.object "java/util/Map")) (by decide) (by decide)))
  have F_bitCount_o_4 := F_bitCount_o_3.other W4 (Or.inr (slot_ne (Or.inr (hw _ (List.mem_of_getElem? (i := 39) rfl))) (Or.inr (hw _ (List.mem_of_getElem? (i := 31) rfl))) (by decide) (t := .int) (t' := (.object "java/util/Map")) (by decide) (by decide)))
  have F_diagrams_o_4 := F_diagrams_o_3.other W4 (Or.inr (slot_ne (Or.inr (hw _ (List.mem_of_getElem? (i := 220) rfl))) (Or.inr (hw _ (List.mem_of_getElem? (i := 31) rfl))) (by decide) (t := (.object "com/example/fixpoint_checker/fixpointchecker/bdd/DecisionDiagrams")) (t' := (.object "java/util/Map")) (by decide) (by decide)))
  have F_unprimedLevels_o_4 := F_unprimedLevels_o_3.other W4 (Or.inr (slot_ne (Or.inr (hw _ (List.mem_of_getElem? (i := 223) rfl))) (Or.inr (hw _ (List.mem_of_getElem? (i := 31) rfl))) (by decide) (t := (.array .boolean)) (t' := (.object "java/util/Map")) (by decide) (by decide)))
  have F_primings_o_4 := F_primings_o_3.other W4 (Or.inr (slot_ne (Or.inr (hw _ (List.mem_of_getElem? (i := 229) rfl))) (Or.inr (hw _ (List.mem_of_getElem? (i := 31) rfl))) (by decide) (t := (.array .int)) (t' := (.object "java/util/Map")) (by decide) (by decide)))
  have F_unprimings_o_4 := F_unprimings_o_3.other W4 (Or.inr (slot_ne (Or.inr (hw _ (List.mem_of_getElem? (i := 231) rfl))) (Or.inr (hw _ (List.mem_of_getElem? (i := 31) rfl))) (by decide) (t := (.array .int)) (t' := (.object "java/util/Map")) (by decide) (by decide)))
  have F_primedQuantifiers_o_4 := F_primedQuantifiers_o_3.other W4 (Or.inr (slot_ne (Or.inr (hw _ (List.mem_of_getElem? (i := 233) rfl))) (Or.inr (hw _ (List.mem_of_getElem? (i := 31) rfl))) (by decide) (t := (.array .int)) (t' := (.object "java/util/Map")) (by decide) (by decide)))
  have F_stateQuantifiers_o_4 := F_stateQuantifiers_o_3.other W4 (Or.inr (slot_ne (Or.inr (hw _ (List.mem_of_getElem? (i := 235) rfl))) (Or.inr (hw _ (List.mem_of_getElem? (i := 31) rfl))) (by decide) (t := (.array .int)) (t' := (.object "java/util/Map")) (by decide) (by decide)))
  have F_laterQuantifiers_o_4 := F_laterQuantifiers_o_3.other W4 (Or.inr (slot_ne (Or.inr (hw _ (List.mem_of_getElem? (i := 237) rfl))) (Or.inr (hw _ (List.mem_of_getElem? (i := 31) rfl))) (by decide) (t := (.array .int)) (t' := (.object "java/util/Map")) (by decide) (by decide)))
  have F_firstBitQuantifiers_o_4 := F_firstBitQuantifiers_o_3.other W4 (Or.inr (slot_ne (Or.inr (hw _ (List.mem_of_getElem? (i := 239) rfl))) (Or.inr (hw _ (List.mem_of_getElem? (i := 31) rfl))) (by decide) (t := (.array .int)) (t' := (.object "java/util/Map")) (by decide) (by decide)))
  have F_stateCodes_o_4 := F_stateCodes_o_3.other W4 (Or.inr (slot_ne (Or.inr (hw _ (List.mem_of_getElem? (i := 241) rfl))) (Or.inr (hw _ (List.mem_of_getElem? (i := 31) rfl))) (by decide) (t := (.array .int)) (t' := (.object "java/util/Map")) (by decide) (by decide)))
  have HOld_4 := HOld_3.wr W4 g_o
  have F_equalities_o_4 := F_equalities_o_3.same W4
  have K4 := KK3.wr W4 (Or.inl (by simp))
  have N4 := Fr.snoc X4 N3 g_o
  have Z4 := Nat.le_trans Z3 (Keep.of_wr W4).1
  refine OFin.to (T4.setTop (mkF m 15 #[.val (.ref o), .val (.int sc), .val (.int (1 : Int32)), .val (.int (0 : Int32)), .unset, .unset, .unset, .unset] [])) st4 ?_
  refine OFin.to (T4.setTop (mkF m 16 #[.val (.ref o), .val (.int sc), .val (.int (1 : Int32)), .val (.int (0 : Int32)), .unset, .unset, .unset, .unset] [(.int sc)])) (fun _ kt => XS.iloadN X4.here hx rfl (hb hby d2_15) rfl kt) ?_
  refine OFin.to (T4.setTop (mkF m 17 #[.val (.ref o), .val (.int sc), .val (.int (1 : Int32)), .val (.int (0 : Int32)), .unset, .unset, .unset, .unset] [(.int (1 : Int32)), (.int sc)])) (fun _ kt => XS.iconst X4.here hx rfl (hb hby d2_16) kt) ?_
  refine OFin.to (T4.setTop (mkF m 20 #[.val (.ref o), .val (.int sc), .val (.int (1 : Int32)), .val (.int (0 : Int32)), .unset, .unset, .unset, .unset] [])) (fun _ kt => XS.icmpNo X4.here hx rfl (hb hby d2_17) rfl (XT.ii_lt_f (own_nlt1 sc hsc)) kt) ?_
  refine OFin.to (T4.setTop (mkF m 21 #[.val (.ref o), .val (.int sc), .val (.int (1 : Int32)), .val (.int (0 : Int32)), .unset, .unset, .unset, .unset] [(.int (1 : Int32))])) (fun _ kt => XS.iloadN X4.here hx rfl (hb hby d2_20) rfl kt) ?_
  refine OFin.to (T4.setTop (mkF m 39 #[.val (.ref o), .val (.int sc), .val (.int (1 : Int32)), .val (.int (0 : Int32)), .unset, .unset, .unset, .unset] [])) (fun _ kt => XS.ifYes X4.here hx rfl (pc0 := 21) (pc' := 39) rfl (hb hby d2_21) rfl (XT.i0_ge_t (by decide)) (by decide) (by decide) kt) ?_
  refine OFin.to (T4.setTop (mkF m 40 #[.val (.ref o), .val (.int sc), .val (.int (1 : Int32)), .val (.int (0 : Int32)), .unset, .unset, .unset, .unset] [(.int (0 : Int32))])) (fun _ kt => XS.iconst X4.here hx rfl (hb hby d2_39) kt) ?_
  refine OFin.to (T4.setTop (mkF m 42 #[.val (.ref o), .val (.int sc), .val (.int (1 : Int32)), .val (.int (0 : Int32)), .val (.int (0 : Int32)), .unset, .unset, .unset] [])) (fun _ kt => XS.istore X4.here hx rfl (hb hby d2_40) rfl (l' := #[.val (.ref o), .val (.int sc), .val (.int (1 : Int32)), .val (.int (0 : Int32)), .val (.int (0 : Int32)), .unset, .unset, .unset]) rfl kt) ?_
  have LP : ∀ (r i : Nat) (T : State) (L : List Loc), i + r = N → Stand p l e ({ frames := 5, cells := 41, slots := 20375, locals := 72 } : Room) s m #[(.ref o), (.int sc), (.int (1 : Int32)), (.int (0 : Int32))] below meth c T L 1 8 → T.heap = h4 → Fr n0 L → OFin p e below s ({ frames := 5, cells := 41, slots := 20375, locals := 72 } : Room).cells ({ frames := 5, cells := 41, slots := 20375, locals := 72 } : Room).slots (fun v h L => v = none ∧ Keep h0 h [o] ∧ Fr n0 L ∧ ∃ N : Nat, N ≤ 31 ∧ sc.toInt ≤ ((2 ^ N : Nat) : Int) ∧ (∀ b : Nat, b < N → ((2 ^ b : Nat) : Int) < sc.toInt) ∧ Exa Z h o "com/example/fixpoint_checker/fixpointchecker/symbolic/StateEncoding" ∧ Fld Z h o "com/example/fixpoint_checker/fixpointchecker/symbolic/StateEncoding" "bitCount" "I" (.int (Int32.ofNat N))) (T.setTop (mkF m 42 #[.val (.ref o), .val (.int sc), .val (.int (1 : Int32)), .val (.int (0 : Int32)), .val (.int (Int32.ofNat i)), .unset, .unset, .unset] [])) := by
    intro r
    induction r with
    | succ r ih =>
      intro i T L hi X eT NL
      refine OFin.to (T.setTop (mkF m 43 #[.val (.ref o), .val (.int sc), .val (.int (1 : Int32)), .val (.int (0 : Int32)), .val (.int (Int32.ofNat i)), .unset, .unset, .unset] [(.long (1 : Int64))])) (fun _ kt => XS.lconst X.here hx rfl (hb hby d2_42) kt) ?_
      refine OFin.to (T.setTop (mkF m 45 #[.val (.ref o), .val (.int sc), .val (.int (1 : Int32)), .val (.int (0 : Int32)), .val (.int (Int32.ofNat i)), .unset, .unset, .unset] [(.int (Int32.ofNat i)), (.long (1 : Int64))])) (fun _ kt => XS.iload X.here hx rfl (hb hby d2_43) rfl kt) ?_
      refine OFin.to (T.setTop (mkF m 46 #[.val (.ref o), .val (.int sc), .val (.int (1 : Int32)), .val (.int (0 : Int32)), .val (.int (Int32.ofNat i)), .unset, .unset, .unset] [(.long ((1 : Int64) <<< ((Int32.ofNat i) &&& 0x3f).toInt64))])) (fun _ kt => XS.lshl X.here hx rfl (hb hby d2_45) rfl kt) ?_
      refine OFin.to (T.setTop (mkF m 47 #[.val (.ref o), .val (.int sc), .val (.int (1 : Int32)), .val (.int (0 : Int32)), .val (.int (Int32.ofNat i)), .unset, .unset, .unset] [(.int sc), (.long ((1 : Int64) <<< ((Int32.ofNat i) &&& 0x3f).toInt64))])) (fun _ kt => XS.iloadN X.here hx rfl (hb hby d2_46) rfl kt) ?_
      refine OFin.to (T.setTop (mkF m 48 #[.val (.ref o), .val (.int sc), .val (.int (1 : Int32)), .val (.int (0 : Int32)), .val (.int (Int32.ofNat i)), .unset, .unset, .unset] [(.long (sc.toInt64)), (.long ((1 : Int64) <<< ((Int32.ofNat i) &&& 0x3f).toInt64))])) (fun _ kt => XS.i2l X.here hx rfl (hb hby d2_47) rfl kt) ?_
      refine OFin.to (T.setTop (mkF m 49 #[.val (.ref o), .val (.int sc), .val (.int (1 : Int32)), .val (.int (0 : Int32)), .val (.int (Int32.ofNat i)), .unset, .unset, .unset] [(.int (XT.cmpL ((1 : Int64) <<< ((Int32.ofNat i) &&& 0x3f).toInt64) (sc.toInt64)))])) (fun _ kt => XT.lcmp X.here hx rfl (hb hby d2_48) rfl kt) ?_
      refine OFin.to (T.setTop (mkF m 52 #[.val (.ref o), .val (.int sc), .val (.int (1 : Int32)), .val (.int (0 : Int32)), .val (.int (Int32.ofNat i)), .unset, .unset, .unset] [])) (fun _ kt => XS.ifNo X.here hx rfl (hb hby d2_49) rfl (XT.ll_ge_f (own_pwlt i sc hN (by omega) (hlt i (by omega)))) kt) ?_
      refine OFin.to (T.setTop (mkF m 55 #[.val (.ref o), .val (.int sc), .val (.int (1 : Int32)), .val (.int (0 : Int32)), .val (.int ((Int32.ofNat i) + (1 : Int32))), .unset, .unset, .unset] [])) (fun _ kt => XS.iinc X.here hx rfl (hb hby d2_52) rfl (l' := #[.val (.ref o), .val (.int sc), .val (.int (1 : Int32)), .val (.int (0 : Int32)), .val (.int ((Int32.ofNat i) + (1 : Int32))), .unset, .unset, .unset]) rfl kt) ?_
      refine OFin.to (T.setTop (mkF m 42 #[.val (.ref o), .val (.int sc), .val (.int (1 : Int32)), .val (.int (0 : Int32)), .val (.int ((Int32.ofNat i) + (1 : Int32))), .unset, .unset, .unset] [])) (fun _ kt => XS.goto X.here hx rfl (pc0 := 55) (pc' := 42) rfl (hb hby d2_55) (by decide) (by decide) kt) ?_
      rw [show Int32.ofNat i + (1 : Int32) = Int32.ofNat (i + 1) from own_ofAdd i 1]
      exact ih (i + 1) T L (by omega) X eT NL
    | zero =>
      intro i T L hi X eT NL
      obtain rfl : i = N := by omega
      refine OFin.to (T.setTop (mkF m 43 #[.val (.ref o), .val (.int sc), .val (.int (1 : Int32)), .val (.int (0 : Int32)), .val (.int (Int32.ofNat i)), .unset, .unset, .unset] [(.long (1 : Int64))])) (fun _ kt => XS.lconst X.here hx rfl (hb hby d2_42) kt) ?_
      refine OFin.to (T.setTop (mkF m 45 #[.val (.ref o), .val (.int sc), .val (.int (1 : Int32)), .val (.int (0 : Int32)), .val (.int (Int32.ofNat i)), .unset, .unset, .unset] [(.int (Int32.ofNat i)), (.long (1 : Int64))])) (fun _ kt => XS.iload X.here hx rfl (hb hby d2_43) rfl kt) ?_
      refine OFin.to (T.setTop (mkF m 46 #[.val (.ref o), .val (.int sc), .val (.int (1 : Int32)), .val (.int (0 : Int32)), .val (.int (Int32.ofNat i)), .unset, .unset, .unset] [(.long ((1 : Int64) <<< ((Int32.ofNat i) &&& 0x3f).toInt64))])) (fun _ kt => XS.lshl X.here hx rfl (hb hby d2_45) rfl kt) ?_
      refine OFin.to (T.setTop (mkF m 47 #[.val (.ref o), .val (.int sc), .val (.int (1 : Int32)), .val (.int (0 : Int32)), .val (.int (Int32.ofNat i)), .unset, .unset, .unset] [(.int sc), (.long ((1 : Int64) <<< ((Int32.ofNat i) &&& 0x3f).toInt64))])) (fun _ kt => XS.iloadN X.here hx rfl (hb hby d2_46) rfl kt) ?_
      refine OFin.to (T.setTop (mkF m 48 #[.val (.ref o), .val (.int sc), .val (.int (1 : Int32)), .val (.int (0 : Int32)), .val (.int (Int32.ofNat i)), .unset, .unset, .unset] [(.long (sc.toInt64)), (.long ((1 : Int64) <<< ((Int32.ofNat i) &&& 0x3f).toInt64))])) (fun _ kt => XS.i2l X.here hx rfl (hb hby d2_47) rfl kt) ?_
      refine OFin.to (T.setTop (mkF m 49 #[.val (.ref o), .val (.int sc), .val (.int (1 : Int32)), .val (.int (0 : Int32)), .val (.int (Int32.ofNat i)), .unset, .unset, .unset] [(.int (XT.cmpL ((1 : Int64) <<< ((Int32.ofNat i) &&& 0x3f).toInt64) (sc.toInt64)))])) (fun _ kt => XT.lcmp X.here hx rfl (hb hby d2_48) rfl kt) ?_
      refine OFin.to (T.setTop (mkF m 58 #[.val (.ref o), .val (.int sc), .val (.int (1 : Int32)), .val (.int (0 : Int32)), .val (.int (Int32.ofNat i)), .unset, .unset, .unset] [])) (fun _ kt => XS.ifYes X.here hx rfl (pc0 := 49) (pc' := 58) rfl (hb hby d2_49) rfl (XT.ll_ge_t (own_pwge i sc hN hle)) (by decide) (by decide) kt) ?_
      refine OFin.to (T.setTop (mkF m 61 #[.val (.ref o), .val (.int sc), .val (.int (1 : Int32)), .val (.int (0 : Int32)), .val (.int (Int32.ofNat i)), .unset, .unset, .unset] [(.long (2 : Int64))])) (fun _ kt => X.ldc2J hx hown (mvT hZ (hw _ (List.mem_of_getElem? (i := 32) rfl))) (g := (mkF m 58 #[.val (.ref o), .val (.int sc), .val (.int (1 : Int32)), .val (.int (0 : Int32)), .val (.int (Int32.ofNat i)), .unset, .unset, .unset] [])) rfl (hb hby d2_58) kt) ?_
      refine OFin.to (T.setTop (mkF m 63 #[.val (.ref o), .val (.int sc), .val (.int (1 : Int32)), .val (.int (0 : Int32)), .val (.int (Int32.ofNat i)), .unset, .unset, .unset] [(.int (Int32.ofNat i)), (.long (2 : Int64))])) (fun _ kt => XS.iload X.here hx rfl (hb hby d2_61) rfl kt) ?_
      refine OFin.to (T.setTop (mkF m 64 #[.val (.ref o), .val (.int sc), .val (.int (1 : Int32)), .val (.int (0 : Int32)), .val (.int (Int32.ofNat i)), .unset, .unset, .unset] [(.long ((Int32.ofNat i).toInt64)), (.long (2 : Int64))])) (fun _ kt => XS.i2l X.here hx rfl (hb hby d2_63) rfl kt) ?_
      refine OFin.to (T.setTop (mkF m 65 #[.val (.ref o), .val (.int sc), .val (.int (1 : Int32)), .val (.int (0 : Int32)), .val (.int (Int32.ofNat i)), .unset, .unset, .unset] [(.long ((2 : Int64) * ((Int32.ofNat i).toInt64)))])) (fun _ kt => XS.lmul X.here hx rfl (hb hby d2_64) rfl kt) ?_
      refine OFin.to (T.setTop (mkF m 66 #[.val (.ref o), .val (.int sc), .val (.int (1 : Int32)), .val (.int (0 : Int32)), .val (.int (Int32.ofNat i)), .unset, .unset, .unset] [(.int (1 : Int32)), (.long ((2 : Int64) * ((Int32.ofNat i).toInt64)))])) (fun _ kt => XS.iloadN X.here hx rfl (hb hby d2_65) rfl kt) ?_
      refine OFin.to (T.setTop (mkF m 67 #[.val (.ref o), .val (.int sc), .val (.int (1 : Int32)), .val (.int (0 : Int32)), .val (.int (Int32.ofNat i)), .unset, .unset, .unset] [(.long ((1 : Int32).toInt64)), (.long ((2 : Int64) * ((Int32.ofNat i).toInt64)))])) (fun _ kt => XS.i2l X.here hx rfl (hb hby d2_66) rfl kt) ?_
      refine OFin.to (T.setTop (mkF m 68 #[.val (.ref o), .val (.int sc), .val (.int (1 : Int32)), .val (.int (0 : Int32)), .val (.int (Int32.ofNat i)), .unset, .unset, .unset] [(.long (((2 : Int64) * ((Int32.ofNat i).toInt64)) * ((1 : Int32).toInt64)))])) (fun _ kt => XS.lmul X.here hx rfl (hb hby d2_67) rfl kt) ?_
      rw [own_lc i hN]
      refine OFin.to (T.setTop (mkF m 70 #[.val (.ref o), .val (.int sc), .val (.int (1 : Int32)), .val (.int (0 : Int32)), .val (.int (Int32.ofNat i)), .val (.long (Int64.ofNat (2 * i))), .second, .unset] [])) (fun _ kt => XS.lstore X.here hx rfl (hb hby d2_68) rfl (l' := #[.val (.ref o), .val (.int sc), .val (.int (1 : Int32)), .val (.int (0 : Int32)), .val (.int (Int32.ofNat i)), .val (.long (Int64.ofNat (2 * i))), .second, .unset]) rfl kt) ?_
      refine OFin.to (T.setTop (mkF m 72 #[.val (.ref o), .val (.int sc), .val (.int (1 : Int32)), .val (.int (0 : Int32)), .val (.int (Int32.ofNat i)), .val (.long (Int64.ofNat (2 * i))), .second, .unset] [(.long (Int64.ofNat (2 * i)))])) (fun _ kt => XS.lload X.here hx rfl (hb hby d2_70) rfl kt) ?_
      refine OFin.to (T.setTop (mkF m 75 #[.val (.ref o), .val (.int sc), .val (.int (1 : Int32)), .val (.int (0 : Int32)), .val (.int (Int32.ofNat i)), .val (.long (Int64.ofNat (2 * i))), .second, .unset] [(.long (2147483647 : Int64)), (.long (Int64.ofNat (2 * i)))])) (fun _ kt => X.ldc2J hx hown (mvT hZ (hw _ (List.mem_of_getElem? (i := 33) rfl))) (g := (mkF m 72 #[.val (.ref o), .val (.int sc), .val (.int (1 : Int32)), .val (.int (0 : Int32)), .val (.int (Int32.ofNat i)), .val (.long (Int64.ofNat (2 * i))), .second, .unset] [(.long (Int64.ofNat (2 * i)))])) rfl (hb hby d2_72) kt) ?_
      refine OFin.to (T.setTop (mkF m 76 #[.val (.ref o), .val (.int sc), .val (.int (1 : Int32)), .val (.int (0 : Int32)), .val (.int (Int32.ofNat i)), .val (.long (Int64.ofNat (2 * i))), .second, .unset] [(.int (XT.cmpL (Int64.ofNat (2 * i)) (2147483647 : Int64)))])) (fun _ kt => XT.lcmp X.here hx rfl (hb hby d2_75) rfl kt) ?_
      refine OFin.to (T.setTop (mkF m 94 #[.val (.ref o), .val (.int sc), .val (.int (1 : Int32)), .val (.int (0 : Int32)), .val (.int (Int32.ofNat i)), .val (.long (Int64.ofNat (2 * i))), .second, .unset] [])) (fun _ kt => XS.ifYes X.here hx rfl (pc0 := 76) (pc' := 94) rfl (hb hby d2_76) rfl (XT.ll_le_t (own_lcle i hN)) (by decide) (by decide) kt) ?_
      refine OFin.to (T.setTop (mkF m 95 #[.val (.ref o), .val (.int sc), .val (.int (1 : Int32)), .val (.int (0 : Int32)), .val (.int (Int32.ofNat i)), .val (.long (Int64.ofNat (2 * i))), .second, .unset] [(.ref o)])) (fun _ kt => XS.aloadN X.here hx rfl (hb hby d2_94) rfl rfl kt) ?_
      refine OFin.to (T.setTop (mkF m 96 #[.val (.ref o), .val (.int sc), .val (.int (1 : Int32)), .val (.int (0 : Int32)), .val (.int (Int32.ofNat i)), .val (.long (Int64.ofNat (2 * i))), .second, .unset] [(.int sc), (.ref o)])) (fun _ kt => XS.iloadN X.here hx rfl (hb hby d2_95) rfl kt) ?_
      obtain ⟨T5, h5, X5, e5, W5, st5⟩ := putF X hx hZ hown (host := "") (Or.inl (hw _ (List.mem_of_getElem? (i := 34) rfl))) Via.refl eT F_stateCount_o_4 E_o_4 (Or.inr ⟨(hw _ (List.mem_of_getElem? (i := 35) rfl)), rfl, hnm⟩) (hw _ (List.mem_of_getElem? (i := 6) rfl)) (ty := .int) (by decide) rfl rfl (g := (mkF m 96 #[.val (.ref o), .val (.int sc), .val (.int (1 : Int32)), .val (.int (0 : Int32)), .val (.int (Int32.ofNat i)), .val (.long (Int64.ofNat (2 * i))), .second, .unset] [(.int sc), (.ref o)])) rfl rfl (hb hby d2_96)
      have E_o_5 := E_o_4.wr W5
      have F_dimension_o_5 := F_dimension_o_4.other W5 (Or.inr (slot_ne (Or.inr (hw _ (List.mem_of_getElem? (i := 37) rfl))) (Or.inr (hw _ (List.mem_of_getElem? (i := 35) rfl))) (by decide) (t := .int) (t' := .int) (by decide) (by decide)))
      have F_bitCount_o_5 := F_bitCount_o_4.other W5 (Or.inr (slot_ne (Or.inr (hw _ (List.mem_of_getElem? (i := 39) rfl))) (Or.inr (hw _ (List.mem_of_getElem? (i := 35) rfl))) (by decide) (t := .int) (t' := .int) (by decide) (by decide)))
      have F_diagrams_o_5 := F_diagrams_o_4.other W5 (Or.inr (slot_ne (Or.inr (hw _ (List.mem_of_getElem? (i := 220) rfl))) (Or.inr (hw _ (List.mem_of_getElem? (i := 35) rfl))) (by decide) (t := (.object "com/example/fixpoint_checker/fixpointchecker/bdd/DecisionDiagrams")) (t' := .int) (by decide) (by decide)))
      have F_unprimedLevels_o_5 := F_unprimedLevels_o_4.other W5 (Or.inr (slot_ne (Or.inr (hw _ (List.mem_of_getElem? (i := 223) rfl))) (Or.inr (hw _ (List.mem_of_getElem? (i := 35) rfl))) (by decide) (t := (.array .boolean)) (t' := .int) (by decide) (by decide)))
      have F_primings_o_5 := F_primings_o_4.other W5 (Or.inr (slot_ne (Or.inr (hw _ (List.mem_of_getElem? (i := 229) rfl))) (Or.inr (hw _ (List.mem_of_getElem? (i := 35) rfl))) (by decide) (t := (.array .int)) (t' := .int) (by decide) (by decide)))
      have F_unprimings_o_5 := F_unprimings_o_4.other W5 (Or.inr (slot_ne (Or.inr (hw _ (List.mem_of_getElem? (i := 231) rfl))) (Or.inr (hw _ (List.mem_of_getElem? (i := 35) rfl))) (by decide) (t := (.array .int)) (t' := .int) (by decide) (by decide)))
      have F_primedQuantifiers_o_5 := F_primedQuantifiers_o_4.other W5 (Or.inr (slot_ne (Or.inr (hw _ (List.mem_of_getElem? (i := 233) rfl))) (Or.inr (hw _ (List.mem_of_getElem? (i := 35) rfl))) (by decide) (t := (.array .int)) (t' := .int) (by decide) (by decide)))
      have F_stateQuantifiers_o_5 := F_stateQuantifiers_o_4.other W5 (Or.inr (slot_ne (Or.inr (hw _ (List.mem_of_getElem? (i := 235) rfl))) (Or.inr (hw _ (List.mem_of_getElem? (i := 35) rfl))) (by decide) (t := (.array .int)) (t' := .int) (by decide) (by decide)))
      have F_laterQuantifiers_o_5 := F_laterQuantifiers_o_4.other W5 (Or.inr (slot_ne (Or.inr (hw _ (List.mem_of_getElem? (i := 237) rfl))) (Or.inr (hw _ (List.mem_of_getElem? (i := 35) rfl))) (by decide) (t := (.array .int)) (t' := .int) (by decide) (by decide)))
      have F_firstBitQuantifiers_o_5 := F_firstBitQuantifiers_o_4.other W5 (Or.inr (slot_ne (Or.inr (hw _ (List.mem_of_getElem? (i := 239) rfl))) (Or.inr (hw _ (List.mem_of_getElem? (i := 35) rfl))) (by decide) (t := (.array .int)) (t' := .int) (by decide) (by decide)))
      have F_stateCodes_o_5 := F_stateCodes_o_4.other W5 (Or.inr (slot_ne (Or.inr (hw _ (List.mem_of_getElem? (i := 241) rfl))) (Or.inr (hw _ (List.mem_of_getElem? (i := 35) rfl))) (by decide) (t := (.array .int)) (t' := .int) (by decide) (by decide)))
      have HOld_5 := HOld_4.wr W5 g_o
      have F_stateCount_o_5 := F_stateCount_o_4.same W5
      have K5 := K4.wr W5 (Or.inl (by simp))
      have N5 := Fr.snoc X5 NL g_o
      have Z5 := Nat.le_trans Z4 (Keep.of_wr W5).1
      refine OFin.to (T5.setTop (mkF m 99 #[.val (.ref o), .val (.int sc), .val (.int (1 : Int32)), .val (.int (0 : Int32)), .val (.int (Int32.ofNat i)), .val (.long (Int64.ofNat (2 * i))), .second, .unset] [])) st5 ?_
      refine OFin.to (T5.setTop (mkF m 100 #[.val (.ref o), .val (.int sc), .val (.int (1 : Int32)), .val (.int (0 : Int32)), .val (.int (Int32.ofNat i)), .val (.long (Int64.ofNat (2 * i))), .second, .unset] [(.ref o)])) (fun _ kt => XS.aloadN X5.here hx rfl (hb hby d2_99) rfl rfl kt) ?_
      refine OFin.to (T5.setTop (mkF m 101 #[.val (.ref o), .val (.int sc), .val (.int (1 : Int32)), .val (.int (0 : Int32)), .val (.int (Int32.ofNat i)), .val (.long (Int64.ofNat (2 * i))), .second, .unset] [(.int (1 : Int32)), (.ref o)])) (fun _ kt => XS.iloadN X5.here hx rfl (hb hby d2_100) rfl kt) ?_
      obtain ⟨T6, h6, X6, e6, W6, st6⟩ := putF X5 hx hZ hown (host := "") (Or.inl (hw _ (List.mem_of_getElem? (i := 36) rfl))) Via.refl e5 F_dimension_o_5 E_o_5 (Or.inr ⟨(hw _ (List.mem_of_getElem? (i := 37) rfl)), rfl, hnm⟩) (hw _ (List.mem_of_getElem? (i := 6) rfl)) (ty := .int) (by decide) rfl rfl (g := (mkF m 101 #[.val (.ref o), .val (.int sc), .val (.int (1 : Int32)), .val (.int (0 : Int32)), .val (.int (Int32.ofNat i)), .val (.long (Int64.ofNat (2 * i))), .second, .unset] [(.int (1 : Int32)), (.ref o)])) rfl rfl (hb hby d2_101)
      have E_o_6 := E_o_5.wr W6
      have F_bitCount_o_6 := F_bitCount_o_5.other W6 (Or.inr (slot_ne (Or.inr (hw _ (List.mem_of_getElem? (i := 39) rfl))) (Or.inr (hw _ (List.mem_of_getElem? (i := 37) rfl))) (by decide) (t := .int) (t' := .int) (by decide) (by decide)))
      have F_diagrams_o_6 := F_diagrams_o_5.other W6 (Or.inr (slot_ne (Or.inr (hw _ (List.mem_of_getElem? (i := 220) rfl))) (Or.inr (hw _ (List.mem_of_getElem? (i := 37) rfl))) (by decide) (t := (.object "com/example/fixpoint_checker/fixpointchecker/bdd/DecisionDiagrams")) (t' := .int) (by decide) (by decide)))
      have F_unprimedLevels_o_6 := F_unprimedLevels_o_5.other W6 (Or.inr (slot_ne (Or.inr (hw _ (List.mem_of_getElem? (i := 223) rfl))) (Or.inr (hw _ (List.mem_of_getElem? (i := 37) rfl))) (by decide) (t := (.array .boolean)) (t' := .int) (by decide) (by decide)))
      have F_primings_o_6 := F_primings_o_5.other W6 (Or.inr (slot_ne (Or.inr (hw _ (List.mem_of_getElem? (i := 229) rfl))) (Or.inr (hw _ (List.mem_of_getElem? (i := 37) rfl))) (by decide) (t := (.array .int)) (t' := .int) (by decide) (by decide)))
      have F_unprimings_o_6 := F_unprimings_o_5.other W6 (Or.inr (slot_ne (Or.inr (hw _ (List.mem_of_getElem? (i := 231) rfl))) (Or.inr (hw _ (List.mem_of_getElem? (i := 37) rfl))) (by decide) (t := (.array .int)) (t' := .int) (by decide) (by decide)))
      have F_primedQuantifiers_o_6 := F_primedQuantifiers_o_5.other W6 (Or.inr (slot_ne (Or.inr (hw _ (List.mem_of_getElem? (i := 233) rfl))) (Or.inr (hw _ (List.mem_of_getElem? (i := 37) rfl))) (by decide) (t := (.array .int)) (t' := .int) (by decide) (by decide)))
      have F_stateQuantifiers_o_6 := F_stateQuantifiers_o_5.other W6 (Or.inr (slot_ne (Or.inr (hw _ (List.mem_of_getElem? (i := 235) rfl))) (Or.inr (hw _ (List.mem_of_getElem? (i := 37) rfl))) (by decide) (t := (.array .int)) (t' := .int) (by decide) (by decide)))
      have F_laterQuantifiers_o_6 := F_laterQuantifiers_o_5.other W6 (Or.inr (slot_ne (Or.inr (hw _ (List.mem_of_getElem? (i := 237) rfl))) (Or.inr (hw _ (List.mem_of_getElem? (i := 37) rfl))) (by decide) (t := (.array .int)) (t' := .int) (by decide) (by decide)))
      have F_firstBitQuantifiers_o_6 := F_firstBitQuantifiers_o_5.other W6 (Or.inr (slot_ne (Or.inr (hw _ (List.mem_of_getElem? (i := 239) rfl))) (Or.inr (hw _ (List.mem_of_getElem? (i := 37) rfl))) (by decide) (t := (.array .int)) (t' := .int) (by decide) (by decide)))
      have F_stateCodes_o_6 := F_stateCodes_o_5.other W6 (Or.inr (slot_ne (Or.inr (hw _ (List.mem_of_getElem? (i := 241) rfl))) (Or.inr (hw _ (List.mem_of_getElem? (i := 37) rfl))) (by decide) (t := (.array .int)) (t' := .int) (by decide) (by decide)))
      have HOld_6 := HOld_5.wr W6 g_o
      have F_dimension_o_6 := F_dimension_o_5.same W6
      have K6 := K5.wr W6 (Or.inl (by simp))
      have N6 := Fr.snoc X6 N5 g_o
      have Z6 := Nat.le_trans Z5 (Keep.of_wr W6).1
      refine OFin.to (T6.setTop (mkF m 104 #[.val (.ref o), .val (.int sc), .val (.int (1 : Int32)), .val (.int (0 : Int32)), .val (.int (Int32.ofNat i)), .val (.long (Int64.ofNat (2 * i))), .second, .unset] [])) st6 ?_
      refine OFin.to (T6.setTop (mkF m 105 #[.val (.ref o), .val (.int sc), .val (.int (1 : Int32)), .val (.int (0 : Int32)), .val (.int (Int32.ofNat i)), .val (.long (Int64.ofNat (2 * i))), .second, .unset] [(.ref o)])) (fun _ kt => XS.aloadN X6.here hx rfl (hb hby d2_104) rfl rfl kt) ?_
      refine OFin.to (T6.setTop (mkF m 107 #[.val (.ref o), .val (.int sc), .val (.int (1 : Int32)), .val (.int (0 : Int32)), .val (.int (Int32.ofNat i)), .val (.long (Int64.ofNat (2 * i))), .second, .unset] [(.int (Int32.ofNat i)), (.ref o)])) (fun _ kt => XS.iload X6.here hx rfl (hb hby d2_105) rfl kt) ?_
      obtain ⟨T7, h7, X7, e7, W7, st7⟩ := putF X6 hx hZ hown (host := "") (Or.inl (hw _ (List.mem_of_getElem? (i := 38) rfl))) Via.refl e6 F_bitCount_o_6 E_o_6 (Or.inr ⟨(hw _ (List.mem_of_getElem? (i := 39) rfl)), rfl, hnm⟩) (hw _ (List.mem_of_getElem? (i := 6) rfl)) (ty := .int) (by decide) rfl rfl (g := (mkF m 107 #[.val (.ref o), .val (.int sc), .val (.int (1 : Int32)), .val (.int (0 : Int32)), .val (.int (Int32.ofNat i)), .val (.long (Int64.ofNat (2 * i))), .second, .unset] [(.int (Int32.ofNat i)), (.ref o)])) rfl rfl (hb hby d2_107)
      have E_o_7 := E_o_6.wr W7
      have F_diagrams_o_7 := F_diagrams_o_6.other W7 (Or.inr (slot_ne (Or.inr (hw _ (List.mem_of_getElem? (i := 220) rfl))) (Or.inr (hw _ (List.mem_of_getElem? (i := 39) rfl))) (by decide) (t := (.object "com/example/fixpoint_checker/fixpointchecker/bdd/DecisionDiagrams")) (t' := .int) (by decide) (by decide)))
      have F_unprimedLevels_o_7 := F_unprimedLevels_o_6.other W7 (Or.inr (slot_ne (Or.inr (hw _ (List.mem_of_getElem? (i := 223) rfl))) (Or.inr (hw _ (List.mem_of_getElem? (i := 39) rfl))) (by decide) (t := (.array .boolean)) (t' := .int) (by decide) (by decide)))
      have F_primings_o_7 := F_primings_o_6.other W7 (Or.inr (slot_ne (Or.inr (hw _ (List.mem_of_getElem? (i := 229) rfl))) (Or.inr (hw _ (List.mem_of_getElem? (i := 39) rfl))) (by decide) (t := (.array .int)) (t' := .int) (by decide) (by decide)))
      have F_unprimings_o_7 := F_unprimings_o_6.other W7 (Or.inr (slot_ne (Or.inr (hw _ (List.mem_of_getElem? (i := 231) rfl))) (Or.inr (hw _ (List.mem_of_getElem? (i := 39) rfl))) (by decide) (t := (.array .int)) (t' := .int) (by decide) (by decide)))
      have F_primedQuantifiers_o_7 := F_primedQuantifiers_o_6.other W7 (Or.inr (slot_ne (Or.inr (hw _ (List.mem_of_getElem? (i := 233) rfl))) (Or.inr (hw _ (List.mem_of_getElem? (i := 39) rfl))) (by decide) (t := (.array .int)) (t' := .int) (by decide) (by decide)))
      have F_stateQuantifiers_o_7 := F_stateQuantifiers_o_6.other W7 (Or.inr (slot_ne (Or.inr (hw _ (List.mem_of_getElem? (i := 235) rfl))) (Or.inr (hw _ (List.mem_of_getElem? (i := 39) rfl))) (by decide) (t := (.array .int)) (t' := .int) (by decide) (by decide)))
      have F_laterQuantifiers_o_7 := F_laterQuantifiers_o_6.other W7 (Or.inr (slot_ne (Or.inr (hw _ (List.mem_of_getElem? (i := 237) rfl))) (Or.inr (hw _ (List.mem_of_getElem? (i := 39) rfl))) (by decide) (t := (.array .int)) (t' := .int) (by decide) (by decide)))
      have F_firstBitQuantifiers_o_7 := F_firstBitQuantifiers_o_6.other W7 (Or.inr (slot_ne (Or.inr (hw _ (List.mem_of_getElem? (i := 239) rfl))) (Or.inr (hw _ (List.mem_of_getElem? (i := 39) rfl))) (by decide) (t := (.array .int)) (t' := .int) (by decide) (by decide)))
      have F_stateCodes_o_7 := F_stateCodes_o_6.other W7 (Or.inr (slot_ne (Or.inr (hw _ (List.mem_of_getElem? (i := 241) rfl))) (Or.inr (hw _ (List.mem_of_getElem? (i := 39) rfl))) (by decide) (t := (.array .int)) (t' := .int) (by decide) (by decide)))
      have HOld_7 := HOld_6.wr W7 g_o
      have F_bitCount_o_7 := F_bitCount_o_6.same W7
      have K7 := K6.wr W7 (Or.inl (by simp))
      have N7 := Fr.snoc X7 N6 g_o
      have Z7 := Nat.le_trans Z6 (Keep.of_wr W7).1
      refine OFin.to (T7.setTop (mkF m 110 #[.val (.ref o), .val (.int sc), .val (.int (1 : Int32)), .val (.int (0 : Int32)), .val (.int (Int32.ofNat i)), .val (.long (Int64.ofNat (2 * i))), .second, .unset] [])) st7 ?_
      refine OFin.to (T7.setTop (mkF m 111 #[.val (.ref o), .val (.int sc), .val (.int (1 : Int32)), .val (.int (0 : Int32)), .val (.int (Int32.ofNat i)), .val (.long (Int64.ofNat (2 * i))), .second, .unset] [(.ref o)])) (fun _ kt => XS.aloadN X7.here hx rfl (hb hby d2_110) rfl rfl kt) ?_
      obtain ⟨T8, h8, X8, e8, E8, A8, D8, -, st8⟩ := newO X7 hx hZ hown (hw _ (List.mem_of_getElem? (i := 40) rfl)) (hw _ (List.mem_of_getElem? (i := 41) rfl)) (hw _ (List.mem_of_getElem? (i := 42) rfl)) e7 (g := (mkF m 111 #[.val (.ref o), .val (.int sc), .val (.int (1 : Int32)), .val (.int (0 : Int32)), .val (.int (Int32.ofNat i)), .val (.long (Int64.ofNat (2 * i))), .second, .unset] [(.ref o)])) rfl (hb hby d2_111) (by decide) (by decide)
      obtain ⟨b8, g8⟩ : ∃ z, z = h7.size := ⟨_, rfl⟩
      rw [← g8] at A8 D8 st8
      have g_b8 : n0 ≤ b8 := by rw [g8]; exact Z7
      have ne_o_b8 : o ≠ b8 := by rw [g8]; exact Nat.ne_of_lt E_o_7.lt
      have sz_b8 : h0.size ≤ b8 := by rw [g8]; exact K7.1
      have E_o_8 := E_o_7.ext E8
      have F_bitCount_o_8 := F_bitCount_o_7.ext E8
      have F_diagrams_o_8 := F_diagrams_o_7.ext E8
      have F_unprimedLevels_o_8 := F_unprimedLevels_o_7.ext E8
      have F_primings_o_8 := F_primings_o_7.ext E8
      have F_unprimings_o_8 := F_unprimings_o_7.ext E8
      have F_primedQuantifiers_o_8 := F_primedQuantifiers_o_7.ext E8
      have F_stateQuantifiers_o_8 := F_stateQuantifiers_o_7.ext E8
      have F_laterQuantifiers_o_8 := F_laterQuantifiers_o_7.ext E8
      have F_firstBitQuantifiers_o_8 := F_firstBitQuantifiers_o_7.ext E8
      have F_stateCodes_o_8 := F_stateCodes_o_7.ext E8
      have HOld_8 := HOld_7.ext E8
      have Z8 := Nat.le_trans Z7 E8.1
      have K8 := K7.ext E8
      have E_b8 := A8
      have F_freeHead_b8 : Fld Z h8 b8 "com/example/fixpoint_checker/fixpointchecker/bdd/DecisionDiagrams" "freeHead" "I" (.int (0 : Int32)) := D8 (Or.inl (hw _ (List.mem_of_getElem? (i := 48) rfl))) (ty := .int) (by decide)
      have F_wideConjunction_b8 : Fld Z h8 b8 "com/example/fixpoint_checker/fixpointchecker/bdd/DecisionDiagrams" "wideConjunction" "Lcom/example/fixpoint_checker/fixpointchecker/bdd/WideConjunction;" .null := D8 (Or.inr (hw _ (List.mem_of_getElem? (i := 90) rfl))) (ty := (.object "com/example/fixpoint_checker/fixpointchecker/bdd/WideConjunction")) (by decide)
      have F_quantifiers_b8 : Fld Z h8 b8 "com/example/fixpoint_checker/fixpointchecker/bdd/DecisionDiagrams" "quantifiers" "Ljava/util/List;" .null := D8 (Or.inr (hw _ (List.mem_of_getElem? (i := 116) rfl))) (ty := (.object "java/util/List")) (by decide)
      have F_lastQuantified_b8 : Fld Z h8 b8 "com/example/fixpoint_checker/fixpointchecker/bdd/DecisionDiagrams" "lastQuantified" "Lcom/example/fixpoint_checker/fixpointchecker/IntList;" .null := D8 (Or.inr (hw _ (List.mem_of_getElem? (i := 120) rfl))) (ty := (.object "com/example/fixpoint_checker/fixpointchecker/IntList")) (by decide)
      have F_renamings_b8 : Fld Z h8 b8 "com/example/fixpoint_checker/fixpointchecker/bdd/DecisionDiagrams" "renamings" "Ljava/util/List;" .null := D8 (Or.inr (hw _ (List.mem_of_getElem? (i := 122) rfl))) (ty := (.object "java/util/List")) (by decide)
      have F_frameOperations_b8 : Fld Z h8 b8 "com/example/fixpoint_checker/fixpointchecker/bdd/DecisionDiagrams" "frameOperations" "[I" .null := D8 (Or.inl (hw _ (List.mem_of_getElem? (i := 124) rfl))) (ty := (.array .int)) (by decide)
      have F_frameFirsts_b8 : Fld Z h8 b8 "com/example/fixpoint_checker/fixpointchecker/bdd/DecisionDiagrams" "frameFirsts" "[I" .null := D8 (Or.inl (hw _ (List.mem_of_getElem? (i := 126) rfl))) (ty := (.array .int)) (by decide)
      have F_frameSeconds_b8 : Fld Z h8 b8 "com/example/fixpoint_checker/fixpointchecker/bdd/DecisionDiagrams" "frameSeconds" "[I" .null := D8 (Or.inl (hw _ (List.mem_of_getElem? (i := 128) rfl))) (ty := (.array .int)) (by decide)
      have F_frameExtras_b8 : Fld Z h8 b8 "com/example/fixpoint_checker/fixpointchecker/bdd/DecisionDiagrams" "frameExtras" "[I" .null := D8 (Or.inl (hw _ (List.mem_of_getElem? (i := 130) rfl))) (ty := (.array .int)) (by decide)
      have F_frameLevels_b8 : Fld Z h8 b8 "com/example/fixpoint_checker/fixpointchecker/bdd/DecisionDiagrams" "frameLevels" "[I" .null := D8 (Or.inl (hw _ (List.mem_of_getElem? (i := 132) rfl))) (ty := (.array .int)) (by decide)
      have F_frameStates_b8 : Fld Z h8 b8 "com/example/fixpoint_checker/fixpointchecker/bdd/DecisionDiagrams" "frameStates" "[I" .null := D8 (Or.inl (hw _ (List.mem_of_getElem? (i := 134) rfl))) (ty := (.array .int)) (by decide)
      have F_results_b8 : Fld Z h8 b8 "com/example/fixpoint_checker/fixpointchecker/bdd/DecisionDiagrams" "results" "Lcom/example/fixpoint_checker/fixpointchecker/IntList;" .null := D8 (Or.inr (hw _ (List.mem_of_getElem? (i := 136) rfl))) (ty := (.object "com/example/fixpoint_checker/fixpointchecker/IntList")) (by decide)
      have F_walkPending_b8 : Fld Z h8 b8 "com/example/fixpoint_checker/fixpointchecker/bdd/DecisionDiagrams" "walkPending" "Lcom/example/fixpoint_checker/fixpointchecker/IntList;" .null := D8 (Or.inr (hw _ (List.mem_of_getElem? (i := 138) rfl))) (ty := (.object "com/example/fixpoint_checker/fixpointchecker/IntList")) (by decide)
      have F_walkVisited_b8 : Fld Z h8 b8 "com/example/fixpoint_checker/fixpointchecker/bdd/DecisionDiagrams" "walkVisited" "Lcom/example/fixpoint_checker/fixpointchecker/IntList;" .null := D8 (Or.inr (hw _ (List.mem_of_getElem? (i := 140) rfl))) (ty := (.object "com/example/fixpoint_checker/fixpointchecker/IntList")) (by decide)
      have F_walkMarks_b8 : Fld Z h8 b8 "com/example/fixpoint_checker/fixpointchecker/bdd/DecisionDiagrams" "walkMarks" "Ljava/util/BitSet;" .null := D8 (Or.inr (hw _ (List.mem_of_getElem? (i := 163) rfl))) (ty := (.object "java/util/BitSet")) (by decide)
      have F_levelCount_b8 : Fld Z h8 b8 "com/example/fixpoint_checker/fixpointchecker/bdd/DecisionDiagrams" "levelCount" "I" (.int (0 : Int32)) := D8 (Or.inr (hw _ (List.mem_of_getElem? (i := 165) rfl))) (ty := .int) (by decide)
      have F_collectionFloor_b8 : Fld Z h8 b8 "com/example/fixpoint_checker/fixpointchecker/bdd/DecisionDiagrams" "collectionFloor" "I" (.int (0 : Int32)) := D8 (Or.inr (hw _ (List.mem_of_getElem? (i := 167) rfl))) (ty := .int) (by decide)
      have F_collectionThreshold_b8 : Fld Z h8 b8 "com/example/fixpoint_checker/fixpointchecker/bdd/DecisionDiagrams" "collectionThreshold" "I" (.int (0 : Int32)) := D8 (Or.inl (hw _ (List.mem_of_getElem? (i := 169) rfl))) (ty := .int) (by decide)
      have F_capacity_b8 : Fld Z h8 b8 "com/example/fixpoint_checker/fixpointchecker/bdd/DecisionDiagrams" "capacity" "I" (.int (0 : Int32)) := D8 (Or.inl (hw _ (List.mem_of_getElem? (i := 175) rfl))) (ty := .int) (by decide)
      have F_slots_b8 : Fld Z h8 b8 "com/example/fixpoint_checker/fixpointchecker/bdd/DecisionDiagrams" "slots" "[J" .null := D8 (Or.inl (hw _ (List.mem_of_getElem? (i := 177) rfl))) (ty := (.array .long)) (by decide)
      have F_buckets_b8 : Fld Z h8 b8 "com/example/fixpoint_checker/fixpointchecker/bdd/DecisionDiagrams" "buckets" "[I" .null := D8 (Or.inl (hw _ (List.mem_of_getElem? (i := 188) rfl))) (ty := (.array .int)) (by decide)
      have F_cache_b8 : Fld Z h8 b8 "com/example/fixpoint_checker/fixpointchecker/bdd/DecisionDiagrams" "cache" "[I" .null := D8 (Or.inl (hw _ (List.mem_of_getElem? (i := 198) rfl))) (ty := (.array .int)) (by decide)
      have F_cacheMask_b8 : Fld Z h8 b8 "com/example/fixpoint_checker/fixpointchecker/bdd/DecisionDiagrams" "cacheMask" "I" (.int (0 : Int32)) := D8 (Or.inl (hw _ (List.mem_of_getElem? (i := 200) rfl))) (ty := .int) (by decide)
      have F_slotCount_b8 : Fld Z h8 b8 "com/example/fixpoint_checker/fixpointchecker/bdd/DecisionDiagrams" "slotCount" "I" (.int (0 : Int32)) := D8 (Or.inl (hw _ (List.mem_of_getElem? (i := 218) rfl))) (ty := .int) (by decide)
      refine OFin.to (T8.setTop (mkF m 114 #[.val (.ref o), .val (.int sc), .val (.int (1 : Int32)), .val (.int (0 : Int32)), .val (.int (Int32.ofNat i)), .val (.long (Int64.ofNat (2 * i))), .second, .unset] [(.ref b8), (.ref o)])) st8 ?_
      refine OFin.to (T8.setTop (mkF m 115 #[.val (.ref o), .val (.int sc), .val (.int (1 : Int32)), .val (.int (0 : Int32)), .val (.int (Int32.ofNat i)), .val (.long (Int64.ofNat (2 * i))), .second, .unset] [(.ref b8), (.ref b8), (.ref o)])) (fun _ kt => XS.dup X8.here hx rfl (hb hby d2_114) rfl rfl kt) ?_
      refine OFin.to (T8.setTop (mkF m 117 #[.val (.ref o), .val (.int sc), .val (.int (1 : Int32)), .val (.int (0 : Int32)), .val (.int (Int32.ofNat i)), .val (.long (Int64.ofNat (2 * i))), .second, .unset] [(.long (Int64.ofNat (2 * i))), (.ref b8), (.ref b8), (.ref o)])) (fun _ kt => XS.lload X8.here hx rfl (hb hby d2_115) rfl kt) ?_
      refine OFin.to (T8.setTop (mkF m 118 #[.val (.ref o), .val (.int sc), .val (.int (1 : Int32)), .val (.int (0 : Int32)), .val (.int (Int32.ofNat i)), .val (.long (Int64.ofNat (2 * i))), .second, .unset] [(.int ((Int64.ofNat (2 * i)).toInt32)), (.ref b8), (.ref b8), (.ref o)])) (fun _ kt => XS.l2i X8.here hx rfl (hb hby d2_117) rfl kt) ?_
      rw [own_lci i hN]
      refine OFin.to (T8.setTop (mkF m 119 #[.val (.ref o), .val (.int sc), .val (.int (1 : Int32)), .val (.int (0 : Int32)), .val (.int (Int32.ofNat i)), .val (.long (Int64.ofNat (2 * i))), .second, .unset] [(.int (0 : Int32)), (.int (Int32.ofNat (2 * i))), (.ref b8), (.ref b8), (.ref o)])) (fun _ kt => XS.iloadN X8.here hx rfl (hb hby d2_118) rfl kt) ?_
      obtain ⟨v9, T9, L9, hQ9, X9, st9⟩ := own_callN X8 hx hZ hown rfl (hw _ (List.mem_of_getElem? (i := 43) rfl)) (hw _ (List.mem_of_getElem? (i := 44) rfl)) (hw _ (List.mem_of_getElem? (i := 45) rfl)) (hw _ (List.mem_of_getElem? (i := 42) rfl)) (by decide) e8 (rm6 l Z a0 hw [] b8 (Int32.ofNat (2 * i)) h8 n0 Z8 g_b8 E_b8 F_freeHead_b8 F_wideConjunction_b8 F_quantifiers_b8 F_lastQuantified_b8 F_renamings_b8 F_frameOperations_b8 F_frameFirsts_b8 F_frameSeconds_b8 F_frameExtras_b8 F_frameLevels_b8 F_frameStates_b8 F_results_b8 F_walkPending_b8 F_walkVisited_b8 F_walkMarks_b8 F_levelCount_b8 F_collectionFloor_b8 F_collectionThreshold_b8 F_capacity_b8 F_slots_b8 F_buckets_b8 F_cache_b8 F_cacheMask_b8 F_slotCount_b8 aS HS HOld_8 (own_ix (2 * i) (by omega)).1) 2 (by decide) (by decide) (by decide) (by decide) (g := (mkF m 119 #[.val (.ref o), .val (.int sc), .val (.int (1 : Int32)), .val (.int (0 : Int32)), .val (.int (Int32.ofNat i)), .val (.long (Int64.ofNat (2 * i))), .second, .unset] [(.int (0 : Int32)), (.int (Int32.ofNat (2 * i))), (.ref b8), (.ref b8), (.ref o)])) rfl (by rw [hml]; rfl) (rest := [(.ref b8), (.ref o)]) (lenOf pd_9 rfl) rfl (by show 2 * 0 + _ ≤ _; exact Nat.le_of_eq rfl) (hb hby d2_119)
      obtain ⟨rfl, Kq9, Nq9⟩ := hQ9
      refine OFin.to (T9.setTop (mkF m 122 #[.val (.ref o), .val (.int sc), .val (.int (1 : Int32)), .val (.int (0 : Int32)), .val (.int (Int32.ofNat i)), .val (.long (Int64.ofNat (2 * i))), .second, .unset] [(.ref b8), (.ref o)])) st9 ?_
      have N9 := Fr.app N7 Nq9
      have Z9 := Nat.le_trans Z8 Kq9.1
      have E_o_9 := E_o_8.keep Kq9
      have F_bitCount_o_9 := F_bitCount_o_8.keep Kq9 (ninS ne_o_b8 nin0)
      have F_diagrams_o_9 := F_diagrams_o_8.keep Kq9 (ninS ne_o_b8 nin0)
      have F_unprimedLevels_o_9 := F_unprimedLevels_o_8.keep Kq9 (ninS ne_o_b8 nin0)
      have F_primings_o_9 := F_primings_o_8.keep Kq9 (ninS ne_o_b8 nin0)
      have F_unprimings_o_9 := F_unprimings_o_8.keep Kq9 (ninS ne_o_b8 nin0)
      have F_primedQuantifiers_o_9 := F_primedQuantifiers_o_8.keep Kq9 (ninS ne_o_b8 nin0)
      have F_stateQuantifiers_o_9 := F_stateQuantifiers_o_8.keep Kq9 (ninS ne_o_b8 nin0)
      have F_laterQuantifiers_o_9 := F_laterQuantifiers_o_8.keep Kq9 (ninS ne_o_b8 nin0)
      have F_firstBitQuantifiers_o_9 := F_firstBitQuantifiers_o_8.keep Kq9 (ninS ne_o_b8 nin0)
      have F_stateCodes_o_9 := F_stateCodes_o_8.keep Kq9 (ninS ne_o_b8 nin0)
      have HOld_9 := HOld_8.keep Kq9 (allS g_b8 all0)
      have E_b8_9 := E_b8.keep Kq9
      have KK9 := K8.trans Kq9 (fun x hx' => by cases List.mem_singleton.mp hx'; exact Or.inr sz_b8)
      obtain ⟨T10, h10, X10, e10, W10, st10⟩ := putF X9 hx hZ hown (host := "") (Or.inl (hw _ (List.mem_of_getElem? (i := 219) rfl))) Via.refl rfl F_diagrams_o_9 E_o_9 (Or.inr ⟨(hw _ (List.mem_of_getElem? (i := 220) rfl)), rfl, hnm⟩) (hw _ (List.mem_of_getElem? (i := 6) rfl)) (ty := (.object "com/example/fixpoint_checker/fixpointchecker/bdd/DecisionDiagrams")) (by decide) rfl rfl (g := (mkF m 122 #[.val (.ref o), .val (.int sc), .val (.int (1 : Int32)), .val (.int (0 : Int32)), .val (.int (Int32.ofNat i)), .val (.long (Int64.ofNat (2 * i))), .second, .unset] [(.ref b8), (.ref o)])) rfl rfl (hb hby d2_122)
      have E_o_10 := E_o_9.wr W10
      have F_bitCount_o_10 := F_bitCount_o_9.other W10 (Or.inr (slot_ne (Or.inr (hw _ (List.mem_of_getElem? (i := 39) rfl))) (Or.inr (hw _ (List.mem_of_getElem? (i := 220) rfl))) (by decide) (t := .int) (t' := (.object "com/example/fixpoint_checker/fixpointchecker/bdd/DecisionDiagrams")) (by decide) (by decide)))
      have F_unprimedLevels_o_10 := F_unprimedLevels_o_9.other W10 (Or.inr (slot_ne (Or.inr (hw _ (List.mem_of_getElem? (i := 223) rfl))) (Or.inr (hw _ (List.mem_of_getElem? (i := 220) rfl))) (by decide) (t := (.array .boolean)) (t' := (.object "com/example/fixpoint_checker/fixpointchecker/bdd/DecisionDiagrams")) (by decide) (by decide)))
      have F_primings_o_10 := F_primings_o_9.other W10 (Or.inr (slot_ne (Or.inr (hw _ (List.mem_of_getElem? (i := 229) rfl))) (Or.inr (hw _ (List.mem_of_getElem? (i := 220) rfl))) (by decide) (t := (.array .int)) (t' := (.object "com/example/fixpoint_checker/fixpointchecker/bdd/DecisionDiagrams")) (by decide) (by decide)))
      have F_unprimings_o_10 := F_unprimings_o_9.other W10 (Or.inr (slot_ne (Or.inr (hw _ (List.mem_of_getElem? (i := 231) rfl))) (Or.inr (hw _ (List.mem_of_getElem? (i := 220) rfl))) (by decide) (t := (.array .int)) (t' := (.object "com/example/fixpoint_checker/fixpointchecker/bdd/DecisionDiagrams")) (by decide) (by decide)))
      have F_primedQuantifiers_o_10 := F_primedQuantifiers_o_9.other W10 (Or.inr (slot_ne (Or.inr (hw _ (List.mem_of_getElem? (i := 233) rfl))) (Or.inr (hw _ (List.mem_of_getElem? (i := 220) rfl))) (by decide) (t := (.array .int)) (t' := (.object "com/example/fixpoint_checker/fixpointchecker/bdd/DecisionDiagrams")) (by decide) (by decide)))
      have F_stateQuantifiers_o_10 := F_stateQuantifiers_o_9.other W10 (Or.inr (slot_ne (Or.inr (hw _ (List.mem_of_getElem? (i := 235) rfl))) (Or.inr (hw _ (List.mem_of_getElem? (i := 220) rfl))) (by decide) (t := (.array .int)) (t' := (.object "com/example/fixpoint_checker/fixpointchecker/bdd/DecisionDiagrams")) (by decide) (by decide)))
      have F_laterQuantifiers_o_10 := F_laterQuantifiers_o_9.other W10 (Or.inr (slot_ne (Or.inr (hw _ (List.mem_of_getElem? (i := 237) rfl))) (Or.inr (hw _ (List.mem_of_getElem? (i := 220) rfl))) (by decide) (t := (.array .int)) (t' := (.object "com/example/fixpoint_checker/fixpointchecker/bdd/DecisionDiagrams")) (by decide) (by decide)))
      have F_firstBitQuantifiers_o_10 := F_firstBitQuantifiers_o_9.other W10 (Or.inr (slot_ne (Or.inr (hw _ (List.mem_of_getElem? (i := 239) rfl))) (Or.inr (hw _ (List.mem_of_getElem? (i := 220) rfl))) (by decide) (t := (.array .int)) (t' := (.object "com/example/fixpoint_checker/fixpointchecker/bdd/DecisionDiagrams")) (by decide) (by decide)))
      have F_stateCodes_o_10 := F_stateCodes_o_9.other W10 (Or.inr (slot_ne (Or.inr (hw _ (List.mem_of_getElem? (i := 241) rfl))) (Or.inr (hw _ (List.mem_of_getElem? (i := 220) rfl))) (by decide) (t := (.array .int)) (t' := (.object "com/example/fixpoint_checker/fixpointchecker/bdd/DecisionDiagrams")) (by decide) (by decide)))
      have HOld_10 := HOld_9.wr W10 g_o
      have F_diagrams_o_10 := F_diagrams_o_9.same W10
      have K10 := KK9.wr W10 (Or.inl (by simp))
      have N10 := Fr.snoc X10 N9 g_o
      have Z10 := Nat.le_trans Z9 (Keep.of_wr W10).1
      refine OFin.to (T10.setTop (mkF m 125 #[.val (.ref o), .val (.int sc), .val (.int (1 : Int32)), .val (.int (0 : Int32)), .val (.int (Int32.ofNat i)), .val (.long (Int64.ofNat (2 * i))), .second, .unset] [])) st10 ?_
      refine OFin.to (T10.setTop (mkF m 126 #[.val (.ref o), .val (.int sc), .val (.int (1 : Int32)), .val (.int (0 : Int32)), .val (.int (Int32.ofNat i)), .val (.long (Int64.ofNat (2 * i))), .second, .unset] [(.ref o)])) (fun _ kt => XS.aloadN X10.here hx rfl (hb hby d2_125) rfl rfl kt) ?_
      refine OFin.to (T10.setTop (mkF m 128 #[.val (.ref o), .val (.int sc), .val (.int (1 : Int32)), .val (.int (0 : Int32)), .val (.int (Int32.ofNat i)), .val (.long (Int64.ofNat (2 * i))), .second, .unset] [(.long (Int64.ofNat (2 * i))), (.ref o)])) (fun _ kt => XS.lload X10.here hx rfl (hb hby d2_126) rfl kt) ?_
      refine OFin.to (T10.setTop (mkF m 129 #[.val (.ref o), .val (.int sc), .val (.int (1 : Int32)), .val (.int (0 : Int32)), .val (.int (Int32.ofNat i)), .val (.long (Int64.ofNat (2 * i))), .second, .unset] [(.int ((Int64.ofNat (2 * i)).toInt32)), (.ref o)])) (fun _ kt => XS.l2i X10.here hx rfl (hb hby d2_128) rfl kt) ?_
      rw [own_lci i hN]
      obtain ⟨T11, h11, X11, e11, E11, V11, st11⟩ := own_newP X10 hx hZ (hw _ (List.mem_of_getElem? (i := 221) rfl)) e10 (g := (mkF m 129 #[.val (.ref o), .val (.int sc), .val (.int (1 : Int32)), .val (.int (0 : Int32)), .val (.int (Int32.ofNat i)), .val (.long (Int64.ofNat (2 * i))), .second, .unset] [(.int (Int32.ofNat (2 * i))), (.ref o)])) rfl (hb hby d2_129) rfl (own_ix (2 * i) (by omega)).1 (2 * i) (own_ix (2 * i) (by omega)).2 (cap := 62) (by omega) (by decide) (by decide) (by decide)
      obtain ⟨b11, g11⟩ : ∃ z, z = h10.size := ⟨_, rfl⟩
      rw [← g11] at V11 st11
      rw [own_rep] at V11
      have g_b11 : n0 ≤ b11 := by rw [g11]; exact Z10
      have ne_o_b11 : o ≠ b11 := by rw [g11]; exact Nat.ne_of_lt E_o_10.lt
      have sz_b11 : h0.size ≤ b11 := by rw [g11]; exact K10.1
      have E_o_11 := E_o_10.ext E11
      have F_bitCount_o_11 := F_bitCount_o_10.ext E11
      have F_unprimedLevels_o_11 := F_unprimedLevels_o_10.ext E11
      have F_primings_o_11 := F_primings_o_10.ext E11
      have F_unprimings_o_11 := F_unprimings_o_10.ext E11
      have F_primedQuantifiers_o_11 := F_primedQuantifiers_o_10.ext E11
      have F_stateQuantifiers_o_11 := F_stateQuantifiers_o_10.ext E11
      have F_laterQuantifiers_o_11 := F_laterQuantifiers_o_10.ext E11
      have F_firstBitQuantifiers_o_11 := F_firstBitQuantifiers_o_10.ext E11
      have F_stateCodes_o_11 := F_stateCodes_o_10.ext E11
      have Z11 := Nat.le_trans Z10 E11.1
      have K11 := K10.ext E11
      have Vu : OFn Z h11 b11 .boolean (2 * i) _ := V11
      refine OFin.to (T11.setTop (mkF m 131 #[.val (.ref o), .val (.int sc), .val (.int (1 : Int32)), .val (.int (0 : Int32)), .val (.int (Int32.ofNat i)), .val (.long (Int64.ofNat (2 * i))), .second, .unset] [(.ref b11), (.ref o)])) st11 ?_
      obtain ⟨T12, h12, X12, e12, W12, st12⟩ := putF X11 hx hZ hown (host := "") (Or.inl (hw _ (List.mem_of_getElem? (i := 222) rfl))) Via.refl e11 F_unprimedLevels_o_11 E_o_11 (Or.inr ⟨(hw _ (List.mem_of_getElem? (i := 223) rfl)), rfl, hnm⟩) (hw _ (List.mem_of_getElem? (i := 6) rfl)) (ty := (.array .boolean)) (by decide) rfl rfl (g := (mkF m 131 #[.val (.ref o), .val (.int sc), .val (.int (1 : Int32)), .val (.int (0 : Int32)), .val (.int (Int32.ofNat i)), .val (.long (Int64.ofNat (2 * i))), .second, .unset] [(.ref b11), (.ref o)])) rfl rfl (hb hby d2_131)
      have E_o_12 := E_o_11.wr W12
      have F_bitCount_o_12 := F_bitCount_o_11.other W12 (Or.inr (slot_ne (Or.inr (hw _ (List.mem_of_getElem? (i := 39) rfl))) (Or.inr (hw _ (List.mem_of_getElem? (i := 223) rfl))) (by decide) (t := .int) (t' := (.array .boolean)) (by decide) (by decide)))
      have F_primings_o_12 := F_primings_o_11.other W12 (Or.inr (slot_ne (Or.inr (hw _ (List.mem_of_getElem? (i := 229) rfl))) (Or.inr (hw _ (List.mem_of_getElem? (i := 223) rfl))) (by decide) (t := (.array .int)) (t' := (.array .boolean)) (by decide) (by decide)))
      have F_unprimings_o_12 := F_unprimings_o_11.other W12 (Or.inr (slot_ne (Or.inr (hw _ (List.mem_of_getElem? (i := 231) rfl))) (Or.inr (hw _ (List.mem_of_getElem? (i := 223) rfl))) (by decide) (t := (.array .int)) (t' := (.array .boolean)) (by decide) (by decide)))
      have F_primedQuantifiers_o_12 := F_primedQuantifiers_o_11.other W12 (Or.inr (slot_ne (Or.inr (hw _ (List.mem_of_getElem? (i := 233) rfl))) (Or.inr (hw _ (List.mem_of_getElem? (i := 223) rfl))) (by decide) (t := (.array .int)) (t' := (.array .boolean)) (by decide) (by decide)))
      have F_stateQuantifiers_o_12 := F_stateQuantifiers_o_11.other W12 (Or.inr (slot_ne (Or.inr (hw _ (List.mem_of_getElem? (i := 235) rfl))) (Or.inr (hw _ (List.mem_of_getElem? (i := 223) rfl))) (by decide) (t := (.array .int)) (t' := (.array .boolean)) (by decide) (by decide)))
      have F_laterQuantifiers_o_12 := F_laterQuantifiers_o_11.other W12 (Or.inr (slot_ne (Or.inr (hw _ (List.mem_of_getElem? (i := 237) rfl))) (Or.inr (hw _ (List.mem_of_getElem? (i := 223) rfl))) (by decide) (t := (.array .int)) (t' := (.array .boolean)) (by decide) (by decide)))
      have F_firstBitQuantifiers_o_12 := F_firstBitQuantifiers_o_11.other W12 (Or.inr (slot_ne (Or.inr (hw _ (List.mem_of_getElem? (i := 239) rfl))) (Or.inr (hw _ (List.mem_of_getElem? (i := 223) rfl))) (by decide) (t := (.array .int)) (t' := (.array .boolean)) (by decide) (by decide)))
      have F_stateCodes_o_12 := F_stateCodes_o_11.other W12 (Or.inr (slot_ne (Or.inr (hw _ (List.mem_of_getElem? (i := 241) rfl))) (Or.inr (hw _ (List.mem_of_getElem? (i := 223) rfl))) (by decide) (t := (.array .int)) (t' := (.array .boolean)) (by decide) (by decide)))
      have Vu_12 := Vu.other W12 (Ne.symm ne_o_b11)
      have F_unprimedLevels_o_12 := F_unprimedLevels_o_11.same W12
      have K12 := K11.wr W12 (Or.inl (by simp))
      have N12 := Fr.snoc X12 N10 g_o
      have Z12 := Nat.le_trans Z11 (Keep.of_wr W12).1
      refine OFin.to (T12.setTop (mkF m 134 #[.val (.ref o), .val (.int sc), .val (.int (1 : Int32)), .val (.int (0 : Int32)), .val (.int (Int32.ofNat i)), .val (.long (Int64.ofNat (2 * i))), .second, .unset] [])) st12 ?_
      refine OFin.to (T12.setTop (mkF m 135 #[.val (.ref o), .val (.int sc), .val (.int (1 : Int32)), .val (.int (0 : Int32)), .val (.int (Int32.ofNat i)), .val (.long (Int64.ofNat (2 * i))), .second, .unset] [(.int (0 : Int32))])) (fun _ kt => XS.iconst X12.here hx rfl (hb hby d2_134) kt) ?_
      refine OFin.to (T12.setTop (mkF m 137 #[.val (.ref o), .val (.int sc), .val (.int (1 : Int32)), .val (.int (0 : Int32)), .val (.int (Int32.ofNat i)), .val (.long (Int64.ofNat (2 * i))), .second, .val (.int (0 : Int32))] [])) (fun _ kt => XS.istore X12.here hx rfl (hb hby d2_135) rfl (l' := #[.val (.ref o), .val (.int sc), .val (.int (1 : Int32)), .val (.int (0 : Int32)), .val (.int (Int32.ofNat i)), .val (.long (Int64.ofNat (2 * i))), .second, .val (.int (0 : Int32))]) rfl kt) ?_
      have LQ : ∀ (r j : Nat) (T2 : State) (h2 : Heap) (L2 : List Loc) (g2 : Nat → Value), j + r = i → Stand p l e ({ frames := 5, cells := 41, slots := 20375, locals := 72 } : Room) s m #[(.ref o), (.int sc), (.int (1 : Int32)), (.int (0 : Int32))] below meth c T2 L2 34 20368 → T2.heap = h2 → OFn Z h2 b11 .boolean (2 * i) g2 → Keep h12 h2 [b11] → Fr n0 L2 → OFin p e below s ({ frames := 5, cells := 41, slots := 20375, locals := 72 } : Room).cells ({ frames := 5, cells := 41, slots := 20375, locals := 72 } : Room).slots (fun v h L => v = none ∧ Keep h0 h [o] ∧ Fr n0 L ∧ ∃ N : Nat, N ≤ 31 ∧ sc.toInt ≤ ((2 ^ N : Nat) : Int) ∧ (∀ b : Nat, b < N → ((2 ^ b : Nat) : Int) < sc.toInt) ∧ Exa Z h o "com/example/fixpoint_checker/fixpointchecker/symbolic/StateEncoding" ∧ Fld Z h o "com/example/fixpoint_checker/fixpointchecker/symbolic/StateEncoding" "bitCount" "I" (.int (Int32.ofNat N))) (T2.setTop (mkF m 137 #[.val (.ref o), .val (.int sc), .val (.int (1 : Int32)), .val (.int (0 : Int32)), .val (.int (Int32.ofNat i)), .val (.long (Int64.ofNat (2 * i))), .second, .val (.int (Int32.ofNat (2 * j)))] [])) := by
        intro r
        induction r with
        | succ r ih =>
          intro j T2 h2 L2 g2 hj X2 eT2 V2 K2 N2
          have F2 := F_unprimedLevels_o_12.keep K2 (ninS ne_o_b11 nin0)
          refine OFin.to (T2.setTop (mkF m 139 #[.val (.ref o), .val (.int sc), .val (.int (1 : Int32)), .val (.int (0 : Int32)), .val (.int (Int32.ofNat i)), .val (.long (Int64.ofNat (2 * i))), .second, .val (.int (Int32.ofNat (2 * j)))] [(.int (Int32.ofNat (2 * j)))])) (fun _ kt => XS.iload X2.here hx rfl (hb hby d2_137) rfl kt) ?_
          refine OFin.to (T2.setTop (mkF m 140 #[.val (.ref o), .val (.int sc), .val (.int (1 : Int32)), .val (.int (0 : Int32)), .val (.int (Int32.ofNat i)), .val (.long (Int64.ofNat (2 * i))), .second, .val (.int (Int32.ofNat (2 * j)))] [(.long ((Int32.ofNat (2 * j)).toInt64))])) (fun _ kt => XS.i2l X2.here hx rfl (hb hby d2_139) rfl kt) ?_
          refine OFin.to (T2.setTop (mkF m 142 #[.val (.ref o), .val (.int sc), .val (.int (1 : Int32)), .val (.int (0 : Int32)), .val (.int (Int32.ofNat i)), .val (.long (Int64.ofNat (2 * i))), .second, .val (.int (Int32.ofNat (2 * j)))] [(.long (Int64.ofNat (2 * i))), (.long ((Int32.ofNat (2 * j)).toInt64))])) (fun _ kt => XS.lload X2.here hx rfl (hb hby d2_140) rfl kt) ?_
          refine OFin.to (T2.setTop (mkF m 143 #[.val (.ref o), .val (.int sc), .val (.int (1 : Int32)), .val (.int (0 : Int32)), .val (.int (Int32.ofNat i)), .val (.long (Int64.ofNat (2 * i))), .second, .val (.int (Int32.ofNat (2 * j)))] [(.int (XT.cmpL ((Int32.ofNat (2 * j)).toInt64) (Int64.ofNat (2 * i))))])) (fun _ kt => XT.lcmp X2.here hx rfl (hb hby d2_142) rfl kt) ?_
          refine OFin.to (T2.setTop (mkF m 146 #[.val (.ref o), .val (.int sc), .val (.int (1 : Int32)), .val (.int (0 : Int32)), .val (.int (Int32.ofNat i)), .val (.long (Int64.ofNat (2 * i))), .second, .val (.int (Int32.ofNat (2 * j)))] [])) (fun _ kt => XS.ifNo X2.here hx rfl (hb hby d2_143) rfl (XT.ll_ge_f (own_lvlt i j (by omega) (by omega))) kt) ?_
          refine OFin.to (T2.setTop (mkF m 147 #[.val (.ref o), .val (.int sc), .val (.int (1 : Int32)), .val (.int (0 : Int32)), .val (.int (Int32.ofNat i)), .val (.long (Int64.ofNat (2 * i))), .second, .val (.int (Int32.ofNat (2 * j)))] [(.ref o)])) (fun _ kt => XS.aloadN X2.here hx rfl (hb hby d2_146) rfl rfl kt) ?_
          obtain ⟨T13, X13, e13, st13⟩ := getF X2 hx hZ hown (host := "") (Or.inl (hw _ (List.mem_of_getElem? (i := 222) rfl))) Via.refl eT2 F2 (g := (mkF m 147 #[.val (.ref o), .val (.int sc), .val (.int (1 : Int32)), .val (.int (0 : Int32)), .val (.int (Int32.ofNat i)), .val (.long (Int64.ofNat (2 * i))), .second, .val (.int (Int32.ofNat (2 * j)))] [(.ref o)])) rfl rfl (hb hby d2_147)
          refine OFin.to (T13.setTop (mkF m 150 #[.val (.ref o), .val (.int sc), .val (.int (1 : Int32)), .val (.int (0 : Int32)), .val (.int (Int32.ofNat i)), .val (.long (Int64.ofNat (2 * i))), .second, .val (.int (Int32.ofNat (2 * j)))] [(.ref b11)])) st13 ?_
          refine OFin.to (T13.setTop (mkF m 152 #[.val (.ref o), .val (.int sc), .val (.int (1 : Int32)), .val (.int (0 : Int32)), .val (.int (Int32.ofNat i)), .val (.long (Int64.ofNat (2 * i))), .second, .val (.int (Int32.ofNat (2 * j)))] [(.int (Int32.ofNat (2 * j))), (.ref b11)])) (fun _ kt => XS.iload X13.here hx rfl (hb hby d2_150) rfl kt) ?_
          refine OFin.to (T13.setTop (mkF m 153 #[.val (.ref o), .val (.int sc), .val (.int (1 : Int32)), .val (.int (0 : Int32)), .val (.int (Int32.ofNat i)), .val (.long (Int64.ofNat (2 * i))), .second, .val (.int (Int32.ofNat (2 * j)))] [(.int (1 : Int32)), (.int (Int32.ofNat (2 * j))), (.ref b11)])) (fun _ kt => XS.iconst X13.here hx rfl (hb hby d2_152) kt) ?_
          obtain ⟨T9, h9, X9, e9, W9, -, st9⟩ := own_stZ X13 hx hZ e13 V2 (2 * j) (own_ix (2 * j) (by omega)).1 (own_ix (2 * j) (by omega)).2 (by rw [own_rlen]; omega) (g := (mkF m 153 #[.val (.ref o), .val (.int sc), .val (.int (1 : Int32)), .val (.int (0 : Int32)), .val (.int (Int32.ofNat i)), .val (.long (Int64.ofNat (2 * i))), .second, .val (.int (Int32.ofNat (2 * j)))] [(.int (1 : Int32)), (.int (Int32.ofNat (2 * j))), (.ref b11)])) rfl rfl (hb hby d2_153)
          refine OFin.to (T9.setTop (mkF m 154 #[.val (.ref o), .val (.int sc), .val (.int (1 : Int32)), .val (.int (0 : Int32)), .val (.int (Int32.ofNat i)), .val (.long (Int64.ofNat (2 * i))), .second, .val (.int (Int32.ofNat (2 * j)))] [])) st9 ?_
          refine OFin.to (T9.setTop (mkF m 157 #[.val (.ref o), .val (.int sc), .val (.int (1 : Int32)), .val (.int (0 : Int32)), .val (.int (Int32.ofNat i)), .val (.long (Int64.ofNat (2 * i))), .second, .val (.int ((Int32.ofNat (2 * j)) + (2 : Int32)))] [])) (fun _ kt => XS.iinc X9.here hx rfl (hb hby d2_154) rfl (l' := #[.val (.ref o), .val (.int sc), .val (.int (1 : Int32)), .val (.int (0 : Int32)), .val (.int (Int32.ofNat i)), .val (.long (Int64.ofNat (2 * i))), .second, .val (.int ((Int32.ofNat (2 * j)) + (2 : Int32)))]) rfl kt) ?_
          refine OFin.to (T9.setTop (mkF m 137 #[.val (.ref o), .val (.int sc), .val (.int (1 : Int32)), .val (.int (0 : Int32)), .val (.int (Int32.ofNat i)), .val (.long (Int64.ofNat (2 * i))), .second, .val (.int ((Int32.ofNat (2 * j)) + (2 : Int32)))] [])) (fun _ kt => XS.goto X9.here hx rfl (pc0 := 157) (pc' := 137) rfl (hb hby d2_157) (by decide) (by decide) kt) ?_
          rw [show Int32.ofNat (2 * j) + (2 : Int32) = Int32.ofNat (2 * (j + 1)) from own_ofAdd (2 * j) 2]
          exact ih (j + 1) T9 h9 _ _ (by omega) X9 e9 (OFn.set V2 W9) (K2.wr W9 (Or.inl (by simp))) (Fr.snoc X9 N2 g_b11)
        | zero =>
          intro j T2 h2 L2 g2 hj X2 eT2 V2 K2 N2
          obtain rfl : j = i := by omega
          refine OFin.to (T2.setTop (mkF m 139 #[.val (.ref o), .val (.int sc), .val (.int (1 : Int32)), .val (.int (0 : Int32)), .val (.int (Int32.ofNat j)), .val (.long (Int64.ofNat (2 * j))), .second, .val (.int (Int32.ofNat (2 * j)))] [(.int (Int32.ofNat (2 * j)))])) (fun _ kt => XS.iload X2.here hx rfl (hb hby d2_137) rfl kt) ?_
          refine OFin.to (T2.setTop (mkF m 140 #[.val (.ref o), .val (.int sc), .val (.int (1 : Int32)), .val (.int (0 : Int32)), .val (.int (Int32.ofNat j)), .val (.long (Int64.ofNat (2 * j))), .second, .val (.int (Int32.ofNat (2 * j)))] [(.long ((Int32.ofNat (2 * j)).toInt64))])) (fun _ kt => XS.i2l X2.here hx rfl (hb hby d2_139) rfl kt) ?_
          refine OFin.to (T2.setTop (mkF m 142 #[.val (.ref o), .val (.int sc), .val (.int (1 : Int32)), .val (.int (0 : Int32)), .val (.int (Int32.ofNat j)), .val (.long (Int64.ofNat (2 * j))), .second, .val (.int (Int32.ofNat (2 * j)))] [(.long (Int64.ofNat (2 * j))), (.long ((Int32.ofNat (2 * j)).toInt64))])) (fun _ kt => XS.lload X2.here hx rfl (hb hby d2_140) rfl kt) ?_
          refine OFin.to (T2.setTop (mkF m 143 #[.val (.ref o), .val (.int sc), .val (.int (1 : Int32)), .val (.int (0 : Int32)), .val (.int (Int32.ofNat j)), .val (.long (Int64.ofNat (2 * j))), .second, .val (.int (Int32.ofNat (2 * j)))] [(.int (XT.cmpL ((Int32.ofNat (2 * j)).toInt64) (Int64.ofNat (2 * j))))])) (fun _ kt => XT.lcmp X2.here hx rfl (hb hby d2_142) rfl kt) ?_
          refine OFin.to (T2.setTop (mkF m 160 #[.val (.ref o), .val (.int sc), .val (.int (1 : Int32)), .val (.int (0 : Int32)), .val (.int (Int32.ofNat j)), .val (.long (Int64.ofNat (2 * j))), .second, .val (.int (Int32.ofNat (2 * j)))] [])) (fun _ kt => XS.ifYes X2.here hx rfl (pc0 := 143) (pc' := 160) rfl (hb hby d2_143) rfl (XT.ll_ge_t (own_lvge j hN)) (by decide) (by decide) kt) ?_
          have E_o_L := E_o_12.keep K2
          have F_bitCount_o_L := F_bitCount_o_12.keep K2 (ninS ne_o_b11 nin0)
          have F_unprimedLevels_o_L := F_unprimedLevels_o_12.keep K2 (ninS ne_o_b11 nin0)
          have F_primings_o_L := F_primings_o_12.keep K2 (ninS ne_o_b11 nin0)
          have F_unprimings_o_L := F_unprimings_o_12.keep K2 (ninS ne_o_b11 nin0)
          have F_primedQuantifiers_o_L := F_primedQuantifiers_o_12.keep K2 (ninS ne_o_b11 nin0)
          have F_stateQuantifiers_o_L := F_stateQuantifiers_o_12.keep K2 (ninS ne_o_b11 nin0)
          have F_laterQuantifiers_o_L := F_laterQuantifiers_o_12.keep K2 (ninS ne_o_b11 nin0)
          have F_firstBitQuantifiers_o_L := F_firstBitQuantifiers_o_12.keep K2 (ninS ne_o_b11 nin0)
          have F_stateCodes_o_L := F_stateCodes_o_12.keep K2 (ninS ne_o_b11 nin0)
          have KL := K12.trans K2 (fun x hx' => by cases List.mem_singleton.mp hx'; exact Or.inr sz_b11)
          have ZL := Nat.le_trans Z12 K2.1
          refine OFin.to (T2.setTop (mkF m 161 #[.val (.ref o), .val (.int sc), .val (.int (1 : Int32)), .val (.int (0 : Int32)), .val (.int (Int32.ofNat j)), .val (.long (Int64.ofNat (2 * j))), .second, .val (.int (Int32.ofNat (2 * j)))] [(.ref o)])) (fun _ kt => XS.aloadN X2.here hx rfl (hb hby d2_160) rfl rfl kt) ?_
          refine OFin.to (T2.setTop (mkF m 162 #[.val (.ref o), .val (.int sc), .val (.int (1 : Int32)), .val (.int (0 : Int32)), .val (.int (Int32.ofNat j)), .val (.long (Int64.ofNat (2 * j))), .second, .val (.int (Int32.ofNat (2 * j)))] [(.int (1 : Int32)), (.ref o)])) (fun _ kt => XS.iloadN X2.here hx rfl (hb hby d2_161) rfl kt) ?_
          obtain ⟨v14, T14, L14, hQ14, X14, st14⟩ := own_callS X2 hx hZ hown (hw _ (List.mem_of_getElem? (i := 224) rfl)) (hw _ (List.mem_of_getElem? (i := 225) rfl)) (hw _ (List.mem_of_getElem? (i := 7) rfl)) (hw _ (List.mem_of_getElem? (i := 226) rfl)) (by decide) eT2 (rm25 l Z a0 hw []  h2 n0 ZL ) 1 (by decide) (by decide) (by decide) (by decide) (g := (mkF m 162 #[.val (.ref o), .val (.int sc), .val (.int (1 : Int32)), .val (.int (0 : Int32)), .val (.int (Int32.ofNat j)), .val (.long (Int64.ofNat (2 * j))), .second, .val (.int (Int32.ofNat (2 * j)))] [(.int (1 : Int32)), (.ref o)])) rfl (by rw [hml]; rfl) (rest := [(.ref o)]) (lenOf pd_10 rfl) rfl (by show 2 * 0 + _ ≤ _; exact Nat.le_of_eq rfl) (hb hby d2_162)
          obtain ⟨bq14, rfl, Kq14, Nq14⟩ := hQ14
          refine OFin.to (T14.setTop (mkF m 165 #[.val (.ref o), .val (.int sc), .val (.int (1 : Int32)), .val (.int (0 : Int32)), .val (.int (Int32.ofNat j)), .val (.long (Int64.ofNat (2 * j))), .second, .val (.int (Int32.ofNat (2 * j)))] [(.ref bq14), (.ref o)])) st14 ?_
          have N14 := Fr.app N2 Nq14
          have Z14 := Nat.le_trans ZL Kq14.1
          have E_o_14 := E_o_L.keep Kq14
          have F_bitCount_o_14 := F_bitCount_o_L.keep Kq14 nin0
          have F_unprimedLevels_o_14 := F_unprimedLevels_o_L.keep Kq14 nin0
          have F_primings_o_14 := F_primings_o_L.keep Kq14 nin0
          have F_unprimings_o_14 := F_unprimings_o_L.keep Kq14 nin0
          have F_primedQuantifiers_o_14 := F_primedQuantifiers_o_L.keep Kq14 nin0
          have F_stateQuantifiers_o_14 := F_stateQuantifiers_o_L.keep Kq14 nin0
          have F_laterQuantifiers_o_14 := F_laterQuantifiers_o_L.keep Kq14 nin0
          have F_firstBitQuantifiers_o_14 := F_firstBitQuantifiers_o_L.keep Kq14 nin0
          have F_stateCodes_o_14 := F_stateCodes_o_L.keep Kq14 nin0
          have KK14 := KL.trans Kq14 (fun x hx' => absurd hx' nin0)
          obtain ⟨T15, h15, X15, e15, W15, st15⟩ := putF X14 hx hZ hown (host := "") (Or.inl (hw _ (List.mem_of_getElem? (i := 228) rfl))) Via.refl rfl F_primings_o_14 E_o_14 (Or.inr ⟨(hw _ (List.mem_of_getElem? (i := 229) rfl)), rfl, hnm⟩) (hw _ (List.mem_of_getElem? (i := 6) rfl)) (ty := (.array .int)) (by decide) rfl rfl (g := (mkF m 165 #[.val (.ref o), .val (.int sc), .val (.int (1 : Int32)), .val (.int (0 : Int32)), .val (.int (Int32.ofNat j)), .val (.long (Int64.ofNat (2 * j))), .second, .val (.int (Int32.ofNat (2 * j)))] [(.ref bq14), (.ref o)])) rfl rfl (hb hby d2_165)
          have E_o_15 := E_o_14.wr W15
          have F_bitCount_o_15 := F_bitCount_o_14.other W15 (Or.inr (slot_ne (Or.inr (hw _ (List.mem_of_getElem? (i := 39) rfl))) (Or.inr (hw _ (List.mem_of_getElem? (i := 229) rfl))) (by decide) (t := .int) (t' := (.array .int)) (by decide) (by decide)))
          have F_unprimedLevels_o_15 := F_unprimedLevels_o_14.other W15 (Or.inr (slot_ne (Or.inr (hw _ (List.mem_of_getElem? (i := 223) rfl))) (Or.inr (hw _ (List.mem_of_getElem? (i := 229) rfl))) (by decide) (t := (.array .boolean)) (t' := (.array .int)) (by decide) (by decide)))
          have F_unprimings_o_15 := F_unprimings_o_14.other W15 (Or.inr (slot_ne (Or.inr (hw _ (List.mem_of_getElem? (i := 231) rfl))) (Or.inr (hw _ (List.mem_of_getElem? (i := 229) rfl))) (by decide) (t := (.array .int)) (t' := (.array .int)) (by decide) (by decide)))
          have F_primedQuantifiers_o_15 := F_primedQuantifiers_o_14.other W15 (Or.inr (slot_ne (Or.inr (hw _ (List.mem_of_getElem? (i := 233) rfl))) (Or.inr (hw _ (List.mem_of_getElem? (i := 229) rfl))) (by decide) (t := (.array .int)) (t' := (.array .int)) (by decide) (by decide)))
          have F_stateQuantifiers_o_15 := F_stateQuantifiers_o_14.other W15 (Or.inr (slot_ne (Or.inr (hw _ (List.mem_of_getElem? (i := 235) rfl))) (Or.inr (hw _ (List.mem_of_getElem? (i := 229) rfl))) (by decide) (t := (.array .int)) (t' := (.array .int)) (by decide) (by decide)))
          have F_laterQuantifiers_o_15 := F_laterQuantifiers_o_14.other W15 (Or.inr (slot_ne (Or.inr (hw _ (List.mem_of_getElem? (i := 237) rfl))) (Or.inr (hw _ (List.mem_of_getElem? (i := 229) rfl))) (by decide) (t := (.array .int)) (t' := (.array .int)) (by decide) (by decide)))
          have F_firstBitQuantifiers_o_15 := F_firstBitQuantifiers_o_14.other W15 (Or.inr (slot_ne (Or.inr (hw _ (List.mem_of_getElem? (i := 239) rfl))) (Or.inr (hw _ (List.mem_of_getElem? (i := 229) rfl))) (by decide) (t := (.array .int)) (t' := (.array .int)) (by decide) (by decide)))
          have F_stateCodes_o_15 := F_stateCodes_o_14.other W15 (Or.inr (slot_ne (Or.inr (hw _ (List.mem_of_getElem? (i := 241) rfl))) (Or.inr (hw _ (List.mem_of_getElem? (i := 229) rfl))) (by decide) (t := (.array .int)) (t' := (.array .int)) (by decide) (by decide)))
          have F_primings_o_15 := F_primings_o_14.same W15
          have K15 := KK14.wr W15 (Or.inl (by simp))
          have N15 := Fr.snoc X15 N14 g_o
          have Z15 := Nat.le_trans Z14 (Keep.of_wr W15).1
          refine OFin.to (T15.setTop (mkF m 168 #[.val (.ref o), .val (.int sc), .val (.int (1 : Int32)), .val (.int (0 : Int32)), .val (.int (Int32.ofNat j)), .val (.long (Int64.ofNat (2 * j))), .second, .val (.int (Int32.ofNat (2 * j)))] [])) st15 ?_
          refine OFin.to (T15.setTop (mkF m 169 #[.val (.ref o), .val (.int sc), .val (.int (1 : Int32)), .val (.int (0 : Int32)), .val (.int (Int32.ofNat j)), .val (.long (Int64.ofNat (2 * j))), .second, .val (.int (Int32.ofNat (2 * j)))] [(.ref o)])) (fun _ kt => XS.aloadN X15.here hx rfl (hb hby d2_168) rfl rfl kt) ?_
          refine OFin.to (T15.setTop (mkF m 170 #[.val (.ref o), .val (.int sc), .val (.int (1 : Int32)), .val (.int (0 : Int32)), .val (.int (Int32.ofNat j)), .val (.long (Int64.ofNat (2 * j))), .second, .val (.int (Int32.ofNat (2 * j)))] [(.int (1 : Int32)), (.ref o)])) (fun _ kt => XS.iloadN X15.here hx rfl (hb hby d2_169) rfl kt) ?_
          obtain ⟨v16, T16, L16, hQ16, X16, st16⟩ := own_callS X15 hx hZ hown (hw _ (List.mem_of_getElem? (i := 224) rfl)) (hw _ (List.mem_of_getElem? (i := 225) rfl)) (hw _ (List.mem_of_getElem? (i := 7) rfl)) (hw _ (List.mem_of_getElem? (i := 226) rfl)) (by decide) e15 (rm25 l Z a0 hw []  h15 n0 Z15 ) 1 (by decide) (by decide) (by decide) (by decide) (g := (mkF m 170 #[.val (.ref o), .val (.int sc), .val (.int (1 : Int32)), .val (.int (0 : Int32)), .val (.int (Int32.ofNat j)), .val (.long (Int64.ofNat (2 * j))), .second, .val (.int (Int32.ofNat (2 * j)))] [(.int (1 : Int32)), (.ref o)])) rfl (by rw [hml]; rfl) (rest := [(.ref o)]) (lenOf pd_10 rfl) rfl (by show 2 * 0 + _ ≤ _; exact Nat.le_of_eq rfl) (hb hby d2_170)
          obtain ⟨bq16, rfl, Kq16, Nq16⟩ := hQ16
          refine OFin.to (T16.setTop (mkF m 173 #[.val (.ref o), .val (.int sc), .val (.int (1 : Int32)), .val (.int (0 : Int32)), .val (.int (Int32.ofNat j)), .val (.long (Int64.ofNat (2 * j))), .second, .val (.int (Int32.ofNat (2 * j)))] [(.ref bq16), (.ref o)])) st16 ?_
          have N16 := Fr.app N15 Nq16
          have Z16 := Nat.le_trans Z15 Kq16.1
          have E_o_16 := E_o_15.keep Kq16
          have F_bitCount_o_16 := F_bitCount_o_15.keep Kq16 nin0
          have F_unprimedLevels_o_16 := F_unprimedLevels_o_15.keep Kq16 nin0
          have F_unprimings_o_16 := F_unprimings_o_15.keep Kq16 nin0
          have F_primedQuantifiers_o_16 := F_primedQuantifiers_o_15.keep Kq16 nin0
          have F_stateQuantifiers_o_16 := F_stateQuantifiers_o_15.keep Kq16 nin0
          have F_laterQuantifiers_o_16 := F_laterQuantifiers_o_15.keep Kq16 nin0
          have F_firstBitQuantifiers_o_16 := F_firstBitQuantifiers_o_15.keep Kq16 nin0
          have F_stateCodes_o_16 := F_stateCodes_o_15.keep Kq16 nin0
          have KK16 := K15.trans Kq16 (fun x hx' => absurd hx' nin0)
          obtain ⟨T17, h17, X17, e17, W17, st17⟩ := putF X16 hx hZ hown (host := "") (Or.inl (hw _ (List.mem_of_getElem? (i := 230) rfl))) Via.refl rfl F_unprimings_o_16 E_o_16 (Or.inr ⟨(hw _ (List.mem_of_getElem? (i := 231) rfl)), rfl, hnm⟩) (hw _ (List.mem_of_getElem? (i := 6) rfl)) (ty := (.array .int)) (by decide) rfl rfl (g := (mkF m 173 #[.val (.ref o), .val (.int sc), .val (.int (1 : Int32)), .val (.int (0 : Int32)), .val (.int (Int32.ofNat j)), .val (.long (Int64.ofNat (2 * j))), .second, .val (.int (Int32.ofNat (2 * j)))] [(.ref bq16), (.ref o)])) rfl rfl (hb hby d2_173)
          have E_o_17 := E_o_16.wr W17
          have F_bitCount_o_17 := F_bitCount_o_16.other W17 (Or.inr (slot_ne (Or.inr (hw _ (List.mem_of_getElem? (i := 39) rfl))) (Or.inr (hw _ (List.mem_of_getElem? (i := 231) rfl))) (by decide) (t := .int) (t' := (.array .int)) (by decide) (by decide)))
          have F_unprimedLevels_o_17 := F_unprimedLevels_o_16.other W17 (Or.inr (slot_ne (Or.inr (hw _ (List.mem_of_getElem? (i := 223) rfl))) (Or.inr (hw _ (List.mem_of_getElem? (i := 231) rfl))) (by decide) (t := (.array .boolean)) (t' := (.array .int)) (by decide) (by decide)))
          have F_primedQuantifiers_o_17 := F_primedQuantifiers_o_16.other W17 (Or.inr (slot_ne (Or.inr (hw _ (List.mem_of_getElem? (i := 233) rfl))) (Or.inr (hw _ (List.mem_of_getElem? (i := 231) rfl))) (by decide) (t := (.array .int)) (t' := (.array .int)) (by decide) (by decide)))
          have F_stateQuantifiers_o_17 := F_stateQuantifiers_o_16.other W17 (Or.inr (slot_ne (Or.inr (hw _ (List.mem_of_getElem? (i := 235) rfl))) (Or.inr (hw _ (List.mem_of_getElem? (i := 231) rfl))) (by decide) (t := (.array .int)) (t' := (.array .int)) (by decide) (by decide)))
          have F_laterQuantifiers_o_17 := F_laterQuantifiers_o_16.other W17 (Or.inr (slot_ne (Or.inr (hw _ (List.mem_of_getElem? (i := 237) rfl))) (Or.inr (hw _ (List.mem_of_getElem? (i := 231) rfl))) (by decide) (t := (.array .int)) (t' := (.array .int)) (by decide) (by decide)))
          have F_firstBitQuantifiers_o_17 := F_firstBitQuantifiers_o_16.other W17 (Or.inr (slot_ne (Or.inr (hw _ (List.mem_of_getElem? (i := 239) rfl))) (Or.inr (hw _ (List.mem_of_getElem? (i := 231) rfl))) (by decide) (t := (.array .int)) (t' := (.array .int)) (by decide) (by decide)))
          have F_stateCodes_o_17 := F_stateCodes_o_16.other W17 (Or.inr (slot_ne (Or.inr (hw _ (List.mem_of_getElem? (i := 241) rfl))) (Or.inr (hw _ (List.mem_of_getElem? (i := 231) rfl))) (by decide) (t := (.array .int)) (t' := (.array .int)) (by decide) (by decide)))
          have F_unprimings_o_17 := F_unprimings_o_16.same W17
          have K17 := KK16.wr W17 (Or.inl (by simp))
          have N17 := Fr.snoc X17 N16 g_o
          have Z17 := Nat.le_trans Z16 (Keep.of_wr W17).1
          refine OFin.to (T17.setTop (mkF m 176 #[.val (.ref o), .val (.int sc), .val (.int (1 : Int32)), .val (.int (0 : Int32)), .val (.int (Int32.ofNat j)), .val (.long (Int64.ofNat (2 * j))), .second, .val (.int (Int32.ofNat (2 * j)))] [])) st17 ?_
          refine OFin.to (T17.setTop (mkF m 177 #[.val (.ref o), .val (.int sc), .val (.int (1 : Int32)), .val (.int (0 : Int32)), .val (.int (Int32.ofNat j)), .val (.long (Int64.ofNat (2 * j))), .second, .val (.int (Int32.ofNat (2 * j)))] [(.ref o)])) (fun _ kt => XS.aloadN X17.here hx rfl (hb hby d2_176) rfl rfl kt) ?_
          refine OFin.to (T17.setTop (mkF m 178 #[.val (.ref o), .val (.int sc), .val (.int (1 : Int32)), .val (.int (0 : Int32)), .val (.int (Int32.ofNat j)), .val (.long (Int64.ofNat (2 * j))), .second, .val (.int (Int32.ofNat (2 * j)))] [(.int (1 : Int32)), (.ref o)])) (fun _ kt => XS.iloadN X17.here hx rfl (hb hby d2_177) rfl kt) ?_
          obtain ⟨v18, T18, L18, hQ18, X18, st18⟩ := own_callS X17 hx hZ hown (hw _ (List.mem_of_getElem? (i := 224) rfl)) (hw _ (List.mem_of_getElem? (i := 225) rfl)) (hw _ (List.mem_of_getElem? (i := 7) rfl)) (hw _ (List.mem_of_getElem? (i := 226) rfl)) (by decide) e17 (rm25 l Z a0 hw []  h17 n0 Z17 ) 1 (by decide) (by decide) (by decide) (by decide) (g := (mkF m 178 #[.val (.ref o), .val (.int sc), .val (.int (1 : Int32)), .val (.int (0 : Int32)), .val (.int (Int32.ofNat j)), .val (.long (Int64.ofNat (2 * j))), .second, .val (.int (Int32.ofNat (2 * j)))] [(.int (1 : Int32)), (.ref o)])) rfl (by rw [hml]; rfl) (rest := [(.ref o)]) (lenOf pd_10 rfl) rfl (by show 2 * 0 + _ ≤ _; exact Nat.le_of_eq rfl) (hb hby d2_178)
          obtain ⟨bq18, rfl, Kq18, Nq18⟩ := hQ18
          refine OFin.to (T18.setTop (mkF m 181 #[.val (.ref o), .val (.int sc), .val (.int (1 : Int32)), .val (.int (0 : Int32)), .val (.int (Int32.ofNat j)), .val (.long (Int64.ofNat (2 * j))), .second, .val (.int (Int32.ofNat (2 * j)))] [(.ref bq18), (.ref o)])) st18 ?_
          have N18 := Fr.app N17 Nq18
          have Z18 := Nat.le_trans Z17 Kq18.1
          have E_o_18 := E_o_17.keep Kq18
          have F_bitCount_o_18 := F_bitCount_o_17.keep Kq18 nin0
          have F_unprimedLevels_o_18 := F_unprimedLevels_o_17.keep Kq18 nin0
          have F_primedQuantifiers_o_18 := F_primedQuantifiers_o_17.keep Kq18 nin0
          have F_stateQuantifiers_o_18 := F_stateQuantifiers_o_17.keep Kq18 nin0
          have F_laterQuantifiers_o_18 := F_laterQuantifiers_o_17.keep Kq18 nin0
          have F_firstBitQuantifiers_o_18 := F_firstBitQuantifiers_o_17.keep Kq18 nin0
          have F_stateCodes_o_18 := F_stateCodes_o_17.keep Kq18 nin0
          have KK18 := K17.trans Kq18 (fun x hx' => absurd hx' nin0)
          obtain ⟨T19, h19, X19, e19, W19, st19⟩ := putF X18 hx hZ hown (host := "") (Or.inl (hw _ (List.mem_of_getElem? (i := 232) rfl))) Via.refl rfl F_primedQuantifiers_o_18 E_o_18 (Or.inr ⟨(hw _ (List.mem_of_getElem? (i := 233) rfl)), rfl, hnm⟩) (hw _ (List.mem_of_getElem? (i := 6) rfl)) (ty := (.array .int)) (by decide) rfl rfl (g := (mkF m 181 #[.val (.ref o), .val (.int sc), .val (.int (1 : Int32)), .val (.int (0 : Int32)), .val (.int (Int32.ofNat j)), .val (.long (Int64.ofNat (2 * j))), .second, .val (.int (Int32.ofNat (2 * j)))] [(.ref bq18), (.ref o)])) rfl rfl (hb hby d2_181)
          have E_o_19 := E_o_18.wr W19
          have F_bitCount_o_19 := F_bitCount_o_18.other W19 (Or.inr (slot_ne (Or.inr (hw _ (List.mem_of_getElem? (i := 39) rfl))) (Or.inr (hw _ (List.mem_of_getElem? (i := 233) rfl))) (by decide) (t := .int) (t' := (.array .int)) (by decide) (by decide)))
          have F_unprimedLevels_o_19 := F_unprimedLevels_o_18.other W19 (Or.inr (slot_ne (Or.inr (hw _ (List.mem_of_getElem? (i := 223) rfl))) (Or.inr (hw _ (List.mem_of_getElem? (i := 233) rfl))) (by decide) (t := (.array .boolean)) (t' := (.array .int)) (by decide) (by decide)))
          have F_stateQuantifiers_o_19 := F_stateQuantifiers_o_18.other W19 (Or.inr (slot_ne (Or.inr (hw _ (List.mem_of_getElem? (i := 235) rfl))) (Or.inr (hw _ (List.mem_of_getElem? (i := 233) rfl))) (by decide) (t := (.array .int)) (t' := (.array .int)) (by decide) (by decide)))
          have F_laterQuantifiers_o_19 := F_laterQuantifiers_o_18.other W19 (Or.inr (slot_ne (Or.inr (hw _ (List.mem_of_getElem? (i := 237) rfl))) (Or.inr (hw _ (List.mem_of_getElem? (i := 233) rfl))) (by decide) (t := (.array .int)) (t' := (.array .int)) (by decide) (by decide)))
          have F_firstBitQuantifiers_o_19 := F_firstBitQuantifiers_o_18.other W19 (Or.inr (slot_ne (Or.inr (hw _ (List.mem_of_getElem? (i := 239) rfl))) (Or.inr (hw _ (List.mem_of_getElem? (i := 233) rfl))) (by decide) (t := (.array .int)) (t' := (.array .int)) (by decide) (by decide)))
          have F_stateCodes_o_19 := F_stateCodes_o_18.other W19 (Or.inr (slot_ne (Or.inr (hw _ (List.mem_of_getElem? (i := 241) rfl))) (Or.inr (hw _ (List.mem_of_getElem? (i := 233) rfl))) (by decide) (t := (.array .int)) (t' := (.array .int)) (by decide) (by decide)))
          have F_primedQuantifiers_o_19 := F_primedQuantifiers_o_18.same W19
          have K19 := KK18.wr W19 (Or.inl (by simp))
          have N19 := Fr.snoc X19 N18 g_o
          have Z19 := Nat.le_trans Z18 (Keep.of_wr W19).1
          refine OFin.to (T19.setTop (mkF m 184 #[.val (.ref o), .val (.int sc), .val (.int (1 : Int32)), .val (.int (0 : Int32)), .val (.int (Int32.ofNat j)), .val (.long (Int64.ofNat (2 * j))), .second, .val (.int (Int32.ofNat (2 * j)))] [])) st19 ?_
          refine OFin.to (T19.setTop (mkF m 185 #[.val (.ref o), .val (.int sc), .val (.int (1 : Int32)), .val (.int (0 : Int32)), .val (.int (Int32.ofNat j)), .val (.long (Int64.ofNat (2 * j))), .second, .val (.int (Int32.ofNat (2 * j)))] [(.ref o)])) (fun _ kt => XS.aloadN X19.here hx rfl (hb hby d2_184) rfl rfl kt) ?_
          refine OFin.to (T19.setTop (mkF m 186 #[.val (.ref o), .val (.int sc), .val (.int (1 : Int32)), .val (.int (0 : Int32)), .val (.int (Int32.ofNat j)), .val (.long (Int64.ofNat (2 * j))), .second, .val (.int (Int32.ofNat (2 * j)))] [(.int (1 : Int32)), (.ref o)])) (fun _ kt => XS.iloadN X19.here hx rfl (hb hby d2_185) rfl kt) ?_
          obtain ⟨v20, T20, L20, hQ20, X20, st20⟩ := own_callS X19 hx hZ hown (hw _ (List.mem_of_getElem? (i := 224) rfl)) (hw _ (List.mem_of_getElem? (i := 225) rfl)) (hw _ (List.mem_of_getElem? (i := 7) rfl)) (hw _ (List.mem_of_getElem? (i := 226) rfl)) (by decide) e19 (rm25 l Z a0 hw []  h19 n0 Z19 ) 1 (by decide) (by decide) (by decide) (by decide) (g := (mkF m 186 #[.val (.ref o), .val (.int sc), .val (.int (1 : Int32)), .val (.int (0 : Int32)), .val (.int (Int32.ofNat j)), .val (.long (Int64.ofNat (2 * j))), .second, .val (.int (Int32.ofNat (2 * j)))] [(.int (1 : Int32)), (.ref o)])) rfl (by rw [hml]; rfl) (rest := [(.ref o)]) (lenOf pd_10 rfl) rfl (by show 2 * 0 + _ ≤ _; exact Nat.le_of_eq rfl) (hb hby d2_186)
          obtain ⟨bq20, rfl, Kq20, Nq20⟩ := hQ20
          refine OFin.to (T20.setTop (mkF m 189 #[.val (.ref o), .val (.int sc), .val (.int (1 : Int32)), .val (.int (0 : Int32)), .val (.int (Int32.ofNat j)), .val (.long (Int64.ofNat (2 * j))), .second, .val (.int (Int32.ofNat (2 * j)))] [(.ref bq20), (.ref o)])) st20 ?_
          have N20 := Fr.app N19 Nq20
          have Z20 := Nat.le_trans Z19 Kq20.1
          have E_o_20 := E_o_19.keep Kq20
          have F_bitCount_o_20 := F_bitCount_o_19.keep Kq20 nin0
          have F_unprimedLevels_o_20 := F_unprimedLevels_o_19.keep Kq20 nin0
          have F_stateQuantifiers_o_20 := F_stateQuantifiers_o_19.keep Kq20 nin0
          have F_laterQuantifiers_o_20 := F_laterQuantifiers_o_19.keep Kq20 nin0
          have F_firstBitQuantifiers_o_20 := F_firstBitQuantifiers_o_19.keep Kq20 nin0
          have F_stateCodes_o_20 := F_stateCodes_o_19.keep Kq20 nin0
          have KK20 := K19.trans Kq20 (fun x hx' => absurd hx' nin0)
          obtain ⟨T21, h21, X21, e21, W21, st21⟩ := putF X20 hx hZ hown (host := "") (Or.inl (hw _ (List.mem_of_getElem? (i := 234) rfl))) Via.refl rfl F_stateQuantifiers_o_20 E_o_20 (Or.inr ⟨(hw _ (List.mem_of_getElem? (i := 235) rfl)), rfl, hnm⟩) (hw _ (List.mem_of_getElem? (i := 6) rfl)) (ty := (.array .int)) (by decide) rfl rfl (g := (mkF m 189 #[.val (.ref o), .val (.int sc), .val (.int (1 : Int32)), .val (.int (0 : Int32)), .val (.int (Int32.ofNat j)), .val (.long (Int64.ofNat (2 * j))), .second, .val (.int (Int32.ofNat (2 * j)))] [(.ref bq20), (.ref o)])) rfl rfl (hb hby d2_189)
          have E_o_21 := E_o_20.wr W21
          have F_bitCount_o_21 := F_bitCount_o_20.other W21 (Or.inr (slot_ne (Or.inr (hw _ (List.mem_of_getElem? (i := 39) rfl))) (Or.inr (hw _ (List.mem_of_getElem? (i := 235) rfl))) (by decide) (t := .int) (t' := (.array .int)) (by decide) (by decide)))
          have F_unprimedLevels_o_21 := F_unprimedLevels_o_20.other W21 (Or.inr (slot_ne (Or.inr (hw _ (List.mem_of_getElem? (i := 223) rfl))) (Or.inr (hw _ (List.mem_of_getElem? (i := 235) rfl))) (by decide) (t := (.array .boolean)) (t' := (.array .int)) (by decide) (by decide)))
          have F_laterQuantifiers_o_21 := F_laterQuantifiers_o_20.other W21 (Or.inr (slot_ne (Or.inr (hw _ (List.mem_of_getElem? (i := 237) rfl))) (Or.inr (hw _ (List.mem_of_getElem? (i := 235) rfl))) (by decide) (t := (.array .int)) (t' := (.array .int)) (by decide) (by decide)))
          have F_firstBitQuantifiers_o_21 := F_firstBitQuantifiers_o_20.other W21 (Or.inr (slot_ne (Or.inr (hw _ (List.mem_of_getElem? (i := 239) rfl))) (Or.inr (hw _ (List.mem_of_getElem? (i := 235) rfl))) (by decide) (t := (.array .int)) (t' := (.array .int)) (by decide) (by decide)))
          have F_stateCodes_o_21 := F_stateCodes_o_20.other W21 (Or.inr (slot_ne (Or.inr (hw _ (List.mem_of_getElem? (i := 241) rfl))) (Or.inr (hw _ (List.mem_of_getElem? (i := 235) rfl))) (by decide) (t := (.array .int)) (t' := (.array .int)) (by decide) (by decide)))
          have F_stateQuantifiers_o_21 := F_stateQuantifiers_o_20.same W21
          have K21 := KK20.wr W21 (Or.inl (by simp))
          have N21 := Fr.snoc X21 N20 g_o
          have Z21 := Nat.le_trans Z20 (Keep.of_wr W21).1
          refine OFin.to (T21.setTop (mkF m 192 #[.val (.ref o), .val (.int sc), .val (.int (1 : Int32)), .val (.int (0 : Int32)), .val (.int (Int32.ofNat j)), .val (.long (Int64.ofNat (2 * j))), .second, .val (.int (Int32.ofNat (2 * j)))] [])) st21 ?_
          refine OFin.to (T21.setTop (mkF m 193 #[.val (.ref o), .val (.int sc), .val (.int (1 : Int32)), .val (.int (0 : Int32)), .val (.int (Int32.ofNat j)), .val (.long (Int64.ofNat (2 * j))), .second, .val (.int (Int32.ofNat (2 * j)))] [(.ref o)])) (fun _ kt => XS.aloadN X21.here hx rfl (hb hby d2_192) rfl rfl kt) ?_
          refine OFin.to (T21.setTop (mkF m 194 #[.val (.ref o), .val (.int sc), .val (.int (1 : Int32)), .val (.int (0 : Int32)), .val (.int (Int32.ofNat j)), .val (.long (Int64.ofNat (2 * j))), .second, .val (.int (Int32.ofNat (2 * j)))] [(.int (1 : Int32)), (.ref o)])) (fun _ kt => XS.iloadN X21.here hx rfl (hb hby d2_193) rfl kt) ?_
          obtain ⟨v22, T22, L22, hQ22, X22, st22⟩ := own_callS X21 hx hZ hown (hw _ (List.mem_of_getElem? (i := 224) rfl)) (hw _ (List.mem_of_getElem? (i := 225) rfl)) (hw _ (List.mem_of_getElem? (i := 7) rfl)) (hw _ (List.mem_of_getElem? (i := 226) rfl)) (by decide) e21 (rm25 l Z a0 hw []  h21 n0 Z21 ) 1 (by decide) (by decide) (by decide) (by decide) (g := (mkF m 194 #[.val (.ref o), .val (.int sc), .val (.int (1 : Int32)), .val (.int (0 : Int32)), .val (.int (Int32.ofNat j)), .val (.long (Int64.ofNat (2 * j))), .second, .val (.int (Int32.ofNat (2 * j)))] [(.int (1 : Int32)), (.ref o)])) rfl (by rw [hml]; rfl) (rest := [(.ref o)]) (lenOf pd_10 rfl) rfl (by show 2 * 0 + _ ≤ _; exact Nat.le_of_eq rfl) (hb hby d2_194)
          obtain ⟨bq22, rfl, Kq22, Nq22⟩ := hQ22
          refine OFin.to (T22.setTop (mkF m 197 #[.val (.ref o), .val (.int sc), .val (.int (1 : Int32)), .val (.int (0 : Int32)), .val (.int (Int32.ofNat j)), .val (.long (Int64.ofNat (2 * j))), .second, .val (.int (Int32.ofNat (2 * j)))] [(.ref bq22), (.ref o)])) st22 ?_
          have N22 := Fr.app N21 Nq22
          have Z22 := Nat.le_trans Z21 Kq22.1
          have E_o_22 := E_o_21.keep Kq22
          have F_bitCount_o_22 := F_bitCount_o_21.keep Kq22 nin0
          have F_unprimedLevels_o_22 := F_unprimedLevels_o_21.keep Kq22 nin0
          have F_laterQuantifiers_o_22 := F_laterQuantifiers_o_21.keep Kq22 nin0
          have F_firstBitQuantifiers_o_22 := F_firstBitQuantifiers_o_21.keep Kq22 nin0
          have F_stateCodes_o_22 := F_stateCodes_o_21.keep Kq22 nin0
          have KK22 := K21.trans Kq22 (fun x hx' => absurd hx' nin0)
          obtain ⟨T23, h23, X23, e23, W23, st23⟩ := putF X22 hx hZ hown (host := "") (Or.inl (hw _ (List.mem_of_getElem? (i := 236) rfl))) Via.refl rfl F_laterQuantifiers_o_22 E_o_22 (Or.inr ⟨(hw _ (List.mem_of_getElem? (i := 237) rfl)), rfl, hnm⟩) (hw _ (List.mem_of_getElem? (i := 6) rfl)) (ty := (.array .int)) (by decide) rfl rfl (g := (mkF m 197 #[.val (.ref o), .val (.int sc), .val (.int (1 : Int32)), .val (.int (0 : Int32)), .val (.int (Int32.ofNat j)), .val (.long (Int64.ofNat (2 * j))), .second, .val (.int (Int32.ofNat (2 * j)))] [(.ref bq22), (.ref o)])) rfl rfl (hb hby d2_197)
          have E_o_23 := E_o_22.wr W23
          have F_bitCount_o_23 := F_bitCount_o_22.other W23 (Or.inr (slot_ne (Or.inr (hw _ (List.mem_of_getElem? (i := 39) rfl))) (Or.inr (hw _ (List.mem_of_getElem? (i := 237) rfl))) (by decide) (t := .int) (t' := (.array .int)) (by decide) (by decide)))
          have F_unprimedLevels_o_23 := F_unprimedLevels_o_22.other W23 (Or.inr (slot_ne (Or.inr (hw _ (List.mem_of_getElem? (i := 223) rfl))) (Or.inr (hw _ (List.mem_of_getElem? (i := 237) rfl))) (by decide) (t := (.array .boolean)) (t' := (.array .int)) (by decide) (by decide)))
          have F_firstBitQuantifiers_o_23 := F_firstBitQuantifiers_o_22.other W23 (Or.inr (slot_ne (Or.inr (hw _ (List.mem_of_getElem? (i := 239) rfl))) (Or.inr (hw _ (List.mem_of_getElem? (i := 237) rfl))) (by decide) (t := (.array .int)) (t' := (.array .int)) (by decide) (by decide)))
          have F_stateCodes_o_23 := F_stateCodes_o_22.other W23 (Or.inr (slot_ne (Or.inr (hw _ (List.mem_of_getElem? (i := 241) rfl))) (Or.inr (hw _ (List.mem_of_getElem? (i := 237) rfl))) (by decide) (t := (.array .int)) (t' := (.array .int)) (by decide) (by decide)))
          have F_laterQuantifiers_o_23 := F_laterQuantifiers_o_22.same W23
          have K23 := KK22.wr W23 (Or.inl (by simp))
          have N23 := Fr.snoc X23 N22 g_o
          have Z23 := Nat.le_trans Z22 (Keep.of_wr W23).1
          refine OFin.to (T23.setTop (mkF m 200 #[.val (.ref o), .val (.int sc), .val (.int (1 : Int32)), .val (.int (0 : Int32)), .val (.int (Int32.ofNat j)), .val (.long (Int64.ofNat (2 * j))), .second, .val (.int (Int32.ofNat (2 * j)))] [])) st23 ?_
          refine OFin.to (T23.setTop (mkF m 201 #[.val (.ref o), .val (.int sc), .val (.int (1 : Int32)), .val (.int (0 : Int32)), .val (.int (Int32.ofNat j)), .val (.long (Int64.ofNat (2 * j))), .second, .val (.int (Int32.ofNat (2 * j)))] [(.ref o)])) (fun _ kt => XS.aloadN X23.here hx rfl (hb hby d2_200) rfl rfl kt) ?_
          refine OFin.to (T23.setTop (mkF m 202 #[.val (.ref o), .val (.int sc), .val (.int (1 : Int32)), .val (.int (0 : Int32)), .val (.int (Int32.ofNat j)), .val (.long (Int64.ofNat (2 * j))), .second, .val (.int (Int32.ofNat (2 * j)))] [(.int (1 : Int32)), (.ref o)])) (fun _ kt => XS.iloadN X23.here hx rfl (hb hby d2_201) rfl kt) ?_
          obtain ⟨v24, T24, L24, hQ24, X24, st24⟩ := own_callS X23 hx hZ hown (hw _ (List.mem_of_getElem? (i := 224) rfl)) (hw _ (List.mem_of_getElem? (i := 225) rfl)) (hw _ (List.mem_of_getElem? (i := 7) rfl)) (hw _ (List.mem_of_getElem? (i := 226) rfl)) (by decide) e23 (rm25 l Z a0 hw []  h23 n0 Z23 ) 1 (by decide) (by decide) (by decide) (by decide) (g := (mkF m 202 #[.val (.ref o), .val (.int sc), .val (.int (1 : Int32)), .val (.int (0 : Int32)), .val (.int (Int32.ofNat j)), .val (.long (Int64.ofNat (2 * j))), .second, .val (.int (Int32.ofNat (2 * j)))] [(.int (1 : Int32)), (.ref o)])) rfl (by rw [hml]; rfl) (rest := [(.ref o)]) (lenOf pd_10 rfl) rfl (by show 2 * 0 + _ ≤ _; exact Nat.le_of_eq rfl) (hb hby d2_202)
          obtain ⟨bq24, rfl, Kq24, Nq24⟩ := hQ24
          refine OFin.to (T24.setTop (mkF m 205 #[.val (.ref o), .val (.int sc), .val (.int (1 : Int32)), .val (.int (0 : Int32)), .val (.int (Int32.ofNat j)), .val (.long (Int64.ofNat (2 * j))), .second, .val (.int (Int32.ofNat (2 * j)))] [(.ref bq24), (.ref o)])) st24 ?_
          have N24 := Fr.app N23 Nq24
          have Z24 := Nat.le_trans Z23 Kq24.1
          have E_o_24 := E_o_23.keep Kq24
          have F_bitCount_o_24 := F_bitCount_o_23.keep Kq24 nin0
          have F_unprimedLevels_o_24 := F_unprimedLevels_o_23.keep Kq24 nin0
          have F_firstBitQuantifiers_o_24 := F_firstBitQuantifiers_o_23.keep Kq24 nin0
          have F_stateCodes_o_24 := F_stateCodes_o_23.keep Kq24 nin0
          have KK24 := K23.trans Kq24 (fun x hx' => absurd hx' nin0)
          obtain ⟨T25, h25, X25, e25, W25, st25⟩ := putF X24 hx hZ hown (host := "") (Or.inl (hw _ (List.mem_of_getElem? (i := 238) rfl))) Via.refl rfl F_firstBitQuantifiers_o_24 E_o_24 (Or.inr ⟨(hw _ (List.mem_of_getElem? (i := 239) rfl)), rfl, hnm⟩) (hw _ (List.mem_of_getElem? (i := 6) rfl)) (ty := (.array .int)) (by decide) rfl rfl (g := (mkF m 205 #[.val (.ref o), .val (.int sc), .val (.int (1 : Int32)), .val (.int (0 : Int32)), .val (.int (Int32.ofNat j)), .val (.long (Int64.ofNat (2 * j))), .second, .val (.int (Int32.ofNat (2 * j)))] [(.ref bq24), (.ref o)])) rfl rfl (hb hby d2_205)
          have E_o_25 := E_o_24.wr W25
          have F_bitCount_o_25 := F_bitCount_o_24.other W25 (Or.inr (slot_ne (Or.inr (hw _ (List.mem_of_getElem? (i := 39) rfl))) (Or.inr (hw _ (List.mem_of_getElem? (i := 239) rfl))) (by decide) (t := .int) (t' := (.array .int)) (by decide) (by decide)))
          have F_unprimedLevels_o_25 := F_unprimedLevels_o_24.other W25 (Or.inr (slot_ne (Or.inr (hw _ (List.mem_of_getElem? (i := 223) rfl))) (Or.inr (hw _ (List.mem_of_getElem? (i := 239) rfl))) (by decide) (t := (.array .boolean)) (t' := (.array .int)) (by decide) (by decide)))
          have F_stateCodes_o_25 := F_stateCodes_o_24.other W25 (Or.inr (slot_ne (Or.inr (hw _ (List.mem_of_getElem? (i := 241) rfl))) (Or.inr (hw _ (List.mem_of_getElem? (i := 239) rfl))) (by decide) (t := (.array .int)) (t' := (.array .int)) (by decide) (by decide)))
          have F_firstBitQuantifiers_o_25 := F_firstBitQuantifiers_o_24.same W25
          have K25 := KK24.wr W25 (Or.inl (by simp))
          have N25 := Fr.snoc X25 N24 g_o
          have Z25 := Nat.le_trans Z24 (Keep.of_wr W25).1
          refine OFin.to (T25.setTop (mkF m 208 #[.val (.ref o), .val (.int sc), .val (.int (1 : Int32)), .val (.int (0 : Int32)), .val (.int (Int32.ofNat j)), .val (.long (Int64.ofNat (2 * j))), .second, .val (.int (Int32.ofNat (2 * j)))] [])) st25 ?_
          refine OFin.to (T25.setTop (mkF m 209 #[.val (.ref o), .val (.int sc), .val (.int (1 : Int32)), .val (.int (0 : Int32)), .val (.int (Int32.ofNat j)), .val (.long (Int64.ofNat (2 * j))), .second, .val (.int (Int32.ofNat (2 * j)))] [(.ref o)])) (fun _ kt => XS.aloadN X25.here hx rfl (hb hby d2_208) rfl rfl kt) ?_
          refine OFin.to (T25.setTop (mkF m 210 #[.val (.ref o), .val (.int sc), .val (.int (1 : Int32)), .val (.int (0 : Int32)), .val (.int (Int32.ofNat j)), .val (.long (Int64.ofNat (2 * j))), .second, .val (.int (Int32.ofNat (2 * j)))] [(.int (1 : Int32)), (.ref o)])) (fun _ kt => XS.iloadN X25.here hx rfl (hb hby d2_209) rfl kt) ?_
          obtain ⟨v26, T26, L26, hQ26, X26, st26⟩ := own_callS X25 hx hZ hown (hw _ (List.mem_of_getElem? (i := 224) rfl)) (hw _ (List.mem_of_getElem? (i := 225) rfl)) (hw _ (List.mem_of_getElem? (i := 7) rfl)) (hw _ (List.mem_of_getElem? (i := 226) rfl)) (by decide) e25 (rm25 l Z a0 hw []  h25 n0 Z25 ) 1 (by decide) (by decide) (by decide) (by decide) (g := (mkF m 210 #[.val (.ref o), .val (.int sc), .val (.int (1 : Int32)), .val (.int (0 : Int32)), .val (.int (Int32.ofNat j)), .val (.long (Int64.ofNat (2 * j))), .second, .val (.int (Int32.ofNat (2 * j)))] [(.int (1 : Int32)), (.ref o)])) rfl (by rw [hml]; rfl) (rest := [(.ref o)]) (lenOf pd_10 rfl) rfl (by show 2 * 0 + _ ≤ _; exact Nat.le_of_eq rfl) (hb hby d2_210)
          obtain ⟨bq26, rfl, Kq26, Nq26⟩ := hQ26
          refine OFin.to (T26.setTop (mkF m 213 #[.val (.ref o), .val (.int sc), .val (.int (1 : Int32)), .val (.int (0 : Int32)), .val (.int (Int32.ofNat j)), .val (.long (Int64.ofNat (2 * j))), .second, .val (.int (Int32.ofNat (2 * j)))] [(.ref bq26), (.ref o)])) st26 ?_
          have N26 := Fr.app N25 Nq26
          have Z26 := Nat.le_trans Z25 Kq26.1
          have E_o_26 := E_o_25.keep Kq26
          have F_bitCount_o_26 := F_bitCount_o_25.keep Kq26 nin0
          have F_unprimedLevels_o_26 := F_unprimedLevels_o_25.keep Kq26 nin0
          have F_stateCodes_o_26 := F_stateCodes_o_25.keep Kq26 nin0
          have KK26 := K25.trans Kq26 (fun x hx' => absurd hx' nin0)
          obtain ⟨T27, h27, X27, e27, W27, st27⟩ := putF X26 hx hZ hown (host := "") (Or.inl (hw _ (List.mem_of_getElem? (i := 240) rfl))) Via.refl rfl F_stateCodes_o_26 E_o_26 (Or.inr ⟨(hw _ (List.mem_of_getElem? (i := 241) rfl)), rfl, hnm⟩) (hw _ (List.mem_of_getElem? (i := 6) rfl)) (ty := (.array .int)) (by decide) rfl rfl (g := (mkF m 213 #[.val (.ref o), .val (.int sc), .val (.int (1 : Int32)), .val (.int (0 : Int32)), .val (.int (Int32.ofNat j)), .val (.long (Int64.ofNat (2 * j))), .second, .val (.int (Int32.ofNat (2 * j)))] [(.ref bq26), (.ref o)])) rfl rfl (hb hby d2_213)
          have E_o_27 := E_o_26.wr W27
          have F_bitCount_o_27 := F_bitCount_o_26.other W27 (Or.inr (slot_ne (Or.inr (hw _ (List.mem_of_getElem? (i := 39) rfl))) (Or.inr (hw _ (List.mem_of_getElem? (i := 241) rfl))) (by decide) (t := .int) (t' := (.array .int)) (by decide) (by decide)))
          have F_unprimedLevels_o_27 := F_unprimedLevels_o_26.other W27 (Or.inr (slot_ne (Or.inr (hw _ (List.mem_of_getElem? (i := 223) rfl))) (Or.inr (hw _ (List.mem_of_getElem? (i := 241) rfl))) (by decide) (t := (.array .boolean)) (t' := (.array .int)) (by decide) (by decide)))
          have F_stateCodes_o_27 := F_stateCodes_o_26.same W27
          have K27 := KK26.wr W27 (Or.inl (by simp))
          have N27 := Fr.snoc X27 N26 g_o
          have Z27 := Nat.le_trans Z26 (Keep.of_wr W27).1
          refine OFin.to (T27.setTop (mkF m 216 #[.val (.ref o), .val (.int sc), .val (.int (1 : Int32)), .val (.int (0 : Int32)), .val (.int (Int32.ofNat j)), .val (.long (Int64.ofNat (2 * j))), .second, .val (.int (Int32.ofNat (2 * j)))] [])) st27 ?_
          exact OFin.retV X27 hx hret hlk (hb hby d2_216) (by decide) (by decide) (by rw [e27]; exact ⟨rfl, K27, N27, j, hN, hle, hlt, E_o_27, F_bitCount_o_27⟩)
      exact LQ i 0 T12 h12 _ _ (by omega) X12 e12 Vu_12 (Keep.refl _ _) N12
  exact LP N 0 T4 _ (by omega) X4 e4 N4
theorem d26_0 : decode prog_123_method_5_code 0 = .ok (.aload_n 0, 1) := by decide +kernel
theorem d26_1 : decode prog_123_method_5_code 1 = .ok (.getfield 42, 3) := by decide +kernel
theorem d26_4 : decode prog_123_method_5_code 4 = .ok (.ireturn, 1) := by decide +kernel
theorem pn_26 : plainName "com/example/fixpoint_checker/fixpointchecker/symbolic/StateEncoding" = true := by first | (simp [plainName, overriddenIn]; done) | decide +kernel
theorem ef_26 (m : MethodId) (a0 : Addr) : entryFrame m #[(.ref a0)] 1 = mkF m 0 #[.val (.ref a0)] [] := by first | (simp [entryFrame, mkF, argsToLocals, Value.category]; done) | rfl
set_option maxRecDepth 65536 in
set_option maxHeartbeats 40000000 in
theorem rm26 (l : Launch) (Z : State) (a0 : Array Value) (hw : ∀ d ∈ tables_1, d.before a0 Z = true) (ws : List Jvm.Cond) (o : Addr) (N : Nat) (h0 : Heap) (F_b : Fld Z h0 o "com/example/fixpoint_checker/fixpointchecker/symbolic/StateEncoding" "bitCount" "I" (.int (Int32.ofNat N))) :
    MetFree l (⟨"com/example/fixpoint_checker/fixpointchecker/symbolic/StateEncoding", "getBitCount", "()I"⟩ : MethodName) (head1 (Jvm.Cond.code (⟨"com/example/fixpoint_checker/fixpointchecker/symbolic/StateEncoding", "getBitCount", "()I"⟩ : MethodName) prog_123_method_5_code 1 (some .int) :: ws) ({ frames := 0, cells := 0, slots := 0, locals := 0 } : Room)) (fun a_ U => a_ = #[(.ref o)] ∧ Z.Warmed39 U.vm ∧ U.heap = h0) (fun _ _ _ _ _ => True) (fun _ U o_ U' => ∃ v L, o_ = .returned v ∧ OQ (fun v h L => v = some (.int (Int32.ofNat N)) ∧ h = h0 ∧ L = []) v U'.heap L ∧ FrameEnd U o_ U' L ({ frames := 0, cells := 0, slots := 0, locals := 0 } : Room).cells ({ frames := 0, cells := 0, slots := 0, locals := 0 } : Room).slots) := by
  refine MetFree.of_bodySF (plainFor_of_name pn_26) hisR ?_
  intro p e s m args below meth c s₁ Bd hml0 hP hK
  obtain ⟨rfl, hZ, hh⟩ := hP
  have hx := Bd.exec
  have hby := Bd.bytes
  have hml : c.maxLocals = 1 := hml0
  have hown : s.vm.findClass "com/example/fixpoint_checker/fixpointchecker/symbolic/StateEncoding" = some m.cls := findClass_of_methodNamed Bd.named
  have hnm := (name_of_methodNamed Bd.named Bd.method).1
  have hret := Bd.returns
  have hlk : meth.locks = false := Bd.notSynchronized
  have X0 : Stand p l e ({ frames := 0, cells := 0, slots := 0, locals := 0 } : Room) s m #[(.ref o)] below meth c s₁ [] 0 0 := Stand.of_body Bd
  have e0 : s₁.heap = h0 := by rw [← hh, Bd.state]; rfl
  refine OFin.start (Q := fun v h L => v = some (.int (Int32.ofNat N)) ∧ h = h0 ∧ L = []) (s := s) (fun t kt => castTop (ef_26 m (o)) kt) ?_
  refine OFin.to (s₁.setTop (mkF m 1 #[.val (.ref o)] [(.ref o)])) (fun _ kt => XS.aloadN X0.here hx rfl (hb hby d26_0) rfl rfl kt) ?_
  obtain ⟨T1, X1, e1, st1⟩ := getF X0 hx hZ hown (host := "") (Or.inl (hw _ (List.mem_of_getElem? (i := 38) rfl))) Via.refl e0 F_b (g := (mkF m 1 #[.val (.ref o)] [(.ref o)])) rfl rfl (hb hby d26_1)
  refine OFin.to (T1.setTop (mkF m 4 #[.val (.ref o)] [(.int (Int32.ofNat N))])) st1 ?_
  exact OFin.retI X1 hx hret hlk (hb hby d26_4) (Nat.zero_le _) (Nat.zero_le _) ⟨rfl, e1, rfl⟩
theorem d27_0 : decode prog_123_method_17_code 0 = .ok (.lconst 0, 1) := by decide +kernel
theorem d27_1 : decode prog_123_method_17_code 1 = .ok (.lstore_n 3, 1) := by decide +kernel
theorem d27_2 : decode prog_123_method_17_code 2 = .ok (.iconst 0, 1) := by decide +kernel
theorem d27_3 : decode prog_123_method_17_code 3 = .ok (.istore 5, 2) := by decide +kernel
theorem d27_5 : decode prog_123_method_17_code 5 = .ok (.iload 5, 2) := by decide +kernel
theorem d27_7 : decode prog_123_method_17_code 7 = .ok (.aload_n 0, 1) := by decide +kernel
theorem d27_8 : decode prog_123_method_17_code 8 = .ok (.getfield 42, 3) := by decide +kernel
theorem d27_11 : decode prog_123_method_17_code 11 = .ok (.if_icmp .ge 42, 3) := by decide +kernel
theorem d27_14 : decode prog_123_method_17_code 14 = .ok (.aload_n 0, 1) := by decide +kernel
theorem d27_15 : decode prog_123_method_17_code 15 = .ok (.getfield 42, 3) := by decide +kernel
theorem d27_18 : decode prog_123_method_17_code 18 = .ok (.iconst 1, 1) := by decide +kernel
theorem d27_19 : decode prog_123_method_17_code 19 = .ok (.isub, 1) := by decide +kernel
theorem d27_20 : decode prog_123_method_17_code 20 = .ok (.iload 5, 2) := by decide +kernel
theorem d27_22 : decode prog_123_method_17_code 22 = .ok (.isub, 1) := by decide +kernel
theorem d27_23 : decode prog_123_method_17_code 23 = .ok (.istore 6, 2) := by decide +kernel
theorem d27_25 : decode prog_123_method_17_code 25 = .ok (.lload_n 3, 1) := by decide +kernel
theorem d27_26 : decode prog_123_method_17_code 26 = .ok (.iconst 2, 1) := by decide +kernel
theorem d27_27 : decode prog_123_method_17_code 27 = .ok (.lshl, 1) := by decide +kernel
theorem d27_28 : decode prog_123_method_17_code 28 = .ok (.iload_n 1, 1) := by decide +kernel
theorem d27_29 : decode prog_123_method_17_code 29 = .ok (.iload 6, 2) := by decide +kernel
theorem d27_31 : decode prog_123_method_17_code 31 = .ok (.iushr, 1) := by decide +kernel
theorem d27_32 : decode prog_123_method_17_code 32 = .ok (.iconst 1, 1) := by decide +kernel
theorem d27_33 : decode prog_123_method_17_code 33 = .ok (.iand, 1) := by decide +kernel
theorem d27_34 : decode prog_123_method_17_code 34 = .ok (.i2l, 1) := by decide +kernel
theorem d27_35 : decode prog_123_method_17_code 35 = .ok (.iconst 1, 1) := by decide +kernel
theorem d27_36 : decode prog_123_method_17_code 36 = .ok (.lshl, 1) := by decide +kernel
theorem d27_37 : decode prog_123_method_17_code 37 = .ok (.lor, 1) := by decide +kernel
theorem d27_38 : decode prog_123_method_17_code 38 = .ok (.iload_n 2, 1) := by decide +kernel
theorem d27_39 : decode prog_123_method_17_code 39 = .ok (.iload 6, 2) := by decide +kernel
theorem d27_41 : decode prog_123_method_17_code 41 = .ok (.iushr, 1) := by decide +kernel
theorem d27_42 : decode prog_123_method_17_code 42 = .ok (.iconst 1, 1) := by decide +kernel
theorem d27_43 : decode prog_123_method_17_code 43 = .ok (.iand, 1) := by decide +kernel
theorem d27_44 : decode prog_123_method_17_code 44 = .ok (.i2l, 1) := by decide +kernel
theorem d27_45 : decode prog_123_method_17_code 45 = .ok (.lor, 1) := by decide +kernel
theorem d27_46 : decode prog_123_method_17_code 46 = .ok (.lstore_n 3, 1) := by decide +kernel
theorem d27_47 : decode prog_123_method_17_code 47 = .ok (.iinc 5 1, 3) := by decide +kernel
theorem d27_50 : decode prog_123_method_17_code 50 = .ok (.goto (-45), 3) := by decide +kernel
theorem d27_53 : decode prog_123_method_17_code 53 = .ok (.lload_n 3, 1) := by decide +kernel
theorem d27_54 : decode prog_123_method_17_code 54 = .ok (.lreturn, 1) := by decide +kernel
theorem pn_27 : plainName "com/example/fixpoint_checker/fixpointchecker/symbolic/StateEncoding" = true := by first | (simp [plainName, overriddenIn]; done) | decide +kernel
theorem ef_27 (m : MethodId) (a0 : Addr) (p1 : Int32) (p2 : Int32) : entryFrame m #[(.ref a0), (.int p1), (.int p2)] 7 = mkF m 0 #[.val (.ref a0), .val (.int p1), .val (.int p2), .unset, .unset, .unset, .unset] [] := by first | (simp [entryFrame, mkF, argsToLocals, Value.category]; done) | rfl
set_option maxRecDepth 65536 in
set_option maxHeartbeats 40000000 in
theorem rm27 (l : Launch) (Z : State) (a0 : Array Value) (hw : ∀ d ∈ tables_1, d.before a0 Z = true) (ws : List Jvm.Cond) (o : Addr) (a b : Int32) (N : Nat) (hN : N ≤ 31) (h0 : Heap) (F_b : Fld Z h0 o "com/example/fixpoint_checker/fixpointchecker/symbolic/StateEncoding" "bitCount" "I" (.int (Int32.ofNat N))) :
    MetFree l (⟨"com/example/fixpoint_checker/fixpointchecker/symbolic/StateEncoding", "pairKey", "(II)J"⟩ : MethodName) (head1 (Jvm.Cond.code (⟨"com/example/fixpoint_checker/fixpointchecker/symbolic/StateEncoding", "pairKey", "(II)J"⟩ : MethodName) prog_123_method_17_code 7 (some .long) :: ws) ({ frames := 0, cells := 0, slots := 0, locals := 0 } : Room)) (fun a_ U => a_ = #[(.ref o), (.int a), (.int b)] ∧ Z.Warmed39 U.vm ∧ U.heap = h0) (fun _ _ _ _ _ => True) (fun _ U o_ U' => ∃ v L, o_ = .returned v ∧ OQ (fun v h L => v = some (.long (own_key N a b N)) ∧ h = h0 ∧ L = []) v U'.heap L ∧ FrameEnd U o_ U' L ({ frames := 0, cells := 0, slots := 0, locals := 0 } : Room).cells ({ frames := 0, cells := 0, slots := 0, locals := 0 } : Room).slots) := by
  refine MetFree.of_bodySF (plainFor_of_name pn_27) hisR ?_
  intro p e s m args below meth c s₁ Bd hml0 hP hK
  obtain ⟨rfl, hZ, hh⟩ := hP
  have hx := Bd.exec
  have hby := Bd.bytes
  have hml : c.maxLocals = 7 := hml0
  have hown : s.vm.findClass "com/example/fixpoint_checker/fixpointchecker/symbolic/StateEncoding" = some m.cls := findClass_of_methodNamed Bd.named
  have hnm := (name_of_methodNamed Bd.named Bd.method).1
  have hret := Bd.returns
  have hlk : meth.locks = false := Bd.notSynchronized
  have X0 : Stand p l e ({ frames := 0, cells := 0, slots := 0, locals := 0 } : Room) s m #[(.ref o), (.int a), (.int b)] below meth c s₁ [] 0 0 := Stand.of_body Bd
  have e0 : s₁.heap = h0 := by rw [← hh, Bd.state]; rfl
  refine OFin.start (Q := fun v h L => v = some (.long (own_key N a b N)) ∧ h = h0 ∧ L = []) (s := s) (fun t kt => castTop (ef_27 m (o) (a) (b)) kt) ?_
  have LP : ∀ (r i : Nat) (T : State) (q6 : Slot), i + r = N → One q6 → Stand p l e ({ frames := 0, cells := 0, slots := 0, locals := 0 } : Room) s m #[(.ref o), (.int a), (.int b)] below meth c T [] 0 0 → T.heap = h0 → OFin p e below s ({ frames := 0, cells := 0, slots := 0, locals := 0 } : Room).cells ({ frames := 0, cells := 0, slots := 0, locals := 0 } : Room).slots (fun v h L => v = some (.long (own_key N a b N)) ∧ h = h0 ∧ L = []) (T.setTop (mkF m 5 #[.val (.ref o), .val (.int a), .val (.int b), .val (.long (own_key N a b i)), .second, .val (.int (Int32.ofNat i)), q6] [])) := by
    intro r
    induction r with
    | zero =>
      intro i T q6 hi h6 X eT
      obtain rfl : i = N := by omega
      refine OFin.to (T.setTop (mkF m 7 #[.val (.ref o), .val (.int a), .val (.int b), .val (.long (own_key i a b i)), .second, .val (.int (Int32.ofNat i)), q6] [(.int (Int32.ofNat i))])) (fun _ kt => XS.iload X.here hx rfl (hb hby d27_5) rfl kt) ?_
      refine OFin.to (T.setTop (mkF m 8 #[.val (.ref o), .val (.int a), .val (.int b), .val (.long (own_key i a b i)), .second, .val (.int (Int32.ofNat i)), q6] [(.ref o), (.int (Int32.ofNat i))])) (fun _ kt => XS.aloadN X.here hx rfl (hb hby d27_7) rfl rfl kt) ?_
      obtain ⟨T1, X1, e1, st1⟩ := getF X hx hZ hown (host := "") (Or.inl (hw _ (List.mem_of_getElem? (i := 38) rfl))) Via.refl eT F_b (g := (mkF m 8 #[.val (.ref o), .val (.int a), .val (.int b), .val (.long (own_key i a b i)), .second, .val (.int (Int32.ofNat i)), q6] [(.ref o), (.int (Int32.ofNat i))])) rfl rfl (hb hby d27_8)
      refine OFin.to (T1.setTop (mkF m 11 #[.val (.ref o), .val (.int a), .val (.int b), .val (.long (own_key i a b i)), .second, .val (.int (Int32.ofNat i)), q6] [(.int (Int32.ofNat i)), (.int (Int32.ofNat i))])) st1 ?_
      refine OFin.to (T1.setTop (mkF m 53 #[.val (.ref o), .val (.int a), .val (.int b), .val (.long (own_key i a b i)), .second, .val (.int (Int32.ofNat i)), q6] [])) (fun _ kt => XS.icmpYes X1.here hx rfl (pc0 := 11) (pc' := 53) rfl (hb hby d27_11) rfl (XT.ii_ge_t Int32.lt_irrefl) (by decide) (by decide) kt) ?_
      refine OFin.to (T1.setTop (mkF m 54 #[.val (.ref o), .val (.int a), .val (.int b), .val (.long (own_key i a b i)), .second, .val (.int (Int32.ofNat i)), q6] [(.long (own_key i a b i))])) (fun _ kt => XS.lloadN X1.here hx rfl (hb hby d27_53) rfl kt) ?_
      exact OFin.retJ X1 hx hret hlk (hb hby d27_54) (Nat.zero_le _) (Nat.zero_le _) ⟨rfl, e1, rfl⟩
    | succ r ih =>
      intro i T q6 hi h6 X eT
      refine OFin.to (T.setTop (mkF m 7 #[.val (.ref o), .val (.int a), .val (.int b), .val (.long (own_key N a b i)), .second, .val (.int (Int32.ofNat i)), q6] [(.int (Int32.ofNat i))])) (fun _ kt => XS.iload X.here hx rfl (hb hby d27_5) rfl kt) ?_
      refine OFin.to (T.setTop (mkF m 8 #[.val (.ref o), .val (.int a), .val (.int b), .val (.long (own_key N a b i)), .second, .val (.int (Int32.ofNat i)), q6] [(.ref o), (.int (Int32.ofNat i))])) (fun _ kt => XS.aloadN X.here hx rfl (hb hby d27_7) rfl rfl kt) ?_
      obtain ⟨T2, X2, e2, st2⟩ := getF X hx hZ hown (host := "") (Or.inl (hw _ (List.mem_of_getElem? (i := 38) rfl))) Via.refl eT F_b (g := (mkF m 8 #[.val (.ref o), .val (.int a), .val (.int b), .val (.long (own_key N a b i)), .second, .val (.int (Int32.ofNat i)), q6] [(.ref o), (.int (Int32.ofNat i))])) rfl rfl (hb hby d27_8)
      refine OFin.to (T2.setTop (mkF m 11 #[.val (.ref o), .val (.int a), .val (.int b), .val (.long (own_key N a b i)), .second, .val (.int (Int32.ofNat i)), q6] [(.int (Int32.ofNat N)), (.int (Int32.ofNat i))])) st2 ?_
      refine OFin.to (T2.setTop (mkF m 14 #[.val (.ref o), .val (.int a), .val (.int b), .val (.long (own_key N a b i)), .second, .val (.int (Int32.ofNat i)), q6] [])) (fun _ kt => XS.icmpNo X2.here hx rfl (hb hby d27_11) rfl (XT.ii_ge_f ((own_ofLt i N (by omega) (by omega)).mpr (by omega))) kt) ?_
      refine OFin.to (T2.setTop (mkF m 15 #[.val (.ref o), .val (.int a), .val (.int b), .val (.long (own_key N a b i)), .second, .val (.int (Int32.ofNat i)), q6] [(.ref o)])) (fun _ kt => XS.aloadN X2.here hx rfl (hb hby d27_14) rfl rfl kt) ?_
      obtain ⟨T3, X3, e3, st3⟩ := getF X2 hx hZ hown (host := "") (Or.inl (hw _ (List.mem_of_getElem? (i := 38) rfl))) Via.refl e2 F_b (g := (mkF m 15 #[.val (.ref o), .val (.int a), .val (.int b), .val (.long (own_key N a b i)), .second, .val (.int (Int32.ofNat i)), q6] [(.ref o)])) rfl rfl (hb hby d27_15)
      refine OFin.to (T3.setTop (mkF m 18 #[.val (.ref o), .val (.int a), .val (.int b), .val (.long (own_key N a b i)), .second, .val (.int (Int32.ofNat i)), q6] [(.int (Int32.ofNat N))])) st3 ?_
      refine OFin.to (T3.setTop (mkF m 19 #[.val (.ref o), .val (.int a), .val (.int b), .val (.long (own_key N a b i)), .second, .val (.int (Int32.ofNat i)), q6] [(.int (1 : Int32)), (.int (Int32.ofNat N))])) (fun _ kt => XS.iconst X3.here hx rfl (hb hby d27_18) kt) ?_
      refine OFin.to (T3.setTop (mkF m 20 #[.val (.ref o), .val (.int a), .val (.int b), .val (.long (own_key N a b i)), .second, .val (.int (Int32.ofNat i)), q6] [(.int ((Int32.ofNat N) - (1 : Int32)))])) (fun _ kt => XS.isub X3.here hx rfl (hb hby d27_19) rfl kt) ?_
      refine OFin.to (T3.setTop (mkF m 22 #[.val (.ref o), .val (.int a), .val (.int b), .val (.long (own_key N a b i)), .second, .val (.int (Int32.ofNat i)), q6] [(.int (Int32.ofNat i)), (.int ((Int32.ofNat N) - (1 : Int32)))])) (fun _ kt => XS.iload X3.here hx rfl (hb hby d27_20) rfl kt) ?_
      refine OFin.to (T3.setTop (mkF m 23 #[.val (.ref o), .val (.int a), .val (.int b), .val (.long (own_key N a b i)), .second, .val (.int (Int32.ofNat i)), q6] [(.int (((Int32.ofNat N) - (1 : Int32)) - (Int32.ofNat i)))])) (fun _ kt => XS.isub X3.here hx rfl (hb hby d27_22) rfl kt) ?_
      refine OFin.to (T3.setTop (mkF m 25 #[.val (.ref o), .val (.int a), .val (.int b), .val (.long (own_key N a b i)), .second, .val (.int (Int32.ofNat i)), .val (.int (((Int32.ofNat N) - (1 : Int32)) - (Int32.ofNat i)))] [])) (fun _ kt => XS.istoreS X3.here hx rfl (hb hby d27_23) rfl (o := q6) rfl h6 kt) ?_
      refine OFin.to (T3.setTop (mkF m 26 #[.val (.ref o), .val (.int a), .val (.int b), .val (.long (own_key N a b i)), .second, .val (.int (Int32.ofNat i)), .val (.int (((Int32.ofNat N) - (1 : Int32)) - (Int32.ofNat i)))] [(.long (own_key N a b i))])) (fun _ kt => XS.lloadN X3.here hx rfl (hb hby d27_25) rfl kt) ?_
      refine OFin.to (T3.setTop (mkF m 27 #[.val (.ref o), .val (.int a), .val (.int b), .val (.long (own_key N a b i)), .second, .val (.int (Int32.ofNat i)), .val (.int (((Int32.ofNat N) - (1 : Int32)) - (Int32.ofNat i)))] [(.int (2 : Int32)), (.long (own_key N a b i))])) (fun _ kt => XS.iconst X3.here hx rfl (hb hby d27_26) kt) ?_
      refine OFin.to (T3.setTop (mkF m 28 #[.val (.ref o), .val (.int a), .val (.int b), .val (.long (own_key N a b i)), .second, .val (.int (Int32.ofNat i)), .val (.int (((Int32.ofNat N) - (1 : Int32)) - (Int32.ofNat i)))] [(.long ((own_key N a b i) <<< ((2 : Int32) &&& 0x3f).toInt64))])) (fun _ kt => XS.lshl X3.here hx rfl (hb hby d27_27) rfl kt) ?_
      refine OFin.to (T3.setTop (mkF m 29 #[.val (.ref o), .val (.int a), .val (.int b), .val (.long (own_key N a b i)), .second, .val (.int (Int32.ofNat i)), .val (.int (((Int32.ofNat N) - (1 : Int32)) - (Int32.ofNat i)))] [(.int a), (.long ((own_key N a b i) <<< ((2 : Int32) &&& 0x3f).toInt64))])) (fun _ kt => XS.iloadN X3.here hx rfl (hb hby d27_28) rfl kt) ?_
      refine OFin.to (T3.setTop (mkF m 31 #[.val (.ref o), .val (.int a), .val (.int b), .val (.long (own_key N a b i)), .second, .val (.int (Int32.ofNat i)), .val (.int (((Int32.ofNat N) - (1 : Int32)) - (Int32.ofNat i)))] [(.int (((Int32.ofNat N) - (1 : Int32)) - (Int32.ofNat i))), (.int a), (.long ((own_key N a b i) <<< ((2 : Int32) &&& 0x3f).toInt64))])) (fun _ kt => XS.iload X3.here hx rfl (hb hby d27_29) rfl kt) ?_
      refine OFin.to (T3.setTop (mkF m 32 #[.val (.ref o), .val (.int a), .val (.int b), .val (.long (own_key N a b i)), .second, .val (.int (Int32.ofNat i)), .val (.int (((Int32.ofNat N) - (1 : Int32)) - (Int32.ofNat i)))] [(.int ((a.toUInt32 >>> ((((Int32.ofNat N) - (1 : Int32)) - (Int32.ofNat i)) &&& 31).toUInt32).toInt32)), (.long ((own_key N a b i) <<< ((2 : Int32) &&& 0x3f).toInt64))])) (fun _ kt => XS.iushr X3.here hx rfl (hb hby d27_31) rfl kt) ?_
      refine OFin.to (T3.setTop (mkF m 33 #[.val (.ref o), .val (.int a), .val (.int b), .val (.long (own_key N a b i)), .second, .val (.int (Int32.ofNat i)), .val (.int (((Int32.ofNat N) - (1 : Int32)) - (Int32.ofNat i)))] [(.int (1 : Int32)), (.int ((a.toUInt32 >>> ((((Int32.ofNat N) - (1 : Int32)) - (Int32.ofNat i)) &&& 31).toUInt32).toInt32)), (.long ((own_key N a b i) <<< ((2 : Int32) &&& 0x3f).toInt64))])) (fun _ kt => XS.iconst X3.here hx rfl (hb hby d27_32) kt) ?_
      refine OFin.to (T3.setTop (mkF m 34 #[.val (.ref o), .val (.int a), .val (.int b), .val (.long (own_key N a b i)), .second, .val (.int (Int32.ofNat i)), .val (.int (((Int32.ofNat N) - (1 : Int32)) - (Int32.ofNat i)))] [(.int (((a.toUInt32 >>> ((((Int32.ofNat N) - (1 : Int32)) - (Int32.ofNat i)) &&& 31).toUInt32).toInt32) &&& (1 : Int32))), (.long ((own_key N a b i) <<< ((2 : Int32) &&& 0x3f).toInt64))])) (fun _ kt => XS.iand X3.here hx rfl (hb hby d27_33) rfl kt) ?_
      refine OFin.to (T3.setTop (mkF m 35 #[.val (.ref o), .val (.int a), .val (.int b), .val (.long (own_key N a b i)), .second, .val (.int (Int32.ofNat i)), .val (.int (((Int32.ofNat N) - (1 : Int32)) - (Int32.ofNat i)))] [(.long ((((a.toUInt32 >>> ((((Int32.ofNat N) - (1 : Int32)) - (Int32.ofNat i)) &&& 31).toUInt32).toInt32) &&& (1 : Int32)).toInt64)), (.long ((own_key N a b i) <<< ((2 : Int32) &&& 0x3f).toInt64))])) (fun _ kt => XS.i2l X3.here hx rfl (hb hby d27_34) rfl kt) ?_
      refine OFin.to (T3.setTop (mkF m 36 #[.val (.ref o), .val (.int a), .val (.int b), .val (.long (own_key N a b i)), .second, .val (.int (Int32.ofNat i)), .val (.int (((Int32.ofNat N) - (1 : Int32)) - (Int32.ofNat i)))] [(.int (1 : Int32)), (.long ((((a.toUInt32 >>> ((((Int32.ofNat N) - (1 : Int32)) - (Int32.ofNat i)) &&& 31).toUInt32).toInt32) &&& (1 : Int32)).toInt64)), (.long ((own_key N a b i) <<< ((2 : Int32) &&& 0x3f).toInt64))])) (fun _ kt => XS.iconst X3.here hx rfl (hb hby d27_35) kt) ?_
      refine OFin.to (T3.setTop (mkF m 37 #[.val (.ref o), .val (.int a), .val (.int b), .val (.long (own_key N a b i)), .second, .val (.int (Int32.ofNat i)), .val (.int (((Int32.ofNat N) - (1 : Int32)) - (Int32.ofNat i)))] [(.long (((((a.toUInt32 >>> ((((Int32.ofNat N) - (1 : Int32)) - (Int32.ofNat i)) &&& 31).toUInt32).toInt32) &&& (1 : Int32)).toInt64) <<< ((1 : Int32) &&& 0x3f).toInt64)), (.long ((own_key N a b i) <<< ((2 : Int32) &&& 0x3f).toInt64))])) (fun _ kt => XS.lshl X3.here hx rfl (hb hby d27_36) rfl kt) ?_
      refine OFin.to (T3.setTop (mkF m 38 #[.val (.ref o), .val (.int a), .val (.int b), .val (.long (own_key N a b i)), .second, .val (.int (Int32.ofNat i)), .val (.int (((Int32.ofNat N) - (1 : Int32)) - (Int32.ofNat i)))] [(.long (((own_key N a b i) <<< ((2 : Int32) &&& 0x3f).toInt64) ||| (((((a.toUInt32 >>> ((((Int32.ofNat N) - (1 : Int32)) - (Int32.ofNat i)) &&& 31).toUInt32).toInt32) &&& (1 : Int32)).toInt64) <<< ((1 : Int32) &&& 0x3f).toInt64)))])) (fun _ kt => XS.lor X3.here hx rfl (hb hby d27_37) rfl kt) ?_
      refine OFin.to (T3.setTop (mkF m 39 #[.val (.ref o), .val (.int a), .val (.int b), .val (.long (own_key N a b i)), .second, .val (.int (Int32.ofNat i)), .val (.int (((Int32.ofNat N) - (1 : Int32)) - (Int32.ofNat i)))] [(.int b), (.long (((own_key N a b i) <<< ((2 : Int32) &&& 0x3f).toInt64) ||| (((((a.toUInt32 >>> ((((Int32.ofNat N) - (1 : Int32)) - (Int32.ofNat i)) &&& 31).toUInt32).toInt32) &&& (1 : Int32)).toInt64) <<< ((1 : Int32) &&& 0x3f).toInt64)))])) (fun _ kt => XS.iloadN X3.here hx rfl (hb hby d27_38) rfl kt) ?_
      refine OFin.to (T3.setTop (mkF m 41 #[.val (.ref o), .val (.int a), .val (.int b), .val (.long (own_key N a b i)), .second, .val (.int (Int32.ofNat i)), .val (.int (((Int32.ofNat N) - (1 : Int32)) - (Int32.ofNat i)))] [(.int (((Int32.ofNat N) - (1 : Int32)) - (Int32.ofNat i))), (.int b), (.long (((own_key N a b i) <<< ((2 : Int32) &&& 0x3f).toInt64) ||| (((((a.toUInt32 >>> ((((Int32.ofNat N) - (1 : Int32)) - (Int32.ofNat i)) &&& 31).toUInt32).toInt32) &&& (1 : Int32)).toInt64) <<< ((1 : Int32) &&& 0x3f).toInt64)))])) (fun _ kt => XS.iload X3.here hx rfl (hb hby d27_39) rfl kt) ?_
      refine OFin.to (T3.setTop (mkF m 42 #[.val (.ref o), .val (.int a), .val (.int b), .val (.long (own_key N a b i)), .second, .val (.int (Int32.ofNat i)), .val (.int (((Int32.ofNat N) - (1 : Int32)) - (Int32.ofNat i)))] [(.int ((b.toUInt32 >>> ((((Int32.ofNat N) - (1 : Int32)) - (Int32.ofNat i)) &&& 31).toUInt32).toInt32)), (.long (((own_key N a b i) <<< ((2 : Int32) &&& 0x3f).toInt64) ||| (((((a.toUInt32 >>> ((((Int32.ofNat N) - (1 : Int32)) - (Int32.ofNat i)) &&& 31).toUInt32).toInt32) &&& (1 : Int32)).toInt64) <<< ((1 : Int32) &&& 0x3f).toInt64)))])) (fun _ kt => XS.iushr X3.here hx rfl (hb hby d27_41) rfl kt) ?_
      refine OFin.to (T3.setTop (mkF m 43 #[.val (.ref o), .val (.int a), .val (.int b), .val (.long (own_key N a b i)), .second, .val (.int (Int32.ofNat i)), .val (.int (((Int32.ofNat N) - (1 : Int32)) - (Int32.ofNat i)))] [(.int (1 : Int32)), (.int ((b.toUInt32 >>> ((((Int32.ofNat N) - (1 : Int32)) - (Int32.ofNat i)) &&& 31).toUInt32).toInt32)), (.long (((own_key N a b i) <<< ((2 : Int32) &&& 0x3f).toInt64) ||| (((((a.toUInt32 >>> ((((Int32.ofNat N) - (1 : Int32)) - (Int32.ofNat i)) &&& 31).toUInt32).toInt32) &&& (1 : Int32)).toInt64) <<< ((1 : Int32) &&& 0x3f).toInt64)))])) (fun _ kt => XS.iconst X3.here hx rfl (hb hby d27_42) kt) ?_
      refine OFin.to (T3.setTop (mkF m 44 #[.val (.ref o), .val (.int a), .val (.int b), .val (.long (own_key N a b i)), .second, .val (.int (Int32.ofNat i)), .val (.int (((Int32.ofNat N) - (1 : Int32)) - (Int32.ofNat i)))] [(.int (((b.toUInt32 >>> ((((Int32.ofNat N) - (1 : Int32)) - (Int32.ofNat i)) &&& 31).toUInt32).toInt32) &&& (1 : Int32))), (.long (((own_key N a b i) <<< ((2 : Int32) &&& 0x3f).toInt64) ||| (((((a.toUInt32 >>> ((((Int32.ofNat N) - (1 : Int32)) - (Int32.ofNat i)) &&& 31).toUInt32).toInt32) &&& (1 : Int32)).toInt64) <<< ((1 : Int32) &&& 0x3f).toInt64)))])) (fun _ kt => XS.iand X3.here hx rfl (hb hby d27_43) rfl kt) ?_
      refine OFin.to (T3.setTop (mkF m 45 #[.val (.ref o), .val (.int a), .val (.int b), .val (.long (own_key N a b i)), .second, .val (.int (Int32.ofNat i)), .val (.int (((Int32.ofNat N) - (1 : Int32)) - (Int32.ofNat i)))] [(.long ((((b.toUInt32 >>> ((((Int32.ofNat N) - (1 : Int32)) - (Int32.ofNat i)) &&& 31).toUInt32).toInt32) &&& (1 : Int32)).toInt64)), (.long (((own_key N a b i) <<< ((2 : Int32) &&& 0x3f).toInt64) ||| (((((a.toUInt32 >>> ((((Int32.ofNat N) - (1 : Int32)) - (Int32.ofNat i)) &&& 31).toUInt32).toInt32) &&& (1 : Int32)).toInt64) <<< ((1 : Int32) &&& 0x3f).toInt64)))])) (fun _ kt => XS.i2l X3.here hx rfl (hb hby d27_44) rfl kt) ?_
      refine OFin.to (T3.setTop (mkF m 46 #[.val (.ref o), .val (.int a), .val (.int b), .val (.long (own_key N a b i)), .second, .val (.int (Int32.ofNat i)), .val (.int (((Int32.ofNat N) - (1 : Int32)) - (Int32.ofNat i)))] [(.long ((((own_key N a b i) <<< ((2 : Int32) &&& 0x3f).toInt64) ||| (((((a.toUInt32 >>> ((((Int32.ofNat N) - (1 : Int32)) - (Int32.ofNat i)) &&& 31).toUInt32).toInt32) &&& (1 : Int32)).toInt64) <<< ((1 : Int32) &&& 0x3f).toInt64)) ||| ((((b.toUInt32 >>> ((((Int32.ofNat N) - (1 : Int32)) - (Int32.ofNat i)) &&& 31).toUInt32).toInt32) &&& (1 : Int32)).toInt64)))])) (fun _ kt => XS.lor X3.here hx rfl (hb hby d27_45) rfl kt) ?_
      refine OFin.to (T3.setTop (mkF m 47 #[.val (.ref o), .val (.int a), .val (.int b), .val (.long ((((own_key N a b i) <<< ((2 : Int32) &&& 0x3f).toInt64) ||| (((((a.toUInt32 >>> ((((Int32.ofNat N) - (1 : Int32)) - (Int32.ofNat i)) &&& 31).toUInt32).toInt32) &&& (1 : Int32)).toInt64) <<< ((1 : Int32) &&& 0x3f).toInt64)) ||| ((((b.toUInt32 >>> ((((Int32.ofNat N) - (1 : Int32)) - (Int32.ofNat i)) &&& 31).toUInt32).toInt32) &&& (1 : Int32)).toInt64))), .second, .val (.int (Int32.ofNat i)), .val (.int (((Int32.ofNat N) - (1 : Int32)) - (Int32.ofNat i)))] [])) (fun _ kt => XS.lstoreN X3.here hx rfl (hb hby d27_46) rfl (l' := #[.val (.ref o), .val (.int a), .val (.int b), .val (.long ((((own_key N a b i) <<< ((2 : Int32) &&& 0x3f).toInt64) ||| (((((a.toUInt32 >>> ((((Int32.ofNat N) - (1 : Int32)) - (Int32.ofNat i)) &&& 31).toUInt32).toInt32) &&& (1 : Int32)).toInt64) <<< ((1 : Int32) &&& 0x3f).toInt64)) ||| ((((b.toUInt32 >>> ((((Int32.ofNat N) - (1 : Int32)) - (Int32.ofNat i)) &&& 31).toUInt32).toInt32) &&& (1 : Int32)).toInt64))), .second, .val (.int (Int32.ofNat i)), .val (.int (((Int32.ofNat N) - (1 : Int32)) - (Int32.ofNat i)))]) rfl kt) ?_
      refine OFin.to (T3.setTop (mkF m 50 #[.val (.ref o), .val (.int a), .val (.int b), .val (.long ((((own_key N a b i) <<< ((2 : Int32) &&& 0x3f).toInt64) ||| (((((a.toUInt32 >>> ((((Int32.ofNat N) - (1 : Int32)) - (Int32.ofNat i)) &&& 31).toUInt32).toInt32) &&& (1 : Int32)).toInt64) <<< ((1 : Int32) &&& 0x3f).toInt64)) ||| ((((b.toUInt32 >>> ((((Int32.ofNat N) - (1 : Int32)) - (Int32.ofNat i)) &&& 31).toUInt32).toInt32) &&& (1 : Int32)).toInt64))), .second, .val (.int ((Int32.ofNat i) + (1 : Int32))), .val (.int (((Int32.ofNat N) - (1 : Int32)) - (Int32.ofNat i)))] [])) (fun _ kt => XS.iinc X3.here hx rfl (hb hby d27_47) rfl (l' := #[.val (.ref o), .val (.int a), .val (.int b), .val (.long ((((own_key N a b i) <<< ((2 : Int32) &&& 0x3f).toInt64) ||| (((((a.toUInt32 >>> ((((Int32.ofNat N) - (1 : Int32)) - (Int32.ofNat i)) &&& 31).toUInt32).toInt32) &&& (1 : Int32)).toInt64) <<< ((1 : Int32) &&& 0x3f).toInt64)) ||| ((((b.toUInt32 >>> ((((Int32.ofNat N) - (1 : Int32)) - (Int32.ofNat i)) &&& 31).toUInt32).toInt32) &&& (1 : Int32)).toInt64))), .second, .val (.int ((Int32.ofNat i) + (1 : Int32))), .val (.int (((Int32.ofNat N) - (1 : Int32)) - (Int32.ofNat i)))]) rfl kt) ?_
      refine OFin.to (T3.setTop (mkF m 5 #[.val (.ref o), .val (.int a), .val (.int b), .val (.long ((((own_key N a b i) <<< ((2 : Int32) &&& 0x3f).toInt64) ||| (((((a.toUInt32 >>> ((((Int32.ofNat N) - (1 : Int32)) - (Int32.ofNat i)) &&& 31).toUInt32).toInt32) &&& (1 : Int32)).toInt64) <<< ((1 : Int32) &&& 0x3f).toInt64)) ||| ((((b.toUInt32 >>> ((((Int32.ofNat N) - (1 : Int32)) - (Int32.ofNat i)) &&& 31).toUInt32).toInt32) &&& (1 : Int32)).toInt64))), .second, .val (.int ((Int32.ofNat i) + (1 : Int32))), .val (.int (((Int32.ofNat N) - (1 : Int32)) - (Int32.ofNat i)))] [])) (fun _ kt => XS.goto X3.here hx rfl (pc0 := 50) (pc' := 5) rfl (hb hby d27_50) (by decide) (by decide) kt) ?_
      rw [show Int32.ofNat i + (1 : Int32) = Int32.ofNat (i + 1) from own_ofAdd i 1]
      exact ih (i + 1) T3 (.val (.int (((Int32.ofNat N) - (1 : Int32)) - (Int32.ofNat i)))) (by omega) (One.val rfl) X3 e3
  refine OFin.to (s₁.setTop (mkF m 1 #[.val (.ref o), .val (.int a), .val (.int b), .unset, .unset, .unset, .unset] [(.long (0 : Int64))])) (fun _ kt => XS.lconst X0.here hx rfl (hb hby d27_0) kt) ?_
  refine OFin.to (s₁.setTop (mkF m 2 #[.val (.ref o), .val (.int a), .val (.int b), .val (.long (0 : Int64)), .second, .unset, .unset] [])) (fun _ kt => XS.lstoreN X0.here hx rfl (hb hby d27_1) rfl (l' := #[.val (.ref o), .val (.int a), .val (.int b), .val (.long (0 : Int64)), .second, .unset, .unset]) rfl kt) ?_
  refine OFin.to (s₁.setTop (mkF m 3 #[.val (.ref o), .val (.int a), .val (.int b), .val (.long (0 : Int64)), .second, .unset, .unset] [(.int (0 : Int32))])) (fun _ kt => XS.iconst X0.here hx rfl (hb hby d27_2) kt) ?_
  refine OFin.to (s₁.setTop (mkF m 5 #[.val (.ref o), .val (.int a), .val (.int b), .val (.long (0 : Int64)), .second, .val (.int (0 : Int32)), .unset] [])) (fun _ kt => XS.istore X0.here hx rfl (hb hby d27_3) rfl (l' := #[.val (.ref o), .val (.int a), .val (.int b), .val (.long (0 : Int64)), .second, .val (.int (0 : Int32)), .unset]) rfl kt) ?_
  exact LP N 0 s₁ .unset (by omega) One.u X0 e0
/-- bit j -/
def own_bt (a : Int32) (j : Nat) : Int32 := (((a.toUInt32 >>> ((Int32.ofNat j) &&& 31).toUInt32).toInt32) &&& (1 : Int32))
theorem own_bt01 (a : Int32) (j : Nat) : (own_bt a j).toInt = 0 ∨ (own_bt a j).toInt = 1 := by
  rcases and_one ((a.toUInt32 >>> ((Int32.ofNat j) &&& 31).toUInt32).toInt32) with h | h
  · left; rw [own_bt, h]; rfl
  · right; rw [own_bt, h]; rfl
theorem own_keyE (N : Nat) (a b : Int32) (i : Nat) (hi : i < N) : own_key N a b (i + 1) = (((own_key N a b i) <<< ((2 : Int32) &&& 0x3f).toInt64) ||| (((own_bt a (N - 1 - i)).toInt64) <<< ((1 : Int32) &&& 0x3f).toInt64)) ||| ((own_bt b (N - 1 - i)).toInt64) := by
  have e : ((Int32.ofNat N) - (1 : Int32)) - (Int32.ofNat i) = Int32.ofNat (N - 1 - i) := by
    rw [Int32.ofNat_sub (N - 1) i (by omega), Int32.ofNat_sub N 1 (by omega)]; rfl
  show (((own_key N a b i) <<< ((2 : Int32) &&& 0x3f).toInt64) ||| (((((a.toUInt32 >>> ((((Int32.ofNat N) - (1 : Int32)) - (Int32.ofNat i)) &&& 31).toUInt32).toInt32) &&& (1 : Int32)).toInt64) <<< ((1 : Int32) &&& 0x3f).toInt64)) ||| (((((b.toUInt32 >>> ((((Int32.ofNat N) - (1 : Int32)) - (Int32.ofNat i)) &&& 31).toUInt32).toInt32) &&& (1 : Int32)).toInt64)) = _
  rw [e]; rfl
theorem own_keyS (N : Nat) (a b : Int32) (i : Nat) (hi : i < N) (h0 : 0 ≤ (own_key N a b i).toInt) (h1 : (own_key N a b i).toInt < 1152921504606846976) : (own_key N a b (i + 1)).toInt = 4 * (own_key N a b i).toInt + 2 * (own_bt a (N - 1 - i)).toInt + (own_bt b (N - 1 - i)).toInt := by
  rw [own_keyE N a b i hi]
  have sa := own_bt01 a (N - 1 - i)
  have sb := own_bt01 b (N - 1 - i)
  generalize own_bt a (N - 1 - i) = x at sa ⊢
  generalize own_bt b (N - 1 - i) = y at sb ⊢
  generalize own_key N a b i = k at h0 h1 ⊢
  have cx := c_i2l x
  have cy := c_i2l y
  have q1 := c_lshl k 2 2 (by decide)
  have q2 := c_lshl (x.toInt64) 1 1 (by decide)
  have r1 := rng64 (k <<< ((2 : Int32) &&& 0x3f).toInt64)
  have r2 := rng64 ((x.toInt64) <<< ((1 : Int32) &&& 0x3f).toInt64)
  generalize k <<< ((2 : Int32) &&& 0x3f).toInt64 = k4 at q1 r1 ⊢
  generalize (x.toInt64) <<< ((1 : Int32) &&& 0x3f).toInt64 = x2 at q2 r2 ⊢
  have e1 : k4.toInt = 4 * k.toInt := by omega
  have e2 : x2.toInt = 2 * x.toInt := by omega
  have q3 := c_orL k4 x2 2 (by decide) 4 (by decide) (by omega) (by omega) (by omega)
  have r3 := rng64 (k4 ||| x2)
  have q4 := c_orL (k4 ||| x2) (y.toInt64) 1 (by decide) 2 (by decide) (by omega) (by omega) (by omega)
  have r4 := rng64 (k4 ||| x2 ||| y.toInt64)
  omega
theorem own_keyB (N : Nat) (a b : Int32) (hN : N ≤ 31) : ∀ i, i ≤ N → 0 ≤ (own_key N a b i).toInt ∧ (own_key N a b i).toInt < ((4 ^ i : Nat) : Int) := by
  intro i
  induction i with
  | zero =>
    intro _
    show 0 ≤ (0 : Int64).toInt ∧ (0 : Int64).toInt < ((4 ^ 0 : Nat) : Int)
    decide
  | succ i ih =>
    intro hi
    obtain ⟨h0, h1⟩ := ih (by omega)
    have hp : (4 ^ i : Nat) ≤ 4 ^ 30 := Nat.pow_le_pow_right (by decide) (by omega)
    have h30 : (4 ^ 30 : Nat) = 1152921504606846976 := by decide
    have s := own_keyS N a b i (by omega) h0 (by omega)
    have sa := own_bt01 a (N - 1 - i)
    have sb := own_bt01 b (N - 1 - i)
    have hs : (4 ^ (i + 1) : Nat) = 4 ^ i * 4 := Nat.pow_succ 4 i
    rw [hs]
    omega
theorem own_keyN (N : Nat) (a b : Int32) (hN : N ≤ 31) (i : Nat) (hi : i < N) : (own_key N a b (i + 1)).toInt = 4 * (own_key N a b i).toInt + 2 * (own_bt a (N - 1 - i)).toInt + (own_bt b (N - 1 - i)).toInt := by
  obtain ⟨h0, h1⟩ := own_keyB N a b hN i (by omega)
  have hp : (4 ^ i : Nat) ≤ 4 ^ 30 := Nat.pow_le_pow_right (by decide) (by omega)
  have h30 : (4 ^ 30 : Nat) = 1152921504606846976 := by decide
  exact own_keyS N a b i hi h0 (by omega)
theorem own_keyD (N : Nat) (a b : Int32) (hN : N ≤ 31) : ∀ j, j ≤ N → (own_key N a b N).toInt / ((4 ^ j : Nat) : Int) = (own_key N a b (N - j)).toInt := by
  intro j
  induction j with
  | zero => intro _; simp
  | succ j ih =>
    intro hj
    have h := ih (by omega)
    have hs : ((4 ^ (j + 1) : Nat) : Int) = ((4 ^ j : Nat) : Int) * 4 := by rw [Nat.pow_succ]; simp
    rw [hs, ← Int.ediv_ediv_of_nonneg (Int.natCast_nonneg _), h]
    have s := own_keyN N a b hN (N - (j + 1)) (by omega)
    rw [show N - (j + 1) + 1 = N - j by omega] at s
    have sa := own_bt01 a (N - 1 - (N - (j + 1)))
    have sb := own_bt01 b (N - 1 - (N - (j + 1)))
    omega
theorem own_key62 (N : Nat) (a b : Int32) (hN : N ≤ 31) : 0 ≤ (own_key N a b N).toInt ∧ (own_key N a b N).toInt < 4611686018427387904 := by
  obtain ⟨h0, h1⟩ := own_keyB N a b hN N (Nat.le_refl _)
  have hp : (4 ^ N : Nat) ≤ 4 ^ 31 := Nat.pow_le_pow_right (by decide) hN
  have h31 : (4 ^ 31 : Nat) = 4611686018427387904 := by decide
  exact ⟨h0, by omega⟩
theorem own_two : ∀ k : Fin 32, ((2 : Int32) * Int32.ofNat k.1).toBitVec.toNat % 64 = 2 * k.1 ∧ (((2 : Int32) * Int32.ofNat k.1) + (1 : Int32)).toBitVec.toNat % 64 = (2 * k.1 + 1) % 64 := by decide +kernel
theorem own_4 (k : Nat) : 2 ^ (2 * k) = 4 ^ k := by rw [Nat.pow_mul]
theorem own_sh (x : Int64) (hx : 0 ≤ x.toInt) (k : Nat) (hk : k ≤ 31) : ((x.toUInt64 >>> (((2 : Int32) * (Int32.ofNat k)) &&& 0x3f).toInt64.toUInt64).toInt64).toInt = x.toInt / ((4 ^ k : Nat) : Int) := by
  by_cases h : k = 0
  · subst h
    rw [show (((2 : Int32) * (Int32.ofNat 0)) &&& 0x3f).toInt64.toUInt64 = 0 from by decide]
    simp
  · have q := c_lushr x ((2 : Int32) * (Int32.ofNat k)) (2 * k) (own_two ⟨k, by omega⟩).1 (by omega)
    rw [q, own_4]
    have r := rng64 x
    rw [Int.emod_eq_of_lt hx (by omega)]
theorem own_sh1 (x : Int64) (hx : 0 ≤ x.toInt) (k : Nat) (hk : k < 31) : ((x.toUInt64 >>> ((((2 : Int32) * (Int32.ofNat k)) + (1 : Int32)) &&& 0x3f).toInt64.toUInt64).toInt64).toInt = x.toInt / ((4 ^ k : Nat) : Int) / 2 := by
  have q := c_lushr x (((2 : Int32) * (Int32.ofNat k)) + (1 : Int32)) (2 * k + 1) (by rw [(own_two ⟨k, by omega⟩).2]; exact Nat.mod_eq_of_lt (by omega)) (by omega)
  have r := rng64 x
  rw [q, Int.emod_eq_of_lt hx (by omega), Nat.pow_succ, own_4, Int.ediv_ediv_of_nonneg (Int.natCast_nonneg _)]
  simp
theorem own_high (N : Nat) (a b : Int32) (hN : N ≤ 31) : (((own_key N a b N).toUInt64 >>> (((2 : Int32) * (Int32.ofNat N)) &&& 0x3f).toInt64.toUInt64).toInt64) = (0 : Int64) := by
  obtain ⟨h0, h1⟩ := own_keyB N a b hN N (Nat.le_refl _)
  apply Int64.toInt_inj.mp
  rw [own_sh _ h0 N hN, Int.ediv_eq_zero_of_lt h0 h1]
  rfl
theorem own_last (N k : Nat) (a b : Int32) (hN : N ≤ 31) (hk : k < N) : (own_key N a b N).toInt / ((4 ^ k : Nat) : Int) = 4 * (own_key N a b (N - k - 1)).toInt + 2 * (own_bt a k).toInt + (own_bt b k).toInt := by
  rw [own_keyD N a b hN k (by omega)]
  have s := own_keyN N a b hN (N - k - 1) (by omega)
  rw [show N - k - 1 + 1 = N - k by omega, show N - 1 - (N - k - 1) = k by omega] at s
  exact s
theorem own_bitS (N k : Nat) (a b : Int32) (hN : N ≤ 31) (hk : k < N) : ((((own_key N a b N).toUInt64 >>> ((((2 : Int32) * (Int32.ofNat k)) + (1 : Int32)) &&& 0x3f).toInt64.toUInt64).toInt64) &&& (1 : Int64)) = ((((a.toUInt32 >>> ((Int32.ofNat k) &&& 31).toUInt32).toInt32) &&& (1 : Int32)).toInt64) := by
  apply Int64.toInt_inj.mp
  have m := c_maskL (((own_key N a b N).toUInt64 >>> ((((2 : Int32) * (Int32.ofNat k)) + (1 : Int32)) &&& 0x3f).toInt64.toUInt64).toInt64) 1 1 (by decide) (by decide)
  have e := own_sh1 (own_key N a b N) (own_key62 N a b hN).1 k (by omega)
  rw [own_last N k a b hN hk] at e
  rw [m, e]
  show _ = ((own_bt a k).toInt64).toInt
  rw [c_i2l]
  have sa := own_bt01 a k
  have sb := own_bt01 b k
  omega
theorem own_bitT (N k : Nat) (a b : Int32) (hN : N ≤ 31) (hk : k < N) : ((((own_key N a b N).toUInt64 >>> (((2 : Int32) * (Int32.ofNat k)) &&& 0x3f).toInt64.toUInt64).toInt64) &&& (1 : Int64)) = ((((b.toUInt32 >>> ((Int32.ofNat k) &&& 31).toUInt32).toInt32) &&& (1 : Int32)).toInt64) := by
  apply Int64.toInt_inj.mp
  have m := c_maskL (((own_key N a b N).toUInt64 >>> (((2 : Int32) * (Int32.ofNat k)) &&& 0x3f).toInt64.toUInt64).toInt64) 1 1 (by decide) (by decide)
  have e := own_sh (own_key N a b N) (own_key62 N a b hN).1 k (by omega)
  rw [own_last N k a b hN hk] at e
  rw [m, e]
  show _ = ((own_bt b k).toInt64).toInt
  rw [c_i2l]
  have sa := own_bt01 a k
  have sb := own_bt01 b k
  omega
theorem own_sc (x y : Int32) : 1 ≤ (f1_0 (1 : Int32) ((((x &&& (2147483647 : Int32)).toUInt32 >>> ((y &&& (31 : Int32)) &&& 31).toUInt32).toInt32))).toInt := by
  generalize (((x &&& (2147483647 : Int32)).toUInt32 >>> ((y &&& (31 : Int32)) &&& 31).toUInt32).toInt32) = z
  have k : (1 : Int32).toInt = 1 := rfl
  show 1 ≤ (if (1 : Int32) < z then z else (1 : Int32)).toInt
  by_cases h : (1 : Int32) < z
  · rw [if_pos h]
    rw [Int32.lt_iff_toInt_lt] at h
    omega
  · rw [if_neg h]; omega
theorem own_pwprev (N : Nat) (sc : Int32) (hN : N ≤ 31) (h0 : 0 < N) (h : ((2 ^ (N - 1) : Nat) : Int) < sc.toInt) : ((1 : Int64) <<< (((Int32.ofNat N) - (1 : Int32)) &&& 0x3f).toInt64) < (sc.toInt64) := by
  rw [show Int32.ofNat N - (1 : Int32) = Int32.ofNat (N - 1) from (Int32.ofNat_sub N 1 h0).symm]
  exact own_pwlt (N - 1) sc hN (by omega) h
theorem pn_0 : plainName "com/example/fixpoint_checker/fixpointchecker/symbolic/StateEncodingPairKeyPinLaw" = true := by first | (simp [plainName, overriddenIn]; done) | decide +kernel
theorem ef_0 (m : MethodId) (p0 : Int32) (p1 : Int32) (p2 : Int32) (p3 : Int32) (p4 : Int32) : entryFrame m #[(.int p0), (.int p1), (.int p2), (.int p3), (.int p4)] maxLocals = mkF m 0 #[.val (.int p0), .val (.int p1), .val (.int p2), .val (.int p3), .val (.int p4), .unset, .unset, .unset, .unset, .unset, .unset, .unset, .unset, .unset, .unset, .unset, .unset, .unset] [] := by first | (simp [entryFrame, mkF, argsToLocals, Value.category, maxLocals]; done) | rfl
set_option maxRecDepth 65536 in
set_option maxHeartbeats 40000000 in
theorem rm0 (l : Launch) (Z : State) (a0 : Array Value) (hw : ∀ d ∈ tables_1, d.before a0 Z = true) (ws : List Jvm.Cond) (p0 : Int32) (p1 : Int32) (p2 : Int32) (p3 : Int32) (p4 : Int32) (h0 : Heap) (aS : Addr) (HS : Sta Z Z.heap "java/util/ArrayList" "DEFAULTCAPACITY_EMPTY_ELEMENTDATA" "[Ljava/lang/Object;" (.ref aS)) (HOld : Old Z h0.size h0) :
    MetFree l x (head1 (Jvm.Cond.code x code maxLocals ret :: ws) (room_1)) (fun a_ U => a_ = #[(.int p0), (.int p1), (.int p2), (.int p3), (.int p4)] ∧ Z.Warmed39 U.vm ∧ U.heap = h0) (fun _ _ _ _ _ => True) (fun _ U o_ U' => ∃ v L, o_ = .returned v ∧ OQ (fun v h L => v = some (.int (1 : Int32)) ∧ Fr h0.size L) v U'.heap L ∧ FrameEnd U o_ U' L (room_1).cells (room_1).slots) := by
  refine MetFree.of_bodySF (plainFor_of_name pn_0) hisR ?_
  intro p e s m args below meth c s₁ Bd hml0 hP hK
  obtain ⟨rfl, hZ, hh⟩ := hP
  have hx := Bd.exec
  have hby := Bd.bytes
  have hml : c.maxLocals = 18 := hml0
  have hown : s.vm.findClass "com/example/fixpoint_checker/fixpointchecker/symbolic/StateEncodingPairKeyPinLaw" = some m.cls := findClass_of_methodNamed Bd.named
  have hnm := (name_of_methodNamed Bd.named Bd.method).1
  have hret := Bd.returns
  have hlk : meth.locks = false := Bd.notSynchronized
  have X0 : Stand p l e (room_1) s m #[(.int p0), (.int p1), (.int p2), (.int p3), (.int p4)] below meth c s₁ [] 0 0 := Stand.of_body Bd
  have e0 : s₁.heap = h0 := by rw [← hh, Bd.state]; rfl
  refine OFin.start (Q := fun v h L => v = some (.int (1 : Int32)) ∧ Fr h0.size L) (s := s) (fun t kt => castTop (ef_0 m p0 p1 p2 p3 p4) kt) ?_
  refine OFin.to (s₁.setTop (mkF m 1 #[.val (.int p0), .val (.int p1), .val (.int p2), .val (.int p3), .val (.int p4), .unset, .unset, .unset, .unset, .unset, .unset, .unset, .unset, .unset, .unset, .unset, .unset, .unset] [(.int (1 : Int32))])) (fun _ kt => XS.iconst X0.here hx rfl (hb hby at_0) kt) ?_
  refine OFin.to (s₁.setTop (mkF m 2 #[.val (.int p0), .val (.int p1), .val (.int p2), .val (.int p3), .val (.int p4), .unset, .unset, .unset, .unset, .unset, .unset, .unset, .unset, .unset, .unset, .unset, .unset, .unset] [(.int p0), (.int (1 : Int32))])) (fun _ kt => XS.iloadN X0.here hx rfl (hb hby at_1) rfl kt) ?_
  refine OFin.to (s₁.setTop (mkF m 4 #[.val (.int p0), .val (.int p1), .val (.int p2), .val (.int p3), .val (.int p4), .unset, .unset, .unset, .unset, .unset, .unset, .unset, .unset, .unset, .unset, .unset, .unset, .unset] [(.int (2147483647 : Int32)), (.int p0), (.int (1 : Int32))])) (fun _ kt => X0.ldcI hx hown (mvT hZ (hw _ (List.mem_of_getElem? (i := 0) rfl))) (g := (mkF m 2 #[.val (.int p0), .val (.int p1), .val (.int p2), .val (.int p3), .val (.int p4), .unset, .unset, .unset, .unset, .unset, .unset, .unset, .unset, .unset, .unset, .unset, .unset, .unset] [(.int p0), (.int (1 : Int32))])) rfl (hb hby at_2) kt) ?_
  refine OFin.to (s₁.setTop (mkF m 5 #[.val (.int p0), .val (.int p1), .val (.int p2), .val (.int p3), .val (.int p4), .unset, .unset, .unset, .unset, .unset, .unset, .unset, .unset, .unset, .unset, .unset, .unset, .unset] [(.int (p0 &&& (2147483647 : Int32))), (.int (1 : Int32))])) (fun _ kt => XS.iand X0.here hx rfl (hb hby at_4) rfl kt) ?_
  refine OFin.to (s₁.setTop (mkF m 6 #[.val (.int p0), .val (.int p1), .val (.int p2), .val (.int p3), .val (.int p4), .unset, .unset, .unset, .unset, .unset, .unset, .unset, .unset, .unset, .unset, .unset, .unset, .unset] [(.int p1), (.int (p0 &&& (2147483647 : Int32))), (.int (1 : Int32))])) (fun _ kt => XS.iloadN X0.here hx rfl (hb hby at_5) rfl kt) ?_
  refine OFin.to (s₁.setTop (mkF m 8 #[.val (.int p0), .val (.int p1), .val (.int p2), .val (.int p3), .val (.int p4), .unset, .unset, .unset, .unset, .unset, .unset, .unset, .unset, .unset, .unset, .unset, .unset, .unset] [(.int (31 : Int32)), (.int p1), (.int (p0 &&& (2147483647 : Int32))), (.int (1 : Int32))])) (fun _ kt => XS.bipush X0.here hx rfl (hb hby at_6) kt) ?_
  refine OFin.to (s₁.setTop (mkF m 9 #[.val (.int p0), .val (.int p1), .val (.int p2), .val (.int p3), .val (.int p4), .unset, .unset, .unset, .unset, .unset, .unset, .unset, .unset, .unset, .unset, .unset, .unset, .unset] [(.int (p1 &&& (31 : Int32))), (.int (p0 &&& (2147483647 : Int32))), (.int (1 : Int32))])) (fun _ kt => XS.iand X0.here hx rfl (hb hby at_8) rfl kt) ?_
  refine OFin.to (s₁.setTop (mkF m 10 #[.val (.int p0), .val (.int p1), .val (.int p2), .val (.int p3), .val (.int p4), .unset, .unset, .unset, .unset, .unset, .unset, .unset, .unset, .unset, .unset, .unset, .unset, .unset] [(.int (((p0 &&& (2147483647 : Int32)).toUInt32 >>> ((p1 &&& (31 : Int32)) &&& 31).toUInt32).toInt32)), (.int (1 : Int32))])) (fun _ kt => XS.iushr X0.here hx rfl (hb hby at_9) rfl kt) ?_
  obtain ⟨v1, T1, L1, hQ1, X1, st1⟩ := own_callS X0 hx hZ hown (hw _ (List.mem_of_getElem? (i := 1) rfl)) (hw _ (List.mem_of_getElem? (i := 2) rfl)) (hw _ (List.mem_of_getElem? (i := 3) rfl)) (hw _ (List.mem_of_getElem? (i := 4) rfl)) (by decide) e0 (rm1 l Z a0 hw [] (1 : Int32) (((p0 &&& (2147483647 : Int32)).toUInt32 >>> ((p1 &&& (31 : Int32)) &&& 31).toUInt32).toInt32) h0) 0 (by decide) (by decide) (by decide) (by decide) (g := (mkF m 10 #[.val (.int p0), .val (.int p1), .val (.int p2), .val (.int p3), .val (.int p4), .unset, .unset, .unset, .unset, .unset, .unset, .unset, .unset, .unset, .unset, .unset, .unset, .unset] [(.int (((p0 &&& (2147483647 : Int32)).toUInt32 >>> ((p1 &&& (31 : Int32)) &&& 31).toUInt32).toInt32)), (.int (1 : Int32))])) rfl (by rw [hml]; rfl) (rest := []) (lenOf pd_2 rfl) rfl (by show 2 * 0 + _ ≤ _; exact Nat.le_of_eq rfl) (hb hby at_10)
  obtain ⟨rfl, e1, rfl⟩ := hQ1
  rw [List.append_nil] at X1
  refine OFin.to (T1.setTop (mkF m 13 #[.val (.int p0), .val (.int p1), .val (.int p2), .val (.int p3), .val (.int p4), .unset, .unset, .unset, .unset, .unset, .unset, .unset, .unset, .unset, .unset, .unset, .unset, .unset] [(.int (f1_0 (1 : Int32) (((p0 &&& (2147483647 : Int32)).toUInt32 >>> ((p1 &&& (31 : Int32)) &&& 31).toUInt32).toInt32)))])) st1 ?_
  have hsc := own_sc p0 p1
  generalize (f1_0 (1 : Int32) (((p0 &&& (2147483647 : Int32)).toUInt32 >>> ((p1 &&& (31 : Int32)) &&& 31).toUInt32).toInt32)) = sc at hsc ⊢
  refine OFin.to (T1.setTop (mkF m 15 #[.val (.int p0), .val (.int p1), .val (.int p2), .val (.int p3), .val (.int p4), .val (.int sc), .unset, .unset, .unset, .unset, .unset, .unset, .unset, .unset, .unset, .unset, .unset, .unset] [])) (fun _ kt => XS.istore X1.here hx rfl (hb hby at_13) rfl (l' := #[.val (.int p0), .val (.int p1), .val (.int p2), .val (.int p3), .val (.int p4), .val (.int sc), .unset, .unset, .unset, .unset, .unset, .unset, .unset, .unset, .unset, .unset, .unset, .unset]) rfl kt) ?_
  obtain ⟨T2, h2, X2, e2, E2, A2, D2, -, st2⟩ := newO X1 hx hZ hown (hw _ (List.mem_of_getElem? (i := 5) rfl)) (hw _ (List.mem_of_getElem? (i := 6) rfl)) (hw _ (List.mem_of_getElem? (i := 7) rfl)) e1 (g := (mkF m 15 #[.val (.int p0), .val (.int p1), .val (.int p2), .val (.int p3), .val (.int p4), .val (.int sc), .unset, .unset, .unset, .unset, .unset, .unset, .unset, .unset, .unset, .unset, .unset, .unset] [])) rfl (hb hby at_15) (by decide) (by decide)
  obtain ⟨b2, g2⟩ : ∃ z, z = h0.size := ⟨_, rfl⟩
  rw [← g2] at A2 D2 st2
  have g_b2 : h0.size ≤ b2 := by rw [g2]; exact (Nat.le_refl h0.size)
  have HOld_2 := HOld.ext E2
  have Z2 := Nat.le_trans (Nat.le_refl h0.size) E2.1
  have E_b2 := A2
  have F_equalities_b2 : Fld Z h2 b2 "com/example/fixpoint_checker/fixpointchecker/symbolic/StateEncoding" "equalities" "Ljava/util/Map;" .null := D2 (Or.inr (hw _ (List.mem_of_getElem? (i := 31) rfl))) (ty := (.object "java/util/Map")) (by decide)
  have F_stateCount_b2 : Fld Z h2 b2 "com/example/fixpoint_checker/fixpointchecker/symbolic/StateEncoding" "stateCount" "I" (.int (0 : Int32)) := D2 (Or.inr (hw _ (List.mem_of_getElem? (i := 35) rfl))) (ty := .int) (by decide)
  have F_dimension_b2 : Fld Z h2 b2 "com/example/fixpoint_checker/fixpointchecker/symbolic/StateEncoding" "dimension" "I" (.int (0 : Int32)) := D2 (Or.inr (hw _ (List.mem_of_getElem? (i := 37) rfl))) (ty := .int) (by decide)
  have F_bitCount_b2 : Fld Z h2 b2 "com/example/fixpoint_checker/fixpointchecker/symbolic/StateEncoding" "bitCount" "I" (.int (0 : Int32)) := D2 (Or.inr (hw _ (List.mem_of_getElem? (i := 39) rfl))) (ty := .int) (by decide)
  have F_diagrams_b2 : Fld Z h2 b2 "com/example/fixpoint_checker/fixpointchecker/symbolic/StateEncoding" "diagrams" "Lcom/example/fixpoint_checker/fixpointchecker/bdd/DecisionDiagrams;" .null := D2 (Or.inr (hw _ (List.mem_of_getElem? (i := 220) rfl))) (ty := (.object "com/example/fixpoint_checker/fixpointchecker/bdd/DecisionDiagrams")) (by decide)
  have F_unprimedLevels_b2 : Fld Z h2 b2 "com/example/fixpoint_checker/fixpointchecker/symbolic/StateEncoding" "unprimedLevels" "[Z" .null := D2 (Or.inr (hw _ (List.mem_of_getElem? (i := 223) rfl))) (ty := (.array .boolean)) (by decide)
  have F_primings_b2 : Fld Z h2 b2 "com/example/fixpoint_checker/fixpointchecker/symbolic/StateEncoding" "primings" "[I" .null := D2 (Or.inr (hw _ (List.mem_of_getElem? (i := 229) rfl))) (ty := (.array .int)) (by decide)
  have F_unprimings_b2 : Fld Z h2 b2 "com/example/fixpoint_checker/fixpointchecker/symbolic/StateEncoding" "unprimings" "[I" .null := D2 (Or.inr (hw _ (List.mem_of_getElem? (i := 231) rfl))) (ty := (.array .int)) (by decide)
  have F_primedQuantifiers_b2 : Fld Z h2 b2 "com/example/fixpoint_checker/fixpointchecker/symbolic/StateEncoding" "primedQuantifiers" "[I" .null := D2 (Or.inr (hw _ (List.mem_of_getElem? (i := 233) rfl))) (ty := (.array .int)) (by decide)
  have F_stateQuantifiers_b2 : Fld Z h2 b2 "com/example/fixpoint_checker/fixpointchecker/symbolic/StateEncoding" "stateQuantifiers" "[I" .null := D2 (Or.inr (hw _ (List.mem_of_getElem? (i := 235) rfl))) (ty := (.array .int)) (by decide)
  have F_laterQuantifiers_b2 : Fld Z h2 b2 "com/example/fixpoint_checker/fixpointchecker/symbolic/StateEncoding" "laterQuantifiers" "[I" .null := D2 (Or.inr (hw _ (List.mem_of_getElem? (i := 237) rfl))) (ty := (.array .int)) (by decide)
  have F_firstBitQuantifiers_b2 : Fld Z h2 b2 "com/example/fixpoint_checker/fixpointchecker/symbolic/StateEncoding" "firstBitQuantifiers" "[I" .null := D2 (Or.inr (hw _ (List.mem_of_getElem? (i := 239) rfl))) (ty := (.array .int)) (by decide)
  have F_stateCodes_b2 : Fld Z h2 b2 "com/example/fixpoint_checker/fixpointchecker/symbolic/StateEncoding" "stateCodes" "[I" .null := D2 (Or.inr (hw _ (List.mem_of_getElem? (i := 241) rfl))) (ty := (.array .int)) (by decide)
  refine OFin.to (T2.setTop (mkF m 18 #[.val (.int p0), .val (.int p1), .val (.int p2), .val (.int p3), .val (.int p4), .val (.int sc), .unset, .unset, .unset, .unset, .unset, .unset, .unset, .unset, .unset, .unset, .unset, .unset] [(.ref b2)])) st2 ?_
  refine OFin.to (T2.setTop (mkF m 19 #[.val (.int p0), .val (.int p1), .val (.int p2), .val (.int p3), .val (.int p4), .val (.int sc), .unset, .unset, .unset, .unset, .unset, .unset, .unset, .unset, .unset, .unset, .unset, .unset] [(.ref b2), (.ref b2)])) (fun _ kt => XS.dup X2.here hx rfl (hb hby at_18) rfl rfl kt) ?_
  refine OFin.to (T2.setTop (mkF m 21 #[.val (.int p0), .val (.int p1), .val (.int p2), .val (.int p3), .val (.int p4), .val (.int sc), .unset, .unset, .unset, .unset, .unset, .unset, .unset, .unset, .unset, .unset, .unset, .unset] [(.int sc), (.ref b2), (.ref b2)])) (fun _ kt => XS.iload X2.here hx rfl (hb hby at_19) rfl kt) ?_
  refine OFin.to (T2.setTop (mkF m 22 #[.val (.int p0), .val (.int p1), .val (.int p2), .val (.int p3), .val (.int p4), .val (.int sc), .unset, .unset, .unset, .unset, .unset, .unset, .unset, .unset, .unset, .unset, .unset, .unset] [(.int (1 : Int32)), (.int sc), (.ref b2), (.ref b2)])) (fun _ kt => XS.iconst X2.here hx rfl (hb hby at_21) kt) ?_
  refine OFin.to (T2.setTop (mkF m 23 #[.val (.int p0), .val (.int p1), .val (.int p2), .val (.int p3), .val (.int p4), .val (.int sc), .unset, .unset, .unset, .unset, .unset, .unset, .unset, .unset, .unset, .unset, .unset, .unset] [(.int (0 : Int32)), (.int (1 : Int32)), (.int sc), (.ref b2), (.ref b2)])) (fun _ kt => XS.iconst X2.here hx rfl (hb hby at_22) kt) ?_
  obtain ⟨v3, T3, L3, hQ3, X3, st3⟩ := own_callN X2 hx hZ hown rfl (hw _ (List.mem_of_getElem? (i := 8) rfl)) (hw _ (List.mem_of_getElem? (i := 9) rfl)) (hw _ (List.mem_of_getElem? (i := 10) rfl)) (hw _ (List.mem_of_getElem? (i := 7) rfl)) (by decide) e2 (rm2 l Z a0 hw [] b2 sc hsc h2 h0.size Z2 g_b2 E_b2 F_equalities_b2 F_stateCount_b2 F_dimension_b2 F_bitCount_b2 F_diagrams_b2 F_unprimedLevels_b2 F_primings_b2 F_unprimings_b2 F_primedQuantifiers_b2 F_stateQuantifiers_b2 F_laterQuantifiers_b2 F_firstBitQuantifiers_b2 F_stateCodes_b2 aS HS HOld_2) 1 (by decide) (by decide) (by decide) (by decide) (g := (mkF m 23 #[.val (.int p0), .val (.int p1), .val (.int p2), .val (.int p3), .val (.int p4), .val (.int sc), .unset, .unset, .unset, .unset, .unset, .unset, .unset, .unset, .unset, .unset, .unset, .unset] [(.int (0 : Int32)), (.int (1 : Int32)), (.int sc), (.ref b2), (.ref b2)])) rfl (by rw [hml]; rfl) (rest := [(.ref b2)]) (lenOf pd_5 rfl) rfl (by show 2 * 0 + _ ≤ _; exact Nat.le_of_eq rfl) (hb hby at_23)
  obtain ⟨rfl, K1, N1, N, hN, hle, hlt, E1, F1⟩ := hQ3
  refine OFin.to (T3.setTop (mkF m 26 #[.val (.int p0), .val (.int p1), .val (.int p2), .val (.int p3), .val (.int p4), .val (.int sc), .unset, .unset, .unset, .unset, .unset, .unset, .unset, .unset, .unset, .unset, .unset, .unset] [(.ref b2)])) st3 ?_
  have NF := Fr.app (Fr.nil h0.size) N1
  refine OFin.to (T3.setTop (mkF m 28 #[.val (.int p0), .val (.int p1), .val (.int p2), .val (.int p3), .val (.int p4), .val (.int sc), .val (.ref b2), .unset, .unset, .unset, .unset, .unset, .unset, .unset, .unset, .unset, .unset, .unset] [])) (fun _ kt => XS.astore X3.here hx rfl (hb hby at_26) rfl rfl (l' := #[.val (.int p0), .val (.int p1), .val (.int p2), .val (.int p3), .val (.int p4), .val (.int sc), .val (.ref b2), .unset, .unset, .unset, .unset, .unset, .unset, .unset, .unset, .unset, .unset, .unset]) rfl kt) ?_
  refine OFin.to (T3.setTop (mkF m 30 #[.val (.int p0), .val (.int p1), .val (.int p2), .val (.int p3), .val (.int p4), .val (.int sc), .val (.ref b2), .unset, .unset, .unset, .unset, .unset, .unset, .unset, .unset, .unset, .unset, .unset] [(.ref b2)])) (fun _ kt => XS.aload X3.here hx rfl (hb hby at_28) rfl rfl kt) ?_
  obtain ⟨v4, T4, L4, hQ4, X4, st4⟩ := own_callV X3 hx hZ hown (hw _ (List.mem_of_getElem? (i := 242) rfl)) (hw _ (List.mem_of_getElem? (i := 243) rfl)) (hw _ (List.mem_of_getElem? (i := 245) rfl)) (hw _ (List.mem_of_getElem? (i := 244) rfl)) (hw _ (List.mem_of_getElem? (i := 246) rfl)) (hw _ (List.mem_of_getElem? (i := 7) rfl)) (by decide) rfl E1 (rm26 l Z a0 hw [] b2 N T3.heap F1) 0 (by decide) (by decide) (by decide) (by decide) (g := (mkF m 30 #[.val (.int p0), .val (.int p1), .val (.int p2), .val (.int p3), .val (.int p4), .val (.int sc), .val (.ref b2), .unset, .unset, .unset, .unset, .unset, .unset, .unset, .unset, .unset, .unset, .unset] [(.ref b2)])) rfl (by rw [hml]; rfl) (rest := []) (lenOf pd_11 rfl) rfl (by show 2 * 0 + _ ≤ _; exact Nat.le_of_eq rfl) (hb hby at_30)
  obtain ⟨rfl, e4, rfl⟩ := hQ4
  rw [List.append_nil] at X4
  refine OFin.to (T4.setTop (mkF m 33 #[.val (.int p0), .val (.int p1), .val (.int p2), .val (.int p3), .val (.int p4), .val (.int sc), .val (.ref b2), .unset, .unset, .unset, .unset, .unset, .unset, .unset, .unset, .unset, .unset, .unset] [(.int (Int32.ofNat N))])) st4 ?_
  refine OFin.to (T4.setTop (mkF m 35 #[.val (.int p0), .val (.int p1), .val (.int p2), .val (.int p3), .val (.int p4), .val (.int sc), .val (.ref b2), .val (.int (Int32.ofNat N)), .unset, .unset, .unset, .unset, .unset, .unset, .unset, .unset, .unset, .unset] [])) (fun _ kt => XS.istore X4.here hx rfl (hb hby at_33) rfl (l' := #[.val (.int p0), .val (.int p1), .val (.int p2), .val (.int p3), .val (.int p4), .val (.int sc), .val (.ref b2), .val (.int (Int32.ofNat N)), .unset, .unset, .unset, .unset, .unset, .unset, .unset, .unset, .unset, .unset]) rfl kt) ?_
  refine OFin.to (T4.setTop (mkF m 37 #[.val (.int p0), .val (.int p1), .val (.int p2), .val (.int p3), .val (.int p4), .val (.int sc), .val (.ref b2), .val (.int (Int32.ofNat N)), .unset, .unset, .unset, .unset, .unset, .unset, .unset, .unset, .unset, .unset] [(.ref b2)])) (fun _ kt => XS.aload X4.here hx rfl (hb hby at_35) rfl rfl kt) ?_
  refine OFin.to (T4.setTop (mkF m 38 #[.val (.int p0), .val (.int p1), .val (.int p2), .val (.int p3), .val (.int p4), .val (.int sc), .val (.ref b2), .val (.int (Int32.ofNat N)), .unset, .unset, .unset, .unset, .unset, .unset, .unset, .unset, .unset, .unset] [(.int p2), (.ref b2)])) (fun _ kt => XS.iloadN X4.here hx rfl (hb hby at_37) rfl kt) ?_
  refine OFin.to (T4.setTop (mkF m 39 #[.val (.int p0), .val (.int p1), .val (.int p2), .val (.int p3), .val (.int p4), .val (.int sc), .val (.ref b2), .val (.int (Int32.ofNat N)), .unset, .unset, .unset, .unset, .unset, .unset, .unset, .unset, .unset, .unset] [(.int p3), (.int p2), (.ref b2)])) (fun _ kt => XS.iloadN X4.here hx rfl (hb hby at_38) rfl kt) ?_
  obtain ⟨v5, T5, L5, hQ5, X5, st5⟩ := own_callV X4 hx hZ hown (hw _ (List.mem_of_getElem? (i := 247) rfl)) (hw _ (List.mem_of_getElem? (i := 248) rfl)) (hw _ (List.mem_of_getElem? (i := 250) rfl)) (hw _ (List.mem_of_getElem? (i := 249) rfl)) (hw _ (List.mem_of_getElem? (i := 251) rfl)) (hw _ (List.mem_of_getElem? (i := 7) rfl)) (by decide) e4 E1 (rm27 l Z a0 hw [] b2 p2 p3 N hN T3.heap F1) 0 (by decide) (by decide) (by decide) (by decide) (g := (mkF m 39 #[.val (.int p0), .val (.int p1), .val (.int p2), .val (.int p3), .val (.int p4), .val (.int sc), .val (.ref b2), .val (.int (Int32.ofNat N)), .unset, .unset, .unset, .unset, .unset, .unset, .unset, .unset, .unset, .unset] [(.int p3), (.int p2), (.ref b2)])) rfl (by rw [hml]; rfl) (rest := []) (lenOf pd_4 rfl) rfl (by show 2 * 0 + _ ≤ _; exact Nat.le_of_eq rfl) (hb hby at_39)
  obtain ⟨rfl, e5, rfl⟩ := hQ5
  rw [List.append_nil] at X5
  refine OFin.to (T5.setTop (mkF m 42 #[.val (.int p0), .val (.int p1), .val (.int p2), .val (.int p3), .val (.int p4), .val (.int sc), .val (.ref b2), .val (.int (Int32.ofNat N)), .unset, .unset, .unset, .unset, .unset, .unset, .unset, .unset, .unset, .unset] [(.long (own_key N p2 p3 N))])) st5 ?_
  refine OFin.to (T5.setTop (mkF m 44 #[.val (.int p0), .val (.int p1), .val (.int p2), .val (.int p3), .val (.int p4), .val (.int sc), .val (.ref b2), .val (.int (Int32.ofNat N)), .val (.long (own_key N p2 p3 N)), .second, .unset, .unset, .unset, .unset, .unset, .unset, .unset, .unset] [])) (fun _ kt => XS.lstore X5.here hx rfl (hb hby at_42) rfl (l' := #[.val (.int p0), .val (.int p1), .val (.int p2), .val (.int p3), .val (.int p4), .val (.int sc), .val (.ref b2), .val (.int (Int32.ofNat N)), .val (.long (own_key N p2 p3 N)), .second, .unset, .unset, .unset, .unset, .unset, .unset, .unset, .unset]) rfl kt) ?_
  refine OFin.to (T5.setTop (mkF m 46 #[.val (.int p0), .val (.int p1), .val (.int p2), .val (.int p3), .val (.int p4), .val (.int sc), .val (.ref b2), .val (.int (Int32.ofNat N)), .val (.long (own_key N p2 p3 N)), .second, .unset, .unset, .unset, .unset, .unset, .unset, .unset, .unset] [(.int (Int32.ofNat N))])) (fun _ kt => XS.iload X5.here hx rfl (hb hby at_44) rfl kt) ?_
  refine OFin.to (T5.setTop (mkF m 49 #[.val (.int p0), .val (.int p1), .val (.int p2), .val (.int p3), .val (.int p4), .val (.int sc), .val (.ref b2), .val (.int (Int32.ofNat N)), .val (.long (own_key N p2 p3 N)), .second, .unset, .unset, .unset, .unset, .unset, .unset, .unset, .unset] [])) (fun _ kt => XS.ifNo X5.here hx rfl (hb hby at_46) rfl (XT.i0_lt_f (own_ix N (by omega)).1) kt) ?_
  refine OFin.to (T5.setTop (mkF m 51 #[.val (.int p0), .val (.int p1), .val (.int p2), .val (.int p3), .val (.int p4), .val (.int sc), .val (.ref b2), .val (.int (Int32.ofNat N)), .val (.long (own_key N p2 p3 N)), .second, .unset, .unset, .unset, .unset, .unset, .unset, .unset, .unset] [(.int (Int32.ofNat N))])) (fun _ kt => XS.iload X5.here hx rfl (hb hby at_49) rfl kt) ?_
  refine OFin.to (T5.setTop (mkF m 53 #[.val (.int p0), .val (.int p1), .val (.int p2), .val (.int p3), .val (.int p4), .val (.int sc), .val (.ref b2), .val (.int (Int32.ofNat N)), .val (.long (own_key N p2 p3 N)), .second, .unset, .unset, .unset, .unset, .unset, .unset, .unset, .unset] [(.int (31 : Int32)), (.int (Int32.ofNat N))])) (fun _ kt => XS.bipush X5.here hx rfl (hb hby at_51) kt) ?_
  refine OFin.to (T5.setTop (mkF m 56 #[.val (.int p0), .val (.int p1), .val (.int p2), .val (.int p3), .val (.int p4), .val (.int sc), .val (.ref b2), .val (.int (Int32.ofNat N)), .val (.long (own_key N p2 p3 N)), .second, .unset, .unset, .unset, .unset, .unset, .unset, .unset, .unset] [])) (fun _ kt => XS.icmpNo X5.here hx rfl (hb hby at_53) rfl (XT.ii_gt_f (fun q => absurd ((own_ofLt 31 N (by decide) (by omega)).mp q) (by omega))) kt) ?_
  refine OFin.to (T5.setTop (mkF m 57 #[.val (.int p0), .val (.int p1), .val (.int p2), .val (.int p3), .val (.int p4), .val (.int sc), .val (.ref b2), .val (.int (Int32.ofNat N)), .val (.long (own_key N p2 p3 N)), .second, .unset, .unset, .unset, .unset, .unset, .unset, .unset, .unset] [(.long (1 : Int64))])) (fun _ kt => XS.lconst X5.here hx rfl (hb hby at_56) kt) ?_
  refine OFin.to (T5.setTop (mkF m 59 #[.val (.int p0), .val (.int p1), .val (.int p2), .val (.int p3), .val (.int p4), .val (.int sc), .val (.ref b2), .val (.int (Int32.ofNat N)), .val (.long (own_key N p2 p3 N)), .second, .unset, .unset, .unset, .unset, .unset, .unset, .unset, .unset] [(.int (Int32.ofNat N)), (.long (1 : Int64))])) (fun _ kt => XS.iload X5.here hx rfl (hb hby at_57) rfl kt) ?_
  refine OFin.to (T5.setTop (mkF m 60 #[.val (.int p0), .val (.int p1), .val (.int p2), .val (.int p3), .val (.int p4), .val (.int sc), .val (.ref b2), .val (.int (Int32.ofNat N)), .val (.long (own_key N p2 p3 N)), .second, .unset, .unset, .unset, .unset, .unset, .unset, .unset, .unset] [(.long ((1 : Int64) <<< ((Int32.ofNat N) &&& 0x3f).toInt64))])) (fun _ kt => XS.lshl X5.here hx rfl (hb hby at_59) rfl kt) ?_
  refine OFin.to (T5.setTop (mkF m 62 #[.val (.int p0), .val (.int p1), .val (.int p2), .val (.int p3), .val (.int p4), .val (.int sc), .val (.ref b2), .val (.int (Int32.ofNat N)), .val (.long (own_key N p2 p3 N)), .second, .unset, .unset, .unset, .unset, .unset, .unset, .unset, .unset] [(.int sc), (.long ((1 : Int64) <<< ((Int32.ofNat N) &&& 0x3f).toInt64))])) (fun _ kt => XS.iload X5.here hx rfl (hb hby at_60) rfl kt) ?_
  refine OFin.to (T5.setTop (mkF m 63 #[.val (.int p0), .val (.int p1), .val (.int p2), .val (.int p3), .val (.int p4), .val (.int sc), .val (.ref b2), .val (.int (Int32.ofNat N)), .val (.long (own_key N p2 p3 N)), .second, .unset, .unset, .unset, .unset, .unset, .unset, .unset, .unset] [(.long (sc.toInt64)), (.long ((1 : Int64) <<< ((Int32.ofNat N) &&& 0x3f).toInt64))])) (fun _ kt => XS.i2l X5.here hx rfl (hb hby at_62) rfl kt) ?_
  refine OFin.to (T5.setTop (mkF m 64 #[.val (.int p0), .val (.int p1), .val (.int p2), .val (.int p3), .val (.int p4), .val (.int sc), .val (.ref b2), .val (.int (Int32.ofNat N)), .val (.long (own_key N p2 p3 N)), .second, .unset, .unset, .unset, .unset, .unset, .unset, .unset, .unset] [(.int (XT.cmpL ((1 : Int64) <<< ((Int32.ofNat N) &&& 0x3f).toInt64) (sc.toInt64)))])) (fun _ kt => XT.lcmp X5.here hx rfl (hb hby at_63) rfl kt) ?_
  refine OFin.to (T5.setTop (mkF m 67 #[.val (.int p0), .val (.int p1), .val (.int p2), .val (.int p3), .val (.int p4), .val (.int sc), .val (.ref b2), .val (.int (Int32.ofNat N)), .val (.long (own_key N p2 p3 N)), .second, .unset, .unset, .unset, .unset, .unset, .unset, .unset, .unset] [])) (fun _ kt => XS.ifNo X5.here hx rfl (hb hby at_64) rfl (XT.ll_lt_f (own_pwge N sc hN hle)) kt) ?_
  refine OFin.to (T5.setTop (mkF m 69 #[.val (.int p0), .val (.int p1), .val (.int p2), .val (.int p3), .val (.int p4), .val (.int sc), .val (.ref b2), .val (.int (Int32.ofNat N)), .val (.long (own_key N p2 p3 N)), .second, .unset, .unset, .unset, .unset, .unset, .unset, .unset, .unset] [(.int (Int32.ofNat N))])) (fun _ kt => XS.iload X5.here hx rfl (hb hby at_67) rfl kt) ?_
  have J85 : OFin p e below s (room_1).cells (room_1).slots (fun v h L => v = some (.int (1 : Int32)) ∧ Fr h0.size L) (T5.setTop (mkF m 85 #[.val (.int p0), .val (.int p1), .val (.int p2), .val (.int p3), .val (.int p4), .val (.int sc), .val (.ref b2), .val (.int (Int32.ofNat N)), .val (.long (own_key N p2 p3 N)), .second, .unset, .unset, .unset, .unset, .unset, .unset, .unset, .unset] [])) := by
    refine OFin.to (T5.setTop (mkF m 86 #[.val (.int p0), .val (.int p1), .val (.int p2), .val (.int p3), .val (.int p4), .val (.int sc), .val (.ref b2), .val (.int (Int32.ofNat N)), .val (.long (own_key N p2 p3 N)), .second, .unset, .unset, .unset, .unset, .unset, .unset, .unset, .unset] [(.int (1 : Int32))])) (fun _ kt => XS.iconst X5.here hx rfl (hb hby at_85) kt) ?_
    refine OFin.to (T5.setTop (mkF m 90 #[.val (.int p0), .val (.int p1), .val (.int p2), .val (.int p3), .val (.int p4), .val (.int sc), .val (.ref b2), .val (.int (Int32.ofNat N)), .val (.long (own_key N p2 p3 N)), .second, .unset, .unset, .unset, .unset, .unset, .unset, .unset, .unset] [(.int (1 : Int32))])) (fun _ kt => XS.goto X5.here hx rfl (pc0 := 86) (pc' := 90) rfl (hb hby at_86) (by decide) (by decide) kt) ?_
    refine OFin.to (T5.setTop (mkF m 92 #[.val (.int p0), .val (.int p1), .val (.int p2), .val (.int p3), .val (.int p4), .val (.int sc), .val (.ref b2), .val (.int (Int32.ofNat N)), .val (.long (own_key N p2 p3 N)), .second, .val (.int (1 : Int32)), .unset, .unset, .unset, .unset, .unset, .unset, .unset] [])) (fun _ kt => XS.istore X5.here hx rfl (hb hby at_90) rfl (l' := #[.val (.int p0), .val (.int p1), .val (.int p2), .val (.int p3), .val (.int p4), .val (.int sc), .val (.ref b2), .val (.int (Int32.ofNat N)), .val (.long (own_key N p2 p3 N)), .second, .val (.int (1 : Int32)), .unset, .unset, .unset, .unset, .unset, .unset, .unset]) rfl kt) ?_
    refine OFin.to (T5.setTop (mkF m 94 #[.val (.int p0), .val (.int p1), .val (.int p2), .val (.int p3), .val (.int p4), .val (.int sc), .val (.ref b2), .val (.int (Int32.ofNat N)), .val (.long (own_key N p2 p3 N)), .second, .val (.int (1 : Int32)), .unset, .unset, .unset, .unset, .unset, .unset, .unset] [(.int (1 : Int32))])) (fun _ kt => XS.iload X5.here hx rfl (hb hby at_92) rfl kt) ?_
    refine OFin.to (T5.setTop (mkF m 99 #[.val (.int p0), .val (.int p1), .val (.int p2), .val (.int p3), .val (.int p4), .val (.int sc), .val (.ref b2), .val (.int (Int32.ofNat N)), .val (.long (own_key N p2 p3 N)), .second, .val (.int (1 : Int32)), .unset, .unset, .unset, .unset, .unset, .unset, .unset] [])) (fun _ kt => XS.ifYes X5.here hx rfl (pc0 := 94) (pc' := 99) rfl (hb hby at_94) rfl (XT.i0_ne_t (by decide)) (by decide) (by decide) kt) ?_
    refine OFin.to (T5.setTop (mkF m 101 #[.val (.int p0), .val (.int p1), .val (.int p2), .val (.int p3), .val (.int p4), .val (.int sc), .val (.ref b2), .val (.int (Int32.ofNat N)), .val (.long (own_key N p2 p3 N)), .second, .val (.int (1 : Int32)), .unset, .unset, .unset, .unset, .unset, .unset, .unset] [(.long (own_key N p2 p3 N))])) (fun _ kt => XS.lload X5.here hx rfl (hb hby at_99) rfl kt) ?_
    refine OFin.to (T5.setTop (mkF m 102 #[.val (.int p0), .val (.int p1), .val (.int p2), .val (.int p3), .val (.int p4), .val (.int sc), .val (.ref b2), .val (.int (Int32.ofNat N)), .val (.long (own_key N p2 p3 N)), .second, .val (.int (1 : Int32)), .unset, .unset, .unset, .unset, .unset, .unset, .unset] [(.int (2 : Int32)), (.long (own_key N p2 p3 N))])) (fun _ kt => XS.iconst X5.here hx rfl (hb hby at_101) kt) ?_
    refine OFin.to (T5.setTop (mkF m 104 #[.val (.int p0), .val (.int p1), .val (.int p2), .val (.int p3), .val (.int p4), .val (.int sc), .val (.ref b2), .val (.int (Int32.ofNat N)), .val (.long (own_key N p2 p3 N)), .second, .val (.int (1 : Int32)), .unset, .unset, .unset, .unset, .unset, .unset, .unset] [(.int (Int32.ofNat N)), (.int (2 : Int32)), (.long (own_key N p2 p3 N))])) (fun _ kt => XS.iload X5.here hx rfl (hb hby at_102) rfl kt) ?_
    refine OFin.to (T5.setTop (mkF m 105 #[.val (.int p0), .val (.int p1), .val (.int p2), .val (.int p3), .val (.int p4), .val (.int sc), .val (.ref b2), .val (.int (Int32.ofNat N)), .val (.long (own_key N p2 p3 N)), .second, .val (.int (1 : Int32)), .unset, .unset, .unset, .unset, .unset, .unset, .unset] [(.int ((2 : Int32) * (Int32.ofNat N))), (.long (own_key N p2 p3 N))])) (fun _ kt => XS.imul X5.here hx rfl (hb hby at_104) rfl kt) ?_
    refine OFin.to (T5.setTop (mkF m 106 #[.val (.int p0), .val (.int p1), .val (.int p2), .val (.int p3), .val (.int p4), .val (.int sc), .val (.ref b2), .val (.int (Int32.ofNat N)), .val (.long (own_key N p2 p3 N)), .second, .val (.int (1 : Int32)), .unset, .unset, .unset, .unset, .unset, .unset, .unset] [(.long (((own_key N p2 p3 N).toUInt64 >>> (((2 : Int32) * (Int32.ofNat N)) &&& 0x3f).toInt64.toUInt64).toInt64))])) (fun _ kt => XS.lushr X5.here hx rfl (hb hby at_105) rfl kt) ?_
    refine OFin.to (T5.setTop (mkF m 107 #[.val (.int p0), .val (.int p1), .val (.int p2), .val (.int p3), .val (.int p4), .val (.int sc), .val (.ref b2), .val (.int (Int32.ofNat N)), .val (.long (own_key N p2 p3 N)), .second, .val (.int (1 : Int32)), .unset, .unset, .unset, .unset, .unset, .unset, .unset] [(.long (0 : Int64)), (.long (((own_key N p2 p3 N).toUInt64 >>> (((2 : Int32) * (Int32.ofNat N)) &&& 0x3f).toInt64.toUInt64).toInt64))])) (fun _ kt => XS.lconst X5.here hx rfl (hb hby at_106) kt) ?_
    refine OFin.to (T5.setTop (mkF m 108 #[.val (.int p0), .val (.int p1), .val (.int p2), .val (.int p3), .val (.int p4), .val (.int sc), .val (.ref b2), .val (.int (Int32.ofNat N)), .val (.long (own_key N p2 p3 N)), .second, .val (.int (1 : Int32)), .unset, .unset, .unset, .unset, .unset, .unset, .unset] [(.int (XT.cmpL (((own_key N p2 p3 N).toUInt64 >>> (((2 : Int32) * (Int32.ofNat N)) &&& 0x3f).toInt64.toUInt64).toInt64) (0 : Int64)))])) (fun _ kt => XT.lcmp X5.here hx rfl (hb hby at_107) rfl kt) ?_
    refine OFin.to (T5.setTop (mkF m 111 #[.val (.int p0), .val (.int p1), .val (.int p2), .val (.int p3), .val (.int p4), .val (.int sc), .val (.ref b2), .val (.int (Int32.ofNat N)), .val (.long (own_key N p2 p3 N)), .second, .val (.int (1 : Int32)), .unset, .unset, .unset, .unset, .unset, .unset, .unset] [])) (fun _ kt => XS.ifNo X5.here hx rfl (hb hby at_108) rfl (XT.ll_ne_f (own_high N p2 p3 hN)) kt) ?_
    refine OFin.to (T5.setTop (mkF m 112 #[.val (.int p0), .val (.int p1), .val (.int p2), .val (.int p3), .val (.int p4), .val (.int sc), .val (.ref b2), .val (.int (Int32.ofNat N)), .val (.long (own_key N p2 p3 N)), .second, .val (.int (1 : Int32)), .unset, .unset, .unset, .unset, .unset, .unset, .unset] [(.int (1 : Int32))])) (fun _ kt => XS.iconst X5.here hx rfl (hb hby at_111) kt) ?_
    refine OFin.to (T5.setTop (mkF m 116 #[.val (.int p0), .val (.int p1), .val (.int p2), .val (.int p3), .val (.int p4), .val (.int sc), .val (.ref b2), .val (.int (Int32.ofNat N)), .val (.long (own_key N p2 p3 N)), .second, .val (.int (1 : Int32)), .unset, .unset, .unset, .unset, .unset, .unset, .unset] [(.int (1 : Int32))])) (fun _ kt => XS.goto X5.here hx rfl (pc0 := 112) (pc' := 116) rfl (hb hby at_112) (by decide) (by decide) kt) ?_
    refine OFin.to (T5.setTop (mkF m 118 #[.val (.int p0), .val (.int p1), .val (.int p2), .val (.int p3), .val (.int p4), .val (.int sc), .val (.ref b2), .val (.int (Int32.ofNat N)), .val (.long (own_key N p2 p3 N)), .second, .val (.int (1 : Int32)), .val (.int (1 : Int32)), .unset, .unset, .unset, .unset, .unset, .unset] [])) (fun _ kt => XS.istore X5.here hx rfl (hb hby at_116) rfl (l' := #[.val (.int p0), .val (.int p1), .val (.int p2), .val (.int p3), .val (.int p4), .val (.int sc), .val (.ref b2), .val (.int (Int32.ofNat N)), .val (.long (own_key N p2 p3 N)), .second, .val (.int (1 : Int32)), .val (.int (1 : Int32)), .unset, .unset, .unset, .unset, .unset, .unset]) rfl kt) ?_
    refine OFin.to (T5.setTop (mkF m 120 #[.val (.int p0), .val (.int p1), .val (.int p2), .val (.int p3), .val (.int p4), .val (.int sc), .val (.ref b2), .val (.int (Int32.ofNat N)), .val (.long (own_key N p2 p3 N)), .second, .val (.int (1 : Int32)), .val (.int (1 : Int32)), .unset, .unset, .unset, .unset, .unset, .unset] [(.int p4)])) (fun _ kt => XS.iload X5.here hx rfl (hb hby at_118) rfl kt) ?_
    refine OFin.to (T5.setTop (mkF m 122 #[.val (.int p0), .val (.int p1), .val (.int p2), .val (.int p3), .val (.int p4), .val (.int sc), .val (.ref b2), .val (.int (Int32.ofNat N)), .val (.long (own_key N p2 p3 N)), .second, .val (.int (1 : Int32)), .val (.int (1 : Int32)), .unset, .unset, .unset, .unset, .unset, .unset] [(.int (31 : Int32)), (.int p4)])) (fun _ kt => XS.bipush X5.here hx rfl (hb hby at_120) kt) ?_
    refine OFin.to (T5.setTop (mkF m 123 #[.val (.int p0), .val (.int p1), .val (.int p2), .val (.int p3), .val (.int p4), .val (.int sc), .val (.ref b2), .val (.int (Int32.ofNat N)), .val (.long (own_key N p2 p3 N)), .second, .val (.int (1 : Int32)), .val (.int (1 : Int32)), .unset, .unset, .unset, .unset, .unset, .unset] [(.int (p4 &&& (31 : Int32)))])) (fun _ kt => XS.iand X5.here hx rfl (hb hby at_122) rfl kt) ?_
    obtain ⟨k, hk, ek⟩ := own_low p4 31 5 (by decide) (by decide)
    rw [ek]
    refine OFin.to (T5.setTop (mkF m 125 #[.val (.int p0), .val (.int p1), .val (.int p2), .val (.int p3), .val (.int p4), .val (.int sc), .val (.ref b2), .val (.int (Int32.ofNat N)), .val (.long (own_key N p2 p3 N)), .second, .val (.int (1 : Int32)), .val (.int (1 : Int32)), .val (.int (Int32.ofNat k)), .unset, .unset, .unset, .unset, .unset] [])) (fun _ kt => XS.istore X5.here hx rfl (hb hby at_123) rfl (l' := #[.val (.int p0), .val (.int p1), .val (.int p2), .val (.int p3), .val (.int p4), .val (.int sc), .val (.ref b2), .val (.int (Int32.ofNat N)), .val (.long (own_key N p2 p3 N)), .second, .val (.int (1 : Int32)), .val (.int (1 : Int32)), .val (.int (Int32.ofNat k)), .unset, .unset, .unset, .unset, .unset]) rfl kt) ?_
    refine OFin.to (T5.setTop (mkF m 126 #[.val (.int p0), .val (.int p1), .val (.int p2), .val (.int p3), .val (.int p4), .val (.int sc), .val (.ref b2), .val (.int (Int32.ofNat N)), .val (.long (own_key N p2 p3 N)), .second, .val (.int (1 : Int32)), .val (.int (1 : Int32)), .val (.int (Int32.ofNat k)), .unset, .unset, .unset, .unset, .unset] [(.int (1 : Int32))])) (fun _ kt => XS.iconst X5.here hx rfl (hb hby at_125) kt) ?_
    refine OFin.to (T5.setTop (mkF m 128 #[.val (.int p0), .val (.int p1), .val (.int p2), .val (.int p3), .val (.int p4), .val (.int sc), .val (.ref b2), .val (.int (Int32.ofNat N)), .val (.long (own_key N p2 p3 N)), .second, .val (.int (1 : Int32)), .val (.int (1 : Int32)), .val (.int (Int32.ofNat k)), .val (.int (1 : Int32)), .unset, .unset, .unset, .unset] [])) (fun _ kt => XS.istore X5.here hx rfl (hb hby at_126) rfl (l' := #[.val (.int p0), .val (.int p1), .val (.int p2), .val (.int p3), .val (.int p4), .val (.int sc), .val (.ref b2), .val (.int (Int32.ofNat N)), .val (.long (own_key N p2 p3 N)), .second, .val (.int (1 : Int32)), .val (.int (1 : Int32)), .val (.int (Int32.ofNat k)), .val (.int (1 : Int32)), .unset, .unset, .unset, .unset]) rfl kt) ?_
    refine OFin.to (T5.setTop (mkF m 130 #[.val (.int p0), .val (.int p1), .val (.int p2), .val (.int p3), .val (.int p4), .val (.int sc), .val (.ref b2), .val (.int (Int32.ofNat N)), .val (.long (own_key N p2 p3 N)), .second, .val (.int (1 : Int32)), .val (.int (1 : Int32)), .val (.int (Int32.ofNat k)), .val (.int (1 : Int32)), .unset, .unset, .unset, .unset] [(.int (Int32.ofNat k))])) (fun _ kt => XS.iload X5.here hx rfl (hb hby at_128) rfl kt) ?_
    refine OFin.to (T5.setTop (mkF m 132 #[.val (.int p0), .val (.int p1), .val (.int p2), .val (.int p3), .val (.int p4), .val (.int sc), .val (.ref b2), .val (.int (Int32.ofNat N)), .val (.long (own_key N p2 p3 N)), .second, .val (.int (1 : Int32)), .val (.int (1 : Int32)), .val (.int (Int32.ofNat k)), .val (.int (1 : Int32)), .unset, .unset, .unset, .unset] [(.int (Int32.ofNat N)), (.int (Int32.ofNat k))])) (fun _ kt => XS.iload X5.here hx rfl (hb hby at_130) rfl kt) ?_
    have J192 : ∀ (w14 w15 w16 w17 : Slot), OFin p e below s (room_1).cells (room_1).slots (fun v h L => v = some (.int (1 : Int32)) ∧ Fr h0.size L) (T5.setTop (mkF m 192 #[.val (.int p0), .val (.int p1), .val (.int p2), .val (.int p3), .val (.int p4), .val (.int sc), .val (.ref b2), .val (.int (Int32.ofNat N)), .val (.long (own_key N p2 p3 N)), .second, .val (.int (1 : Int32)), .val (.int (1 : Int32)), .val (.int (Int32.ofNat k)), .val (.int (1 : Int32)), w14, w15, w16, w17] [])) := by
      intro w14 w15 w16 w17
      refine OFin.to (T5.setTop (mkF m 194 #[.val (.int p0), .val (.int p1), .val (.int p2), .val (.int p3), .val (.int p4), .val (.int sc), .val (.ref b2), .val (.int (Int32.ofNat N)), .val (.long (own_key N p2 p3 N)), .second, .val (.int (1 : Int32)), .val (.int (1 : Int32)), .val (.int (Int32.ofNat k)), .val (.int (1 : Int32)), w14, w15, w16, w17] [(.int (1 : Int32))])) (fun _ kt => XS.iload X5.here hx rfl (hb hby at_192) rfl kt) ?_
      refine OFin.to (T5.setTop (mkF m 197 #[.val (.int p0), .val (.int p1), .val (.int p2), .val (.int p3), .val (.int p4), .val (.int sc), .val (.ref b2), .val (.int (Int32.ofNat N)), .val (.long (own_key N p2 p3 N)), .second, .val (.int (1 : Int32)), .val (.int (1 : Int32)), .val (.int (Int32.ofNat k)), .val (.int (1 : Int32)), w14, w15, w16, w17] [])) (fun _ kt => XS.ifNo X5.here hx rfl (hb hby at_194) rfl (XT.i0_eq_f (by decide)) kt) ?_
      refine OFin.to (T5.setTop (mkF m 199 #[.val (.int p0), .val (.int p1), .val (.int p2), .val (.int p3), .val (.int p4), .val (.int sc), .val (.ref b2), .val (.int (Int32.ofNat N)), .val (.long (own_key N p2 p3 N)), .second, .val (.int (1 : Int32)), .val (.int (1 : Int32)), .val (.int (Int32.ofNat k)), .val (.int (1 : Int32)), w14, w15, w16, w17] [(.int (1 : Int32))])) (fun _ kt => XS.iload X5.here hx rfl (hb hby at_197) rfl kt) ?_
      refine OFin.to (T5.setTop (mkF m 202 #[.val (.int p0), .val (.int p1), .val (.int p2), .val (.int p3), .val (.int p4), .val (.int sc), .val (.ref b2), .val (.int (Int32.ofNat N)), .val (.long (own_key N p2 p3 N)), .second, .val (.int (1 : Int32)), .val (.int (1 : Int32)), .val (.int (Int32.ofNat k)), .val (.int (1 : Int32)), w14, w15, w16, w17] [])) (fun _ kt => XS.ifNo X5.here hx rfl (hb hby at_199) rfl (XT.i0_eq_f (by decide)) kt) ?_
      refine OFin.to (T5.setTop (mkF m 203 #[.val (.int p0), .val (.int p1), .val (.int p2), .val (.int p3), .val (.int p4), .val (.int sc), .val (.ref b2), .val (.int (Int32.ofNat N)), .val (.long (own_key N p2 p3 N)), .second, .val (.int (1 : Int32)), .val (.int (1 : Int32)), .val (.int (Int32.ofNat k)), .val (.int (1 : Int32)), w14, w15, w16, w17] [(.int (1 : Int32))])) (fun _ kt => XS.iconst X5.here hx rfl (hb hby at_202) kt) ?_
      refine OFin.to (T5.setTop (mkF m 207 #[.val (.int p0), .val (.int p1), .val (.int p2), .val (.int p3), .val (.int p4), .val (.int sc), .val (.ref b2), .val (.int (Int32.ofNat N)), .val (.long (own_key N p2 p3 N)), .second, .val (.int (1 : Int32)), .val (.int (1 : Int32)), .val (.int (Int32.ofNat k)), .val (.int (1 : Int32)), w14, w15, w16, w17] [(.int (1 : Int32))])) (fun _ kt => XS.goto X5.here hx rfl (pc0 := 203) (pc' := 207) rfl (hb hby at_203) (by decide) (by decide) kt) ?_
      exact OFin.retZ X5 hx (t := .boolean) hret (by simp) hlk (hb hby at_207) (by decide) (by decide) ⟨by rw [own_nar1], NF⟩
    by_cases hkn : k < N
    case neg =>
      refine OFin.to (T5.setTop (mkF m 192 #[.val (.int p0), .val (.int p1), .val (.int p2), .val (.int p3), .val (.int p4), .val (.int sc), .val (.ref b2), .val (.int (Int32.ofNat N)), .val (.long (own_key N p2 p3 N)), .second, .val (.int (1 : Int32)), .val (.int (1 : Int32)), .val (.int (Int32.ofNat k)), .val (.int (1 : Int32)), .unset, .unset, .unset, .unset] [])) (fun _ kt => XS.icmpYes X5.here hx rfl (pc0 := 132) (pc' := 192) rfl (hb hby at_132) rfl (XT.ii_ge_t (fun q => hkn ((own_ofLt k N (by omega) (by omega)).mp q))) (by decide) (by decide) kt) ?_
      exact J192 _ _ _ _
    refine OFin.to (T5.setTop (mkF m 135 #[.val (.int p0), .val (.int p1), .val (.int p2), .val (.int p3), .val (.int p4), .val (.int sc), .val (.ref b2), .val (.int (Int32.ofNat N)), .val (.long (own_key N p2 p3 N)), .second, .val (.int (1 : Int32)), .val (.int (1 : Int32)), .val (.int (Int32.ofNat k)), .val (.int (1 : Int32)), .unset, .unset, .unset, .unset] [])) (fun _ kt => XS.icmpNo X5.here hx rfl (hb hby at_132) rfl (XT.ii_ge_f ((own_ofLt k N (by omega) (by omega)).mpr hkn)) kt) ?_
    refine OFin.to (T5.setTop (mkF m 136 #[.val (.int p0), .val (.int p1), .val (.int p2), .val (.int p3), .val (.int p4), .val (.int sc), .val (.ref b2), .val (.int (Int32.ofNat N)), .val (.long (own_key N p2 p3 N)), .second, .val (.int (1 : Int32)), .val (.int (1 : Int32)), .val (.int (Int32.ofNat k)), .val (.int (1 : Int32)), .unset, .unset, .unset, .unset] [(.int p2)])) (fun _ kt => XS.iloadN X5.here hx rfl (hb hby at_135) rfl kt) ?_
    refine OFin.to (T5.setTop (mkF m 138 #[.val (.int p0), .val (.int p1), .val (.int p2), .val (.int p3), .val (.int p4), .val (.int sc), .val (.ref b2), .val (.int (Int32.ofNat N)), .val (.long (own_key N p2 p3 N)), .second, .val (.int (1 : Int32)), .val (.int (1 : Int32)), .val (.int (Int32.ofNat k)), .val (.int (1 : Int32)), .unset, .unset, .unset, .unset] [(.int (Int32.ofNat k)), (.int p2)])) (fun _ kt => XS.iload X5.here hx rfl (hb hby at_136) rfl kt) ?_
    refine OFin.to (T5.setTop (mkF m 139 #[.val (.int p0), .val (.int p1), .val (.int p2), .val (.int p3), .val (.int p4), .val (.int sc), .val (.ref b2), .val (.int (Int32.ofNat N)), .val (.long (own_key N p2 p3 N)), .second, .val (.int (1 : Int32)), .val (.int (1 : Int32)), .val (.int (Int32.ofNat k)), .val (.int (1 : Int32)), .unset, .unset, .unset, .unset] [(.int ((p2.toUInt32 >>> ((Int32.ofNat k) &&& 31).toUInt32).toInt32))])) (fun _ kt => XS.iushr X5.here hx rfl (hb hby at_138) rfl kt) ?_
    refine OFin.to (T5.setTop (mkF m 140 #[.val (.int p0), .val (.int p1), .val (.int p2), .val (.int p3), .val (.int p4), .val (.int sc), .val (.ref b2), .val (.int (Int32.ofNat N)), .val (.long (own_key N p2 p3 N)), .second, .val (.int (1 : Int32)), .val (.int (1 : Int32)), .val (.int (Int32.ofNat k)), .val (.int (1 : Int32)), .unset, .unset, .unset, .unset] [(.int (1 : Int32)), (.int ((p2.toUInt32 >>> ((Int32.ofNat k) &&& 31).toUInt32).toInt32))])) (fun _ kt => XS.iconst X5.here hx rfl (hb hby at_139) kt) ?_
    refine OFin.to (T5.setTop (mkF m 141 #[.val (.int p0), .val (.int p1), .val (.int p2), .val (.int p3), .val (.int p4), .val (.int sc), .val (.ref b2), .val (.int (Int32.ofNat N)), .val (.long (own_key N p2 p3 N)), .second, .val (.int (1 : Int32)), .val (.int (1 : Int32)), .val (.int (Int32.ofNat k)), .val (.int (1 : Int32)), .unset, .unset, .unset, .unset] [(.int (((p2.toUInt32 >>> ((Int32.ofNat k) &&& 31).toUInt32).toInt32) &&& (1 : Int32)))])) (fun _ kt => XS.iand X5.here hx rfl (hb hby at_140) rfl kt) ?_
    refine OFin.to (T5.setTop (mkF m 142 #[.val (.int p0), .val (.int p1), .val (.int p2), .val (.int p3), .val (.int p4), .val (.int sc), .val (.ref b2), .val (.int (Int32.ofNat N)), .val (.long (own_key N p2 p3 N)), .second, .val (.int (1 : Int32)), .val (.int (1 : Int32)), .val (.int (Int32.ofNat k)), .val (.int (1 : Int32)), .unset, .unset, .unset, .unset] [(.long ((((p2.toUInt32 >>> ((Int32.ofNat k) &&& 31).toUInt32).toInt32) &&& (1 : Int32)).toInt64))])) (fun _ kt => XS.i2l X5.here hx rfl (hb hby at_141) rfl kt) ?_
    refine OFin.to (T5.setTop (mkF m 144 #[.val (.int p0), .val (.int p1), .val (.int p2), .val (.int p3), .val (.int p4), .val (.int sc), .val (.ref b2), .val (.int (Int32.ofNat N)), .val (.long (own_key N p2 p3 N)), .second, .val (.int (1 : Int32)), .val (.int (1 : Int32)), .val (.int (Int32.ofNat k)), .val (.int (1 : Int32)), .val (.long ((((p2.toUInt32 >>> ((Int32.ofNat k) &&& 31).toUInt32).toInt32) &&& (1 : Int32)).toInt64)), .second, .unset, .unset] [])) (fun _ kt => XS.lstore X5.here hx rfl (hb hby at_142) rfl (l' := #[.val (.int p0), .val (.int p1), .val (.int p2), .val (.int p3), .val (.int p4), .val (.int sc), .val (.ref b2), .val (.int (Int32.ofNat N)), .val (.long (own_key N p2 p3 N)), .second, .val (.int (1 : Int32)), .val (.int (1 : Int32)), .val (.int (Int32.ofNat k)), .val (.int (1 : Int32)), .val (.long ((((p2.toUInt32 >>> ((Int32.ofNat k) &&& 31).toUInt32).toInt32) &&& (1 : Int32)).toInt64)), .second, .unset, .unset]) rfl kt) ?_
    refine OFin.to (T5.setTop (mkF m 145 #[.val (.int p0), .val (.int p1), .val (.int p2), .val (.int p3), .val (.int p4), .val (.int sc), .val (.ref b2), .val (.int (Int32.ofNat N)), .val (.long (own_key N p2 p3 N)), .second, .val (.int (1 : Int32)), .val (.int (1 : Int32)), .val (.int (Int32.ofNat k)), .val (.int (1 : Int32)), .val (.long ((((p2.toUInt32 >>> ((Int32.ofNat k) &&& 31).toUInt32).toInt32) &&& (1 : Int32)).toInt64)), .second, .unset, .unset] [(.int p3)])) (fun _ kt => XS.iloadN X5.here hx rfl (hb hby at_144) rfl kt) ?_
    refine OFin.to (T5.setTop (mkF m 147 #[.val (.int p0), .val (.int p1), .val (.int p2), .val (.int p3), .val (.int p4), .val (.int sc), .val (.ref b2), .val (.int (Int32.ofNat N)), .val (.long (own_key N p2 p3 N)), .second, .val (.int (1 : Int32)), .val (.int (1 : Int32)), .val (.int (Int32.ofNat k)), .val (.int (1 : Int32)), .val (.long ((((p2.toUInt32 >>> ((Int32.ofNat k) &&& 31).toUInt32).toInt32) &&& (1 : Int32)).toInt64)), .second, .unset, .unset] [(.int (Int32.ofNat k)), (.int p3)])) (fun _ kt => XS.iload X5.here hx rfl (hb hby at_145) rfl kt) ?_
    refine OFin.to (T5.setTop (mkF m 148 #[.val (.int p0), .val (.int p1), .val (.int p2), .val (.int p3), .val (.int p4), .val (.int sc), .val (.ref b2), .val (.int (Int32.ofNat N)), .val (.long (own_key N p2 p3 N)), .second, .val (.int (1 : Int32)), .val (.int (1 : Int32)), .val (.int (Int32.ofNat k)), .val (.int (1 : Int32)), .val (.long ((((p2.toUInt32 >>> ((Int32.ofNat k) &&& 31).toUInt32).toInt32) &&& (1 : Int32)).toInt64)), .second, .unset, .unset] [(.int ((p3.toUInt32 >>> ((Int32.ofNat k) &&& 31).toUInt32).toInt32))])) (fun _ kt => XS.iushr X5.here hx rfl (hb hby at_147) rfl kt) ?_
    refine OFin.to (T5.setTop (mkF m 149 #[.val (.int p0), .val (.int p1), .val (.int p2), .val (.int p3), .val (.int p4), .val (.int sc), .val (.ref b2), .val (.int (Int32.ofNat N)), .val (.long (own_key N p2 p3 N)), .second, .val (.int (1 : Int32)), .val (.int (1 : Int32)), .val (.int (Int32.ofNat k)), .val (.int (1 : Int32)), .val (.long ((((p2.toUInt32 >>> ((Int32.ofNat k) &&& 31).toUInt32).toInt32) &&& (1 : Int32)).toInt64)), .second, .unset, .unset] [(.int (1 : Int32)), (.int ((p3.toUInt32 >>> ((Int32.ofNat k) &&& 31).toUInt32).toInt32))])) (fun _ kt => XS.iconst X5.here hx rfl (hb hby at_148) kt) ?_
    refine OFin.to (T5.setTop (mkF m 150 #[.val (.int p0), .val (.int p1), .val (.int p2), .val (.int p3), .val (.int p4), .val (.int sc), .val (.ref b2), .val (.int (Int32.ofNat N)), .val (.long (own_key N p2 p3 N)), .second, .val (.int (1 : Int32)), .val (.int (1 : Int32)), .val (.int (Int32.ofNat k)), .val (.int (1 : Int32)), .val (.long ((((p2.toUInt32 >>> ((Int32.ofNat k) &&& 31).toUInt32).toInt32) &&& (1 : Int32)).toInt64)), .second, .unset, .unset] [(.int (((p3.toUInt32 >>> ((Int32.ofNat k) &&& 31).toUInt32).toInt32) &&& (1 : Int32)))])) (fun _ kt => XS.iand X5.here hx rfl (hb hby at_149) rfl kt) ?_
    refine OFin.to (T5.setTop (mkF m 151 #[.val (.int p0), .val (.int p1), .val (.int p2), .val (.int p3), .val (.int p4), .val (.int sc), .val (.ref b2), .val (.int (Int32.ofNat N)), .val (.long (own_key N p2 p3 N)), .second, .val (.int (1 : Int32)), .val (.int (1 : Int32)), .val (.int (Int32.ofNat k)), .val (.int (1 : Int32)), .val (.long ((((p2.toUInt32 >>> ((Int32.ofNat k) &&& 31).toUInt32).toInt32) &&& (1 : Int32)).toInt64)), .second, .unset, .unset] [(.long ((((p3.toUInt32 >>> ((Int32.ofNat k) &&& 31).toUInt32).toInt32) &&& (1 : Int32)).toInt64))])) (fun _ kt => XS.i2l X5.here hx rfl (hb hby at_150) rfl kt) ?_
    refine OFin.to (T5.setTop (mkF m 153 #[.val (.int p0), .val (.int p1), .val (.int p2), .val (.int p3), .val (.int p4), .val (.int sc), .val (.ref b2), .val (.int (Int32.ofNat N)), .val (.long (own_key N p2 p3 N)), .second, .val (.int (1 : Int32)), .val (.int (1 : Int32)), .val (.int (Int32.ofNat k)), .val (.int (1 : Int32)), .val (.long ((((p2.toUInt32 >>> ((Int32.ofNat k) &&& 31).toUInt32).toInt32) &&& (1 : Int32)).toInt64)), .second, .val (.long ((((p3.toUInt32 >>> ((Int32.ofNat k) &&& 31).toUInt32).toInt32) &&& (1 : Int32)).toInt64)), .second] [])) (fun _ kt => XS.lstore X5.here hx rfl (hb hby at_151) rfl (l' := #[.val (.int p0), .val (.int p1), .val (.int p2), .val (.int p3), .val (.int p4), .val (.int sc), .val (.ref b2), .val (.int (Int32.ofNat N)), .val (.long (own_key N p2 p3 N)), .second, .val (.int (1 : Int32)), .val (.int (1 : Int32)), .val (.int (Int32.ofNat k)), .val (.int (1 : Int32)), .val (.long ((((p2.toUInt32 >>> ((Int32.ofNat k) &&& 31).toUInt32).toInt32) &&& (1 : Int32)).toInt64)), .second, .val (.long ((((p3.toUInt32 >>> ((Int32.ofNat k) &&& 31).toUInt32).toInt32) &&& (1 : Int32)).toInt64)), .second]) rfl kt) ?_
    refine OFin.to (T5.setTop (mkF m 155 #[.val (.int p0), .val (.int p1), .val (.int p2), .val (.int p3), .val (.int p4), .val (.int sc), .val (.ref b2), .val (.int (Int32.ofNat N)), .val (.long (own_key N p2 p3 N)), .second, .val (.int (1 : Int32)), .val (.int (1 : Int32)), .val (.int (Int32.ofNat k)), .val (.int (1 : Int32)), .val (.long ((((p2.toUInt32 >>> ((Int32.ofNat k) &&& 31).toUInt32).toInt32) &&& (1 : Int32)).toInt64)), .second, .val (.long ((((p3.toUInt32 >>> ((Int32.ofNat k) &&& 31).toUInt32).toInt32) &&& (1 : Int32)).toInt64)), .second] [(.long (own_key N p2 p3 N))])) (fun _ kt => XS.lload X5.here hx rfl (hb hby at_153) rfl kt) ?_
    refine OFin.to (T5.setTop (mkF m 156 #[.val (.int p0), .val (.int p1), .val (.int p2), .val (.int p3), .val (.int p4), .val (.int sc), .val (.ref b2), .val (.int (Int32.ofNat N)), .val (.long (own_key N p2 p3 N)), .second, .val (.int (1 : Int32)), .val (.int (1 : Int32)), .val (.int (Int32.ofNat k)), .val (.int (1 : Int32)), .val (.long ((((p2.toUInt32 >>> ((Int32.ofNat k) &&& 31).toUInt32).toInt32) &&& (1 : Int32)).toInt64)), .second, .val (.long ((((p3.toUInt32 >>> ((Int32.ofNat k) &&& 31).toUInt32).toInt32) &&& (1 : Int32)).toInt64)), .second] [(.int (2 : Int32)), (.long (own_key N p2 p3 N))])) (fun _ kt => XS.iconst X5.here hx rfl (hb hby at_155) kt) ?_
    refine OFin.to (T5.setTop (mkF m 158 #[.val (.int p0), .val (.int p1), .val (.int p2), .val (.int p3), .val (.int p4), .val (.int sc), .val (.ref b2), .val (.int (Int32.ofNat N)), .val (.long (own_key N p2 p3 N)), .second, .val (.int (1 : Int32)), .val (.int (1 : Int32)), .val (.int (Int32.ofNat k)), .val (.int (1 : Int32)), .val (.long ((((p2.toUInt32 >>> ((Int32.ofNat k) &&& 31).toUInt32).toInt32) &&& (1 : Int32)).toInt64)), .second, .val (.long ((((p3.toUInt32 >>> ((Int32.ofNat k) &&& 31).toUInt32).toInt32) &&& (1 : Int32)).toInt64)), .second] [(.int (Int32.ofNat k)), (.int (2 : Int32)), (.long (own_key N p2 p3 N))])) (fun _ kt => XS.iload X5.here hx rfl (hb hby at_156) rfl kt) ?_
    refine OFin.to (T5.setTop (mkF m 159 #[.val (.int p0), .val (.int p1), .val (.int p2), .val (.int p3), .val (.int p4), .val (.int sc), .val (.ref b2), .val (.int (Int32.ofNat N)), .val (.long (own_key N p2 p3 N)), .second, .val (.int (1 : Int32)), .val (.int (1 : Int32)), .val (.int (Int32.ofNat k)), .val (.int (1 : Int32)), .val (.long ((((p2.toUInt32 >>> ((Int32.ofNat k) &&& 31).toUInt32).toInt32) &&& (1 : Int32)).toInt64)), .second, .val (.long ((((p3.toUInt32 >>> ((Int32.ofNat k) &&& 31).toUInt32).toInt32) &&& (1 : Int32)).toInt64)), .second] [(.int ((2 : Int32) * (Int32.ofNat k))), (.long (own_key N p2 p3 N))])) (fun _ kt => XS.imul X5.here hx rfl (hb hby at_158) rfl kt) ?_
    refine OFin.to (T5.setTop (mkF m 160 #[.val (.int p0), .val (.int p1), .val (.int p2), .val (.int p3), .val (.int p4), .val (.int sc), .val (.ref b2), .val (.int (Int32.ofNat N)), .val (.long (own_key N p2 p3 N)), .second, .val (.int (1 : Int32)), .val (.int (1 : Int32)), .val (.int (Int32.ofNat k)), .val (.int (1 : Int32)), .val (.long ((((p2.toUInt32 >>> ((Int32.ofNat k) &&& 31).toUInt32).toInt32) &&& (1 : Int32)).toInt64)), .second, .val (.long ((((p3.toUInt32 >>> ((Int32.ofNat k) &&& 31).toUInt32).toInt32) &&& (1 : Int32)).toInt64)), .second] [(.int (1 : Int32)), (.int ((2 : Int32) * (Int32.ofNat k))), (.long (own_key N p2 p3 N))])) (fun _ kt => XS.iconst X5.here hx rfl (hb hby at_159) kt) ?_
    refine OFin.to (T5.setTop (mkF m 161 #[.val (.int p0), .val (.int p1), .val (.int p2), .val (.int p3), .val (.int p4), .val (.int sc), .val (.ref b2), .val (.int (Int32.ofNat N)), .val (.long (own_key N p2 p3 N)), .second, .val (.int (1 : Int32)), .val (.int (1 : Int32)), .val (.int (Int32.ofNat k)), .val (.int (1 : Int32)), .val (.long ((((p2.toUInt32 >>> ((Int32.ofNat k) &&& 31).toUInt32).toInt32) &&& (1 : Int32)).toInt64)), .second, .val (.long ((((p3.toUInt32 >>> ((Int32.ofNat k) &&& 31).toUInt32).toInt32) &&& (1 : Int32)).toInt64)), .second] [(.int (((2 : Int32) * (Int32.ofNat k)) + (1 : Int32))), (.long (own_key N p2 p3 N))])) (fun _ kt => XS.iadd X5.here hx rfl (hb hby at_160) rfl kt) ?_
    refine OFin.to (T5.setTop (mkF m 162 #[.val (.int p0), .val (.int p1), .val (.int p2), .val (.int p3), .val (.int p4), .val (.int sc), .val (.ref b2), .val (.int (Int32.ofNat N)), .val (.long (own_key N p2 p3 N)), .second, .val (.int (1 : Int32)), .val (.int (1 : Int32)), .val (.int (Int32.ofNat k)), .val (.int (1 : Int32)), .val (.long ((((p2.toUInt32 >>> ((Int32.ofNat k) &&& 31).toUInt32).toInt32) &&& (1 : Int32)).toInt64)), .second, .val (.long ((((p3.toUInt32 >>> ((Int32.ofNat k) &&& 31).toUInt32).toInt32) &&& (1 : Int32)).toInt64)), .second] [(.long (((own_key N p2 p3 N).toUInt64 >>> ((((2 : Int32) * (Int32.ofNat k)) + (1 : Int32)) &&& 0x3f).toInt64.toUInt64).toInt64))])) (fun _ kt => XS.lushr X5.here hx rfl (hb hby at_161) rfl kt) ?_
    refine OFin.to (T5.setTop (mkF m 163 #[.val (.int p0), .val (.int p1), .val (.int p2), .val (.int p3), .val (.int p4), .val (.int sc), .val (.ref b2), .val (.int (Int32.ofNat N)), .val (.long (own_key N p2 p3 N)), .second, .val (.int (1 : Int32)), .val (.int (1 : Int32)), .val (.int (Int32.ofNat k)), .val (.int (1 : Int32)), .val (.long ((((p2.toUInt32 >>> ((Int32.ofNat k) &&& 31).toUInt32).toInt32) &&& (1 : Int32)).toInt64)), .second, .val (.long ((((p3.toUInt32 >>> ((Int32.ofNat k) &&& 31).toUInt32).toInt32) &&& (1 : Int32)).toInt64)), .second] [(.long (1 : Int64)), (.long (((own_key N p2 p3 N).toUInt64 >>> ((((2 : Int32) * (Int32.ofNat k)) + (1 : Int32)) &&& 0x3f).toInt64.toUInt64).toInt64))])) (fun _ kt => XS.lconst X5.here hx rfl (hb hby at_162) kt) ?_
    refine OFin.to (T5.setTop (mkF m 164 #[.val (.int p0), .val (.int p1), .val (.int p2), .val (.int p3), .val (.int p4), .val (.int sc), .val (.ref b2), .val (.int (Int32.ofNat N)), .val (.long (own_key N p2 p3 N)), .second, .val (.int (1 : Int32)), .val (.int (1 : Int32)), .val (.int (Int32.ofNat k)), .val (.int (1 : Int32)), .val (.long ((((p2.toUInt32 >>> ((Int32.ofNat k) &&& 31).toUInt32).toInt32) &&& (1 : Int32)).toInt64)), .second, .val (.long ((((p3.toUInt32 >>> ((Int32.ofNat k) &&& 31).toUInt32).toInt32) &&& (1 : Int32)).toInt64)), .second] [(.long ((((own_key N p2 p3 N).toUInt64 >>> ((((2 : Int32) * (Int32.ofNat k)) + (1 : Int32)) &&& 0x3f).toInt64.toUInt64).toInt64) &&& (1 : Int64)))])) (fun _ kt => XS.land X5.here hx rfl (hb hby at_163) rfl kt) ?_
    refine OFin.to (T5.setTop (mkF m 166 #[.val (.int p0), .val (.int p1), .val (.int p2), .val (.int p3), .val (.int p4), .val (.int sc), .val (.ref b2), .val (.int (Int32.ofNat N)), .val (.long (own_key N p2 p3 N)), .second, .val (.int (1 : Int32)), .val (.int (1 : Int32)), .val (.int (Int32.ofNat k)), .val (.int (1 : Int32)), .val (.long ((((p2.toUInt32 >>> ((Int32.ofNat k) &&& 31).toUInt32).toInt32) &&& (1 : Int32)).toInt64)), .second, .val (.long ((((p3.toUInt32 >>> ((Int32.ofNat k) &&& 31).toUInt32).toInt32) &&& (1 : Int32)).toInt64)), .second] [(.long ((((p2.toUInt32 >>> ((Int32.ofNat k) &&& 31).toUInt32).toInt32) &&& (1 : Int32)).toInt64)), (.long ((((own_key N p2 p3 N).toUInt64 >>> ((((2 : Int32) * (Int32.ofNat k)) + (1 : Int32)) &&& 0x3f).toInt64.toUInt64).toInt64) &&& (1 : Int64)))])) (fun _ kt => XS.lload X5.here hx rfl (hb hby at_164) rfl kt) ?_
    refine OFin.to (T5.setTop (mkF m 167 #[.val (.int p0), .val (.int p1), .val (.int p2), .val (.int p3), .val (.int p4), .val (.int sc), .val (.ref b2), .val (.int (Int32.ofNat N)), .val (.long (own_key N p2 p3 N)), .second, .val (.int (1 : Int32)), .val (.int (1 : Int32)), .val (.int (Int32.ofNat k)), .val (.int (1 : Int32)), .val (.long ((((p2.toUInt32 >>> ((Int32.ofNat k) &&& 31).toUInt32).toInt32) &&& (1 : Int32)).toInt64)), .second, .val (.long ((((p3.toUInt32 >>> ((Int32.ofNat k) &&& 31).toUInt32).toInt32) &&& (1 : Int32)).toInt64)), .second] [(.int (XT.cmpL ((((own_key N p2 p3 N).toUInt64 >>> ((((2 : Int32) * (Int32.ofNat k)) + (1 : Int32)) &&& 0x3f).toInt64.toUInt64).toInt64) &&& (1 : Int64)) ((((p2.toUInt32 >>> ((Int32.ofNat k) &&& 31).toUInt32).toInt32) &&& (1 : Int32)).toInt64)))])) (fun _ kt => XT.lcmp X5.here hx rfl (hb hby at_166) rfl kt) ?_
    refine OFin.to (T5.setTop (mkF m 170 #[.val (.int p0), .val (.int p1), .val (.int p2), .val (.int p3), .val (.int p4), .val (.int sc), .val (.ref b2), .val (.int (Int32.ofNat N)), .val (.long (own_key N p2 p3 N)), .second, .val (.int (1 : Int32)), .val (.int (1 : Int32)), .val (.int (Int32.ofNat k)), .val (.int (1 : Int32)), .val (.long ((((p2.toUInt32 >>> ((Int32.ofNat k) &&& 31).toUInt32).toInt32) &&& (1 : Int32)).toInt64)), .second, .val (.long ((((p3.toUInt32 >>> ((Int32.ofNat k) &&& 31).toUInt32).toInt32) &&& (1 : Int32)).toInt64)), .second] [])) (fun _ kt => XS.ifNo X5.here hx rfl (hb hby at_167) rfl (XT.ll_ne_f (own_bitS N k p2 p3 hN hkn)) kt) ?_
    refine OFin.to (T5.setTop (mkF m 172 #[.val (.int p0), .val (.int p1), .val (.int p2), .val (.int p3), .val (.int p4), .val (.int sc), .val (.ref b2), .val (.int (Int32.ofNat N)), .val (.long (own_key N p2 p3 N)), .second, .val (.int (1 : Int32)), .val (.int (1 : Int32)), .val (.int (Int32.ofNat k)), .val (.int (1 : Int32)), .val (.long ((((p2.toUInt32 >>> ((Int32.ofNat k) &&& 31).toUInt32).toInt32) &&& (1 : Int32)).toInt64)), .second, .val (.long ((((p3.toUInt32 >>> ((Int32.ofNat k) &&& 31).toUInt32).toInt32) &&& (1 : Int32)).toInt64)), .second] [(.long (own_key N p2 p3 N))])) (fun _ kt => XS.lload X5.here hx rfl (hb hby at_170) rfl kt) ?_
    refine OFin.to (T5.setTop (mkF m 173 #[.val (.int p0), .val (.int p1), .val (.int p2), .val (.int p3), .val (.int p4), .val (.int sc), .val (.ref b2), .val (.int (Int32.ofNat N)), .val (.long (own_key N p2 p3 N)), .second, .val (.int (1 : Int32)), .val (.int (1 : Int32)), .val (.int (Int32.ofNat k)), .val (.int (1 : Int32)), .val (.long ((((p2.toUInt32 >>> ((Int32.ofNat k) &&& 31).toUInt32).toInt32) &&& (1 : Int32)).toInt64)), .second, .val (.long ((((p3.toUInt32 >>> ((Int32.ofNat k) &&& 31).toUInt32).toInt32) &&& (1 : Int32)).toInt64)), .second] [(.int (2 : Int32)), (.long (own_key N p2 p3 N))])) (fun _ kt => XS.iconst X5.here hx rfl (hb hby at_172) kt) ?_
    refine OFin.to (T5.setTop (mkF m 175 #[.val (.int p0), .val (.int p1), .val (.int p2), .val (.int p3), .val (.int p4), .val (.int sc), .val (.ref b2), .val (.int (Int32.ofNat N)), .val (.long (own_key N p2 p3 N)), .second, .val (.int (1 : Int32)), .val (.int (1 : Int32)), .val (.int (Int32.ofNat k)), .val (.int (1 : Int32)), .val (.long ((((p2.toUInt32 >>> ((Int32.ofNat k) &&& 31).toUInt32).toInt32) &&& (1 : Int32)).toInt64)), .second, .val (.long ((((p3.toUInt32 >>> ((Int32.ofNat k) &&& 31).toUInt32).toInt32) &&& (1 : Int32)).toInt64)), .second] [(.int (Int32.ofNat k)), (.int (2 : Int32)), (.long (own_key N p2 p3 N))])) (fun _ kt => XS.iload X5.here hx rfl (hb hby at_173) rfl kt) ?_
    refine OFin.to (T5.setTop (mkF m 176 #[.val (.int p0), .val (.int p1), .val (.int p2), .val (.int p3), .val (.int p4), .val (.int sc), .val (.ref b2), .val (.int (Int32.ofNat N)), .val (.long (own_key N p2 p3 N)), .second, .val (.int (1 : Int32)), .val (.int (1 : Int32)), .val (.int (Int32.ofNat k)), .val (.int (1 : Int32)), .val (.long ((((p2.toUInt32 >>> ((Int32.ofNat k) &&& 31).toUInt32).toInt32) &&& (1 : Int32)).toInt64)), .second, .val (.long ((((p3.toUInt32 >>> ((Int32.ofNat k) &&& 31).toUInt32).toInt32) &&& (1 : Int32)).toInt64)), .second] [(.int ((2 : Int32) * (Int32.ofNat k))), (.long (own_key N p2 p3 N))])) (fun _ kt => XS.imul X5.here hx rfl (hb hby at_175) rfl kt) ?_
    refine OFin.to (T5.setTop (mkF m 177 #[.val (.int p0), .val (.int p1), .val (.int p2), .val (.int p3), .val (.int p4), .val (.int sc), .val (.ref b2), .val (.int (Int32.ofNat N)), .val (.long (own_key N p2 p3 N)), .second, .val (.int (1 : Int32)), .val (.int (1 : Int32)), .val (.int (Int32.ofNat k)), .val (.int (1 : Int32)), .val (.long ((((p2.toUInt32 >>> ((Int32.ofNat k) &&& 31).toUInt32).toInt32) &&& (1 : Int32)).toInt64)), .second, .val (.long ((((p3.toUInt32 >>> ((Int32.ofNat k) &&& 31).toUInt32).toInt32) &&& (1 : Int32)).toInt64)), .second] [(.long (((own_key N p2 p3 N).toUInt64 >>> (((2 : Int32) * (Int32.ofNat k)) &&& 0x3f).toInt64.toUInt64).toInt64))])) (fun _ kt => XS.lushr X5.here hx rfl (hb hby at_176) rfl kt) ?_
    refine OFin.to (T5.setTop (mkF m 178 #[.val (.int p0), .val (.int p1), .val (.int p2), .val (.int p3), .val (.int p4), .val (.int sc), .val (.ref b2), .val (.int (Int32.ofNat N)), .val (.long (own_key N p2 p3 N)), .second, .val (.int (1 : Int32)), .val (.int (1 : Int32)), .val (.int (Int32.ofNat k)), .val (.int (1 : Int32)), .val (.long ((((p2.toUInt32 >>> ((Int32.ofNat k) &&& 31).toUInt32).toInt32) &&& (1 : Int32)).toInt64)), .second, .val (.long ((((p3.toUInt32 >>> ((Int32.ofNat k) &&& 31).toUInt32).toInt32) &&& (1 : Int32)).toInt64)), .second] [(.long (1 : Int64)), (.long (((own_key N p2 p3 N).toUInt64 >>> (((2 : Int32) * (Int32.ofNat k)) &&& 0x3f).toInt64.toUInt64).toInt64))])) (fun _ kt => XS.lconst X5.here hx rfl (hb hby at_177) kt) ?_
    refine OFin.to (T5.setTop (mkF m 179 #[.val (.int p0), .val (.int p1), .val (.int p2), .val (.int p3), .val (.int p4), .val (.int sc), .val (.ref b2), .val (.int (Int32.ofNat N)), .val (.long (own_key N p2 p3 N)), .second, .val (.int (1 : Int32)), .val (.int (1 : Int32)), .val (.int (Int32.ofNat k)), .val (.int (1 : Int32)), .val (.long ((((p2.toUInt32 >>> ((Int32.ofNat k) &&& 31).toUInt32).toInt32) &&& (1 : Int32)).toInt64)), .second, .val (.long ((((p3.toUInt32 >>> ((Int32.ofNat k) &&& 31).toUInt32).toInt32) &&& (1 : Int32)).toInt64)), .second] [(.long ((((own_key N p2 p3 N).toUInt64 >>> (((2 : Int32) * (Int32.ofNat k)) &&& 0x3f).toInt64.toUInt64).toInt64) &&& (1 : Int64)))])) (fun _ kt => XS.land X5.here hx rfl (hb hby at_178) rfl kt) ?_
    refine OFin.to (T5.setTop (mkF m 181 #[.val (.int p0), .val (.int p1), .val (.int p2), .val (.int p3), .val (.int p4), .val (.int sc), .val (.ref b2), .val (.int (Int32.ofNat N)), .val (.long (own_key N p2 p3 N)), .second, .val (.int (1 : Int32)), .val (.int (1 : Int32)), .val (.int (Int32.ofNat k)), .val (.int (1 : Int32)), .val (.long ((((p2.toUInt32 >>> ((Int32.ofNat k) &&& 31).toUInt32).toInt32) &&& (1 : Int32)).toInt64)), .second, .val (.long ((((p3.toUInt32 >>> ((Int32.ofNat k) &&& 31).toUInt32).toInt32) &&& (1 : Int32)).toInt64)), .second] [(.long ((((p3.toUInt32 >>> ((Int32.ofNat k) &&& 31).toUInt32).toInt32) &&& (1 : Int32)).toInt64)), (.long ((((own_key N p2 p3 N).toUInt64 >>> (((2 : Int32) * (Int32.ofNat k)) &&& 0x3f).toInt64.toUInt64).toInt64) &&& (1 : Int64)))])) (fun _ kt => XS.lload X5.here hx rfl (hb hby at_179) rfl kt) ?_
    refine OFin.to (T5.setTop (mkF m 182 #[.val (.int p0), .val (.int p1), .val (.int p2), .val (.int p3), .val (.int p4), .val (.int sc), .val (.ref b2), .val (.int (Int32.ofNat N)), .val (.long (own_key N p2 p3 N)), .second, .val (.int (1 : Int32)), .val (.int (1 : Int32)), .val (.int (Int32.ofNat k)), .val (.int (1 : Int32)), .val (.long ((((p2.toUInt32 >>> ((Int32.ofNat k) &&& 31).toUInt32).toInt32) &&& (1 : Int32)).toInt64)), .second, .val (.long ((((p3.toUInt32 >>> ((Int32.ofNat k) &&& 31).toUInt32).toInt32) &&& (1 : Int32)).toInt64)), .second] [(.int (XT.cmpL ((((own_key N p2 p3 N).toUInt64 >>> (((2 : Int32) * (Int32.ofNat k)) &&& 0x3f).toInt64.toUInt64).toInt64) &&& (1 : Int64)) ((((p3.toUInt32 >>> ((Int32.ofNat k) &&& 31).toUInt32).toInt32) &&& (1 : Int32)).toInt64)))])) (fun _ kt => XT.lcmp X5.here hx rfl (hb hby at_181) rfl kt) ?_
    refine OFin.to (T5.setTop (mkF m 185 #[.val (.int p0), .val (.int p1), .val (.int p2), .val (.int p3), .val (.int p4), .val (.int sc), .val (.ref b2), .val (.int (Int32.ofNat N)), .val (.long (own_key N p2 p3 N)), .second, .val (.int (1 : Int32)), .val (.int (1 : Int32)), .val (.int (Int32.ofNat k)), .val (.int (1 : Int32)), .val (.long ((((p2.toUInt32 >>> ((Int32.ofNat k) &&& 31).toUInt32).toInt32) &&& (1 : Int32)).toInt64)), .second, .val (.long ((((p3.toUInt32 >>> ((Int32.ofNat k) &&& 31).toUInt32).toInt32) &&& (1 : Int32)).toInt64)), .second] [])) (fun _ kt => XS.ifNo X5.here hx rfl (hb hby at_182) rfl (XT.ll_ne_f (own_bitT N k p2 p3 hN hkn)) kt) ?_
    refine OFin.to (T5.setTop (mkF m 186 #[.val (.int p0), .val (.int p1), .val (.int p2), .val (.int p3), .val (.int p4), .val (.int sc), .val (.ref b2), .val (.int (Int32.ofNat N)), .val (.long (own_key N p2 p3 N)), .second, .val (.int (1 : Int32)), .val (.int (1 : Int32)), .val (.int (Int32.ofNat k)), .val (.int (1 : Int32)), .val (.long ((((p2.toUInt32 >>> ((Int32.ofNat k) &&& 31).toUInt32).toInt32) &&& (1 : Int32)).toInt64)), .second, .val (.long ((((p3.toUInt32 >>> ((Int32.ofNat k) &&& 31).toUInt32).toInt32) &&& (1 : Int32)).toInt64)), .second] [(.int (1 : Int32))])) (fun _ kt => XS.iconst X5.here hx rfl (hb hby at_185) kt) ?_
    refine OFin.to (T5.setTop (mkF m 190 #[.val (.int p0), .val (.int p1), .val (.int p2), .val (.int p3), .val (.int p4), .val (.int sc), .val (.ref b2), .val (.int (Int32.ofNat N)), .val (.long (own_key N p2 p3 N)), .second, .val (.int (1 : Int32)), .val (.int (1 : Int32)), .val (.int (Int32.ofNat k)), .val (.int (1 : Int32)), .val (.long ((((p2.toUInt32 >>> ((Int32.ofNat k) &&& 31).toUInt32).toInt32) &&& (1 : Int32)).toInt64)), .second, .val (.long ((((p3.toUInt32 >>> ((Int32.ofNat k) &&& 31).toUInt32).toInt32) &&& (1 : Int32)).toInt64)), .second] [(.int (1 : Int32))])) (fun _ kt => XS.goto X5.here hx rfl (pc0 := 186) (pc' := 190) rfl (hb hby at_186) (by decide) (by decide) kt) ?_
    refine OFin.to (T5.setTop (mkF m 192 #[.val (.int p0), .val (.int p1), .val (.int p2), .val (.int p3), .val (.int p4), .val (.int sc), .val (.ref b2), .val (.int (Int32.ofNat N)), .val (.long (own_key N p2 p3 N)), .second, .val (.int (1 : Int32)), .val (.int (1 : Int32)), .val (.int (Int32.ofNat k)), .val (.int (1 : Int32)), .val (.long ((((p2.toUInt32 >>> ((Int32.ofNat k) &&& 31).toUInt32).toInt32) &&& (1 : Int32)).toInt64)), .second, .val (.long ((((p3.toUInt32 >>> ((Int32.ofNat k) &&& 31).toUInt32).toInt32) &&& (1 : Int32)).toInt64)), .second] [])) (fun _ kt => XS.istore X5.here hx rfl (hb hby at_190) rfl (l' := #[.val (.int p0), .val (.int p1), .val (.int p2), .val (.int p3), .val (.int p4), .val (.int sc), .val (.ref b2), .val (.int (Int32.ofNat N)), .val (.long (own_key N p2 p3 N)), .second, .val (.int (1 : Int32)), .val (.int (1 : Int32)), .val (.int (Int32.ofNat k)), .val (.int (1 : Int32)), .val (.long ((((p2.toUInt32 >>> ((Int32.ofNat k) &&& 31).toUInt32).toInt32) &&& (1 : Int32)).toInt64)), .second, .val (.long ((((p3.toUInt32 >>> ((Int32.ofNat k) &&& 31).toUInt32).toInt32) &&& (1 : Int32)).toInt64)), .second]) rfl kt) ?_
    exact J192 _ _ _ _
  by_cases hN0 : N = 0
  case pos =>
    refine OFin.to (T5.setTop (mkF m 85 #[.val (.int p0), .val (.int p1), .val (.int p2), .val (.int p3), .val (.int p4), .val (.int sc), .val (.ref b2), .val (.int (Int32.ofNat N)), .val (.long (own_key N p2 p3 N)), .second, .unset, .unset, .unset, .unset, .unset, .unset, .unset, .unset] [])) (fun _ kt => XS.ifYes X5.here hx rfl (pc0 := 69) (pc' := 85) rfl (hb hby at_69) rfl (XT.i0_eq_t ((own_ofEq N 0 (by omega) (by decide)).mpr hN0)) (by decide) (by decide) kt) ?_
    exact J85
  refine OFin.to (T5.setTop (mkF m 72 #[.val (.int p0), .val (.int p1), .val (.int p2), .val (.int p3), .val (.int p4), .val (.int sc), .val (.ref b2), .val (.int (Int32.ofNat N)), .val (.long (own_key N p2 p3 N)), .second, .unset, .unset, .unset, .unset, .unset, .unset, .unset, .unset] [])) (fun _ kt => XS.ifNo X5.here hx rfl (hb hby at_69) rfl (XT.i0_eq_f (fun q => hN0 ((own_ofEq N 0 (by omega) (by decide)).mp q))) kt) ?_
  refine OFin.to (T5.setTop (mkF m 73 #[.val (.int p0), .val (.int p1), .val (.int p2), .val (.int p3), .val (.int p4), .val (.int sc), .val (.ref b2), .val (.int (Int32.ofNat N)), .val (.long (own_key N p2 p3 N)), .second, .unset, .unset, .unset, .unset, .unset, .unset, .unset, .unset] [(.long (1 : Int64))])) (fun _ kt => XS.lconst X5.here hx rfl (hb hby at_72) kt) ?_
  refine OFin.to (T5.setTop (mkF m 75 #[.val (.int p0), .val (.int p1), .val (.int p2), .val (.int p3), .val (.int p4), .val (.int sc), .val (.ref b2), .val (.int (Int32.ofNat N)), .val (.long (own_key N p2 p3 N)), .second, .unset, .unset, .unset, .unset, .unset, .unset, .unset, .unset] [(.int (Int32.ofNat N)), (.long (1 : Int64))])) (fun _ kt => XS.iload X5.here hx rfl (hb hby at_73) rfl kt) ?_
  refine OFin.to (T5.setTop (mkF m 76 #[.val (.int p0), .val (.int p1), .val (.int p2), .val (.int p3), .val (.int p4), .val (.int sc), .val (.ref b2), .val (.int (Int32.ofNat N)), .val (.long (own_key N p2 p3 N)), .second, .unset, .unset, .unset, .unset, .unset, .unset, .unset, .unset] [(.int (1 : Int32)), (.int (Int32.ofNat N)), (.long (1 : Int64))])) (fun _ kt => XS.iconst X5.here hx rfl (hb hby at_75) kt) ?_
  refine OFin.to (T5.setTop (mkF m 77 #[.val (.int p0), .val (.int p1), .val (.int p2), .val (.int p3), .val (.int p4), .val (.int sc), .val (.ref b2), .val (.int (Int32.ofNat N)), .val (.long (own_key N p2 p3 N)), .second, .unset, .unset, .unset, .unset, .unset, .unset, .unset, .unset] [(.int ((Int32.ofNat N) - (1 : Int32))), (.long (1 : Int64))])) (fun _ kt => XS.isub X5.here hx rfl (hb hby at_76) rfl kt) ?_
  refine OFin.to (T5.setTop (mkF m 78 #[.val (.int p0), .val (.int p1), .val (.int p2), .val (.int p3), .val (.int p4), .val (.int sc), .val (.ref b2), .val (.int (Int32.ofNat N)), .val (.long (own_key N p2 p3 N)), .second, .unset, .unset, .unset, .unset, .unset, .unset, .unset, .unset] [(.long ((1 : Int64) <<< (((Int32.ofNat N) - (1 : Int32)) &&& 0x3f).toInt64))])) (fun _ kt => XS.lshl X5.here hx rfl (hb hby at_77) rfl kt) ?_
  refine OFin.to (T5.setTop (mkF m 80 #[.val (.int p0), .val (.int p1), .val (.int p2), .val (.int p3), .val (.int p4), .val (.int sc), .val (.ref b2), .val (.int (Int32.ofNat N)), .val (.long (own_key N p2 p3 N)), .second, .unset, .unset, .unset, .unset, .unset, .unset, .unset, .unset] [(.int sc), (.long ((1 : Int64) <<< (((Int32.ofNat N) - (1 : Int32)) &&& 0x3f).toInt64))])) (fun _ kt => XS.iload X5.here hx rfl (hb hby at_78) rfl kt) ?_
  refine OFin.to (T5.setTop (mkF m 81 #[.val (.int p0), .val (.int p1), .val (.int p2), .val (.int p3), .val (.int p4), .val (.int sc), .val (.ref b2), .val (.int (Int32.ofNat N)), .val (.long (own_key N p2 p3 N)), .second, .unset, .unset, .unset, .unset, .unset, .unset, .unset, .unset] [(.long (sc.toInt64)), (.long ((1 : Int64) <<< (((Int32.ofNat N) - (1 : Int32)) &&& 0x3f).toInt64))])) (fun _ kt => XS.i2l X5.here hx rfl (hb hby at_80) rfl kt) ?_
  refine OFin.to (T5.setTop (mkF m 82 #[.val (.int p0), .val (.int p1), .val (.int p2), .val (.int p3), .val (.int p4), .val (.int sc), .val (.ref b2), .val (.int (Int32.ofNat N)), .val (.long (own_key N p2 p3 N)), .second, .unset, .unset, .unset, .unset, .unset, .unset, .unset, .unset] [(.int (XT.cmpL ((1 : Int64) <<< (((Int32.ofNat N) - (1 : Int32)) &&& 0x3f).toInt64) (sc.toInt64)))])) (fun _ kt => XT.lcmp X5.here hx rfl (hb hby at_81) rfl kt) ?_
  refine OFin.to (T5.setTop (mkF m 85 #[.val (.int p0), .val (.int p1), .val (.int p2), .val (.int p3), .val (.int p4), .val (.int sc), .val (.ref b2), .val (.int (Int32.ofNat N)), .val (.long (own_key N p2 p3 N)), .second, .unset, .unset, .unset, .unset, .unset, .unset, .unset, .unset] [])) (fun _ kt => XS.ifNo X5.here hx rfl (hb hby at_82) rfl (XT.ll_ge_f (own_pwprev N sc hN (by omega) (hlt (N - 1) (by omega)))) kt) ?_
  exact J85
set_option maxRecDepth 65536 in
set_option maxHeartbeats 40000000 in
theorem comes_1 {Post : Tables → Env → Array Value → State → Outcome → State → Prop} (hpost : ∀ tb e args s v u, (limb_1_1.after args s (.returned v) u = true ∧ limb_1_2.after args s (.returned v) u = true ∧ True) → FrameEnd s (.returned v) u (Jvm.fieldLocs frame_1_writes args s ++ Jvm.arrayLocs frame_1_arrays args s ++ Jvm.staticLocs frame_1_statics s) 96 40896 → Post tb e args s (.returned v) u) :
    ArmFor flags0 classFile x code maxLocals ret World_1 tables_1 room_1 Calls_1 rest_1 Pre_1 Post := by
  intro l hfl _ _ p e ha hc hk s m args below hf hA hF happ hP
  obtain ⟨hcalls, hrest, hpre⟩ := hP
  obtain ⟨-, -, -, hnamed, -, -, -, hat⟩ := (Spec.applies_iff hf).mp happ
  obtain ⟨hg, hn⟩ := and_e (Cond.before_iff.mp (show (Jvm.Cond.and given_1 narrow_1).before args s = true from hpre))
  obtain ⟨hcnt, g0⟩ := and_e hg
  obtain ⟨k0, g1⟩ := and_e g0
  obtain ⟨k1, g2⟩ := and_e g1
  obtain ⟨k2, g3⟩ := and_e g2
  obtain ⟨k3, g4⟩ := and_e g3
  obtain ⟨w0, w1, w2, w3, w4, rfl⟩ : ∃ w0 w1 w2 w3 w4 : Value, args = #[w0, w1, w2, w3, w4] := by
    have hs : args.size = 5 := by simpa [Cond.value, given_1] using hcnt
    obtain ⟨L⟩ := args
    match L, hs with
    | [w0, w1, w2, w3, w4], _ => exact ⟨w0, w1, w2, w3, w4, rfl⟩
  have hw := fun d (hd : d ∈ tables_1) => atoms_spec (ws := Jvm.Cond.code x code maxLocals ret :: tables_1) hat d (List.mem_cons_of_mem _ hd)
  have hfit : Fit s := fun {y c} hc i hi => by
    obtain ⟨ha, rfl⟩ := Array.getElem?_eq_some_iff.mp hc
    have q := List.all_eq_true.mp ((Array.all_eq_true_iff_forall_mem.mp hF) _ (Array.getElem_mem ha)) i (List.mem_range.mpr hi)
    simpa [Array.getElem?_eq_getElem hi] using q
  obtain ⟨hsets, hown0⟩ := atoms_of _ (rest_1_c_eq ▸ (show rest_1_c.before _ s = true from hrest))
  have hr0 := Cond.before_iff.mp hown0
  obtain ⟨v0, ev0⟩ := is_v k0
  obtain rfl : w0 = (.int v0) := Option.some.inj ev0
  obtain ⟨v1, ev1⟩ := is_v k1
  obtain rfl : w1 = (.int v1) := Option.some.inj ev1
  obtain ⟨v2, ev2⟩ := is_v k2
  obtain rfl : w2 = (.int v2) := Option.some.inj ev2
  obtain ⟨v3, ev3⟩ := is_v k3
  obtain rfl : w3 = (.int v3) := Option.some.inj ev3
  obtain ⟨v4, ev4⟩ := is_v g4
  obtain rfl : w4 = (.int v4) := Option.some.inj ev4
  obtain ⟨aS, evS⟩ := arr_v (Cond.before_iff.mp (hsets _ (List.mem_of_getElem? (i := 6) rfl)))
  have HS := Sta.start evS (Or.inr ⟨(hw _ (List.mem_of_getElem? (i := 93) rfl)), hsets _ (List.mem_of_getElem? (i := 2) rfl)⟩)
  obtain ⟨n, o, h1, h2, h3, _, L, rfl, ⟨rfl, N⟩, hq⟩ := rm0 l s _ hw tables_1 v0 v1 v2 v3 v4 s.heap aS HS (Old.start s) p e ha hc hk s m _ below hf ((Spec.applies_iff_loose hf).mp happ).1 ⟨rfl, State.Warmed39.refl s, rfl⟩ trivial
  refine ⟨n, _, h1, h2, h3, hpost _ _ _ _ _ _ ⟨Cond.after_iff.mpr rfl, Cond.after_iff.mpr (eq_i res_at (Term.int_eval (1)) rfl), trivial⟩ ⟨hq.1, hq.2.1, (hq.2.2.sift fun y hy => Or.inr (N y hy)).mono (by decide) (by decide)⟩⟩
theorem main_1_1 : Claimed_1_1 := comes_1 fun _ _ _ _ _ _ h hF => ⟨h.1, hF⟩
theorem main_1_2 : Claimed_1_2 := comes_1 fun _ _ _ _ _ _ h hF => ⟨h.2.1, hF⟩
end Jvm.Pilot.@@N@@
namespace Jvm.Pilot.@@N@@
open Jvm Jvm.ClassFile Sem Op Lib Jvm.Free Jvm.Stand Jvm.Pilot.@@N@@.Jvm.D
/-! MADE BY PROGRAM (witnessworld.py) out of the Statement's table words and the real class files: 36 classes; the members and pool entries that the words name. The judged class is class 1, her method 1. -/
namespace start1
open Jvm.ClassFile
def u (s : String) : CpInfo := .utf8 (stringToUtf16 s)
/-- a pool by its gaps: so many unusable entries, then the entry; so many at the end -/
def gap : Nat → List CpInfo → List CpInfo
  | 0, r => r
  | n + 1, r => .unusable :: gap n r
def poolList (es : List (Nat × CpInfo)) (last : Nat) : List CpInfo := es.foldr (fun e r => gap e.1 (e.2 :: r)) (gap last [])
def pool (es : List (Nat × CpInfo)) (last : Nat) : Array CpInfo := ⟨poolList es last⟩
def fileOf (pool : Array CpInfo) (this : Nat) (attrs : Array Attribute := #[]) (ms : Array MethodInfo := #[]) (fl : Nat := 33) (sup : Nat := 0) (ifs : Array Nat := #[]) (fds : Array FieldInfo := #[]) : ClassFile where
  minorVersion := 0
  majorVersion := 65
  constantPool := pool
  accessFlags := fl
  thisClass := this
  superClass := sup
  interfaces := ifs
  fields := fds
  methods := ms
  attributes := attrs
def plain (name : String) (sup : Option ClassId) : Class where
  name := name
  kind := .ordinary
  loader := none
  accessFlags := 33
  super := sup
  interfaces := #[]
  cf := none
  fields := #[]
  methods := #[]
  instanceTypes := #[]
  staticTypes := #[]
  resolved := #[]
  callSites := []
  init := .initialized
  statics := none
  mirror := none

def pool0 : Array CpInfo := pool [(5, u "<init>"), (0, u "()V"), (1, .class_ 10), (1, u "java/lang/Object")] 113

def k0c0 : Code := { maxStack := 0, maxLocals := 1, code := object_method_1_code, exceptionTable := #[], attributes := #[] }
def k0m0 : Method := { name := "<init>", desc := "()V", sig := { parameters := [], returnType := none }, accessFlags := 1, code := some k0c0 }
/-- java/lang/Object -/
def k0 : Class := { plain "java/lang/Object" none with
  accessFlags := 33
  interfaces := #[]
  cf := some (fileOf pool0 8 #[] #[{ accessFlags := 1, nameIndex := 5, descriptorIndex := 6, attributes := #[] }] 33 0 #[] #[])
  fields := #[]
  methods := #[k0m0]
  instanceTypes := #[]
  staticTypes := #[]
  resolved := Array.replicate 124 none
  statics := none }

def pool1 : Array CpInfo := pool [(2, .class_ 4), (1, u "java/lang/Object"), (0, u "<init>"), (0, u "()V"), (0, .integer 2147483647), (0, .methodref 9 10), (0, .class_ 11), (0, .nameAndType 12 13), (0, u "java/lang/Math"), (0, u "max"), (0, u "(II)I"), (0, .class_ 15), (0, u "com/example/fixpoint_checker/fixpointchecker/symbolic/StateEncoding"), (0, .methodref 14 17), (0, .nameAndType 5 18), (0, u "(III)V"), (0, .methodref 14 20), (0, .nameAndType 21 22), (0, u "getBitCount"), (0, u "()I"), (0, .methodref 14 24), (0, .nameAndType 25 26), (0, u "pairKey"), (0, u "(II)J"), (0, .class_ 28), (0, u "com/example/fixpoint_checker/fixpointchecker/symbolic/StateEncodingPairKeyPinLaw"), (2, u "law"), (0, u "(IIIII)Z")] 3

def k1m0 : Method := { name := "<init>", desc := "()V", sig := { parameters := [], returnType := none }, accessFlags := 1, code := none }
def k1c1 : Code := { maxStack := 5, maxLocals := 18, code := code, exceptionTable := #[], attributes := #[] }
def k1m1 : Method := { name := "law", desc := "(IIIII)Z", sig := { parameters := [.int, .int, .int, .int, .int], returnType := some .boolean }, accessFlags := 9, code := some k1c1 }
/-- com/example/fixpoint_checker/fixpointchecker/symbolic/StateEncodingPairKeyPinLaw -/
def k1 : Class := { plain "com/example/fixpoint_checker/fixpointchecker/symbolic/StateEncodingPairKeyPinLaw" (some 0) with
  accessFlags := 49
  interfaces := #[]
  cf := some (fileOf pool1 27 #[] #[{ accessFlags := 1, nameIndex := 5, descriptorIndex := 6, attributes := #[] }, { accessFlags := 9, nameIndex := 31, descriptorIndex := 32, attributes := #[] }] 49 2 #[] #[])
  fields := #[]
  methods := #[k1m0, k1m1]
  instanceTypes := #[]
  staticTypes := #[]
  resolved := Array.replicate 36 none
  statics := none }

def pool2 : Array CpInfo := pool [(1, .class_ 2), (0, u "java/lang/Math"), (1, .class_ 6), (1, u "java/lang/Object"), (0, u "<init>"), (0, u "()V"), (89, .class_ 100), (1, u "java/lang/Math$RandomNumberGeneratorHolder"), (71, u "negativeZeroFloatBits"), (0, u "J"), (2, u "negativeZeroDoubleBits"), (21, u "max"), (2, u "min"), (43, u "$assertionsDisabled"), (0, u "Z"), (88, u "(II)I"), (2, u "twoToTheDoubleScaleDown"), (0, u "D"), (4, u "twoToTheDoubleScaleUp"), (9, u "E"), (3, u "PI"), (2, u "TAU"), (2, u "DEGREES_TO_RADIANS"), (0, u "RADIANS_TO_DEGREES")] 94

def k2m0 : Method := { name := "<init>", desc := "()V", sig := { parameters := [], returnType := none }, accessFlags := 2, code := none }
def k2c1 : Code := { maxStack := 2, maxLocals := 2, code := jdk_29_method_65_code, exceptionTable := #[], attributes := #[] }
def k2m1 : Method := { name := "max", desc := "(II)I", sig := { parameters := [.int, .int], returnType := some .int }, accessFlags := 9, code := some k2c1 }
def k2c2 : Code := { maxStack := 2, maxLocals := 2, code := jdk_29_method_69_code, exceptionTable := #[], attributes := #[] }
def k2m2 : Method := { name := "min", desc := "(II)I", sig := { parameters := [.int, .int], returnType := some .int }, accessFlags := 9, code := some k2c2 }
/-- java/lang/Math -/
def k2 : Class := { plain "java/lang/Math" (some 0) with
  accessFlags := 49
  interfaces := #[]
  cf := some (fileOf pool2 1 #[.nestMembers #[98]] #[{ accessFlags := 2, nameIndex := 7, descriptorIndex := 8, attributes := #[] }, { accessFlags := 9, nameIndex := 198, descriptorIndex := 335, attributes := #[] }, { accessFlags := 9, nameIndex := 201, descriptorIndex := 335, attributes := #[] }] 49 4 #[] #[{ accessFlags := 25, nameIndex := 354, descriptorIndex := 339, attributes := #[] }, { accessFlags := 25, nameIndex := 358, descriptorIndex := 339, attributes := #[] }, { accessFlags := 25, nameIndex := 361, descriptorIndex := 339, attributes := #[] }, { accessFlags := 26, nameIndex := 364, descriptorIndex := 339, attributes := #[] }, { accessFlags := 26, nameIndex := 365, descriptorIndex := 339, attributes := #[] }, { accessFlags := 26, nameIndex := 172, descriptorIndex := 173, attributes := #[] }, { accessFlags := 26, nameIndex := 176, descriptorIndex := 173, attributes := #[] }, { accessFlags := 8, nameIndex := 344, descriptorIndex := 339, attributes := #[] }, { accessFlags := 8, nameIndex := 338, descriptorIndex := 339, attributes := #[] }, { accessFlags := 4120, nameIndex := 245, descriptorIndex := 246, attributes := #[] }])
  fields := #[{ name := "E", type := .double, accessFlags := 25, slot := 0, constantValue := 0 }, { name := "PI", type := .double, accessFlags := 25, slot := 1, constantValue := 0 }, { name := "TAU", type := .double, accessFlags := 25, slot := 2, constantValue := 0 }, { name := "DEGREES_TO_RADIANS", type := .double, accessFlags := 26, slot := 3, constantValue := 0 }, { name := "RADIANS_TO_DEGREES", type := .double, accessFlags := 26, slot := 4, constantValue := 0 }, { name := "negativeZeroFloatBits", type := .long, accessFlags := 26, slot := 5, constantValue := 0 }, { name := "negativeZeroDoubleBits", type := .long, accessFlags := 26, slot := 6, constantValue := 0 }, { name := "twoToTheDoubleScaleUp", type := .double, accessFlags := 8, slot := 7, constantValue := 0 }, { name := "twoToTheDoubleScaleDown", type := .double, accessFlags := 8, slot := 8, constantValue := 0 }, { name := "$assertionsDisabled", type := .boolean, accessFlags := 4120, slot := 9, constantValue := 0 }]
  methods := #[k2m0, k2m1, k2m2]
  instanceTypes := #[]
  staticTypes := #[.double, .double, .double, .double, .double, .long, .long, .double, .double, .boolean]
  resolved := Array.replicate 460 none
  statics := none }

def pool3 : Array CpInfo := pool [(1, .methodref 2 3), (0, .class_ 4), (0, .nameAndType 5 6), (0, u "java/lang/Object"), (0, u "<init>"), (0, u "()V"), (0, .class_ 8), (0, u "java/util/HashMap"), (0, .methodref 7 3), (0, .fieldref 11 12), (0, .class_ 13), (0, .nameAndType 14 15), (0, u "com/example/fixpoint_checker/fixpointchecker/symbolic/StateEncoding"), (0, u "equalities"), (0, u "Ljava/util/Map;"), (9, .long 2), (3, .long 2147483647), (5, .fieldref 11 36), (0, .nameAndType 37 38), (0, u "stateCount"), (0, u "I"), (0, .fieldref 11 40), (0, .nameAndType 41 38), (0, u "dimension"), (0, .fieldref 11 43), (0, .nameAndType 44 38), (0, u "bitCount"), (0, .class_ 46), (0, u "com/example/fixpoint_checker/fixpointchecker/bdd/DecisionDiagrams"), (0, .methodref 45 48), (0, .nameAndType 5 49), (0, u "(II)V"), (0, .fieldref 11 51), (0, .nameAndType 52 53), (0, u "diagrams"), (0, u "Lcom/example/fixpoint_checker/fixpointchecker/bdd/DecisionDiagrams;"), (0, .fieldref 11 55), (0, .nameAndType 56 57), (0, u "unprimedLevels"), (0, u "[Z"), (0, .methodref 11 59), (0, .nameAndType 60 61), (0, u "newNumbers"), (0, u "(I)[I"), (0, .fieldref 11 63), (0, .nameAndType 64 65), (0, u "primings"), (0, u "[I"), (0, .fieldref 11 67), (0, .nameAndType 68 65), (0, u "unprimings"), (0, .fieldref 11 70), (0, .nameAndType 71 65), (0, u "primedQuantifiers"), (0, .fieldref 11 73), (0, .nameAndType 74 65), (0, u "stateQuantifiers"), (0, .fieldref 11 76), (0, .nameAndType 77 65), (0, u "laterQuantifiers"), (0, .fieldref 11 79), (0, .nameAndType 80 65), (0, u "firstBitQuantifiers"), (0, .fieldref 11 82), (0, .nameAndType 83 65), (0, u "stateCodes"), (29, u "()I"), (133, .methodref 248 249), (0, .class_ 250), (0, .nameAndType 251 252), (0, u "java/util/Arrays"), (0, u "fill"), (0, u "([II)V"), (2, u "(III)V"), (7, u "getBitCount"), (10, u "pairKey"), (0, u "(II)J")] 28

def k3c0 : Code := { maxStack := 5, maxLocals := 8, code := prog_123_method_1_code, exceptionTable := #[], attributes := #[] }
def k3m0 : Method := { name := "<init>", desc := "(III)V", sig := { parameters := [.int, .int, .int], returnType := none }, accessFlags := 0, code := some k3c0 }
def k3c1 : Code := { maxStack := 1, maxLocals := 1, code := prog_123_method_5_code, exceptionTable := #[], attributes := #[] }
def k3m1 : Method := { name := "getBitCount", desc := "()I", sig := { parameters := [], returnType := some .int }, accessFlags := 0, code := some k3c1 }
def k3c2 : Code := { maxStack := 5, maxLocals := 7, code := prog_123_method_17_code, exceptionTable := #[], attributes := #[] }
def k3m2 : Method := { name := "pairKey", desc := "(II)J", sig := { parameters := [.int, .int], returnType := some .long }, accessFlags := 0, code := some k3c2 }
def k3c3 : Code := { maxStack := 2, maxLocals := 2, code := prog_123_method_38_code, exceptionTable := #[], attributes := #[] }
def k3m3 : Method := { name := "newNumbers", desc := "(I)[I", sig := { parameters := [.int], returnType := some (.array .int) }, accessFlags := 10, code := some k3c3 }
/-- com/example/fixpoint_checker/fixpointchecker/symbolic/StateEncoding -/
def k3 : Class := { plain "com/example/fixpoint_checker/fixpointchecker/symbolic/StateEncoding" (some 0) with
  accessFlags := 32
  interfaces := #[]
  cf := some (fileOf pool3 11 #[] #[{ accessFlags := 0, nameIndex := 5, descriptorIndex := 255, attributes := #[] }, { accessFlags := 0, nameIndex := 263, descriptorIndex := 113, attributes := #[] }, { accessFlags := 0, nameIndex := 274, descriptorIndex := 275, attributes := #[] }, { accessFlags := 10, nameIndex := 60, descriptorIndex := 61, attributes := #[] }] 32 2 #[] #[{ accessFlags := 18, nameIndex := 52, descriptorIndex := 53, attributes := #[] }, { accessFlags := 18, nameIndex := 37, descriptorIndex := 38, attributes := #[] }, { accessFlags := 18, nameIndex := 41, descriptorIndex := 38, attributes := #[] }, { accessFlags := 18, nameIndex := 44, descriptorIndex := 38, attributes := #[] }, { accessFlags := 18, nameIndex := 56, descriptorIndex := 57, attributes := #[] }, { accessFlags := 18, nameIndex := 64, descriptorIndex := 65, attributes := #[] }, { accessFlags := 18, nameIndex := 68, descriptorIndex := 65, attributes := #[] }, { accessFlags := 18, nameIndex := 71, descriptorIndex := 65, attributes := #[] }, { accessFlags := 18, nameIndex := 74, descriptorIndex := 65, attributes := #[] }, { accessFlags := 18, nameIndex := 77, descriptorIndex := 65, attributes := #[] }, { accessFlags := 18, nameIndex := 80, descriptorIndex := 65, attributes := #[] }, { accessFlags := 18, nameIndex := 83, descriptorIndex := 65, attributes := #[] }, { accessFlags := 18, nameIndex := 14, descriptorIndex := 15, attributes := #[] }])
  fields := #[{ name := "diagrams", type := (.object "com/example/fixpoint_checker/fixpointchecker/bdd/DecisionDiagrams"), accessFlags := 18, slot := 0, constantValue := 0 }, { name := "stateCount", type := .int, accessFlags := 18, slot := 1, constantValue := 0 }, { name := "dimension", type := .int, accessFlags := 18, slot := 2, constantValue := 0 }, { name := "bitCount", type := .int, accessFlags := 18, slot := 3, constantValue := 0 }, { name := "unprimedLevels", type := (.array .boolean), accessFlags := 18, slot := 4, constantValue := 0 }, { name := "primings", type := (.array .int), accessFlags := 18, slot := 5, constantValue := 0 }, { name := "unprimings", type := (.array .int), accessFlags := 18, slot := 6, constantValue := 0 }, { name := "primedQuantifiers", type := (.array .int), accessFlags := 18, slot := 7, constantValue := 0 }, { name := "stateQuantifiers", type := (.array .int), accessFlags := 18, slot := 8, constantValue := 0 }, { name := "laterQuantifiers", type := (.array .int), accessFlags := 18, slot := 9, constantValue := 0 }, { name := "firstBitQuantifiers", type := (.array .int), accessFlags := 18, slot := 10, constantValue := 0 }, { name := "stateCodes", type := (.array .int), accessFlags := 18, slot := 11, constantValue := 0 }, { name := "equalities", type := (.object "java/util/Map"), accessFlags := 18, slot := 12, constantValue := 0 }]
  methods := #[k3m0, k3m1, k3m2, k3m3]
  instanceTypes := #[(.object "com/example/fixpoint_checker/fixpointchecker/bdd/DecisionDiagrams"), .int, .int, .int, (.array .boolean), (.array .int), (.array .int), (.array .int), (.array .int), (.array .int), (.array .int), (.array .int), (.object "java/util/Map")]
  staticTypes := #[]
  resolved := Array.replicate 304 none
  statics := none }

def pool4 : Array CpInfo := pool [(2, .class_ 4), (1, u "java/util/Map"), (31, .class_ 37), (0, u "java/util/Map$Entry"), (55, .class_ 94), (0, u "java/lang/Object")] 168

/-- java/util/Map -/
def k4 : Class := { plain "java/util/Map" (some 0) with
  accessFlags := 1537
  interfaces := #[]
  cf := some (fileOf pool4 2 #[.nestMembers #[36]] #[] 1537 93 #[] #[])
  fields := #[]
  methods := #[]
  instanceTypes := #[]
  staticTypes := #[]
  resolved := Array.replicate 263 none
  statics := none }

def pool5 : Array CpInfo := pool [(1, .methodref 2 3), (0, .class_ 4), (0, .nameAndType 5 6), (0, u "java/lang/Object"), (0, u "<init>"), (0, u "()V"), (1, .class_ 10), (1, u "java/util/AbstractMap"), (42, .class_ 54), (0, u "java/util/Map"), (9, u "keySet"), (0, u "Ljava/util/Set;"), (0, .class_ 67), (0, u "java/util/AbstractMap$1"), (5, u "values"), (0, u "Ljava/util/Collection;"), (0, .class_ 76), (0, u "java/util/AbstractMap$2"), (104, .class_ 182), (0, u "java/util/AbstractMap$ViewCollection"), (0, .class_ 184), (0, u "java/util/AbstractMap$SimpleImmutableEntry"), (0, .class_ 186), (0, u "java/util/AbstractMap$SimpleEntry"), (0, .class_ 188), (0, u "java/util/AbstractMap$2$1"), (0, .class_ 190), (0, u "java/util/AbstractMap$1$1")] 5

def k5c0 : Code := { maxStack := 1, maxLocals := 1, code := jdk_71_method_1_code, exceptionTable := #[], attributes := #[] }
def k5m0 : Method := { name := "<init>", desc := "()V", sig := { parameters := [], returnType := none }, accessFlags := 4, code := some k5c0 }
/-- java/util/AbstractMap -/
def k5 : Class := { plain "java/util/AbstractMap" (some 0) with
  accessFlags := 1057
  interfaces := #[4]
  cf := some (fileOf pool5 8 #[.nestMembers #[181, 183, 185, 75, 187, 66, 189]] #[{ accessFlags := 4, nameIndex := 5, descriptorIndex := 6, attributes := #[] }] 1057 2 #[53] #[{ accessFlags := 128, nameIndex := 64, descriptorIndex := 65, attributes := #[] }, { accessFlags := 128, nameIndex := 73, descriptorIndex := 74, attributes := #[] }])
  fields := #[{ name := "keySet", type := (.object "java/util/Set"), accessFlags := 128, slot := 0, constantValue := 0 }, { name := "values", type := (.object "java/util/Collection"), accessFlags := 128, slot := 1, constantValue := 0 }]
  methods := #[k5m0]
  instanceTypes := #[(.object "java/util/Set"), (.object "java/util/Collection")]
  staticTypes := #[]
  resolved := Array.replicate 196 none
  statics := none }

def pool6 : Array CpInfo := pool [(1, .class_ 2), (0, u "java/lang/Cloneable"), (0, .class_ 4), (0, u "java/lang/Object")] 2

/-- java/lang/Cloneable -/
def k6 : Class := { plain "java/lang/Cloneable" (some 0) with
  accessFlags := 1537
  interfaces := #[]
  cf := some (fileOf pool6 1 #[] #[] 1537 3 #[] #[])
  fields := #[]
  methods := #[]
  instanceTypes := #[]
  staticTypes := #[]
  resolved := Array.replicate 7 none
  statics := none }

def pool7 : Array CpInfo := pool [(1, .class_ 2), (0, u "java/io/Serializable"), (0, .class_ 4), (0, u "java/lang/Object")] 2

/-- java/io/Serializable -/
def k7 : Class := { plain "java/io/Serializable" (some 0) with
  accessFlags := 1537
  interfaces := #[]
  cf := some (fileOf pool7 1 #[] #[] 1537 3 #[] #[])
  fields := #[]
  methods := #[]
  instanceTypes := #[]
  staticTypes := #[]
  resolved := Array.replicate 7 none
  statics := none }

def pool8 : Array CpInfo := pool [(40, .class_ 41), (0, u "java/util/HashMap"), (1, .methodref 44 45), (0, .class_ 46), (0, .nameAndType 47 48), (0, u "java/util/AbstractMap"), (0, u "<init>"), (0, u "()V"), (32, .fieldref 40 82), (0, .nameAndType 83 84), (0, u "loadFactor"), (0, u "F"), (5, u "threshold"), (0, u "I"), (0, .float 1061158912), (8, .class_ 103), (1, u "java/util/Map"), (0, u "size"), (2, u "table"), (0, u "[Ljava/util/HashMap$Node;"), (14, u "entrySet"), (39, .class_ 165), (1, u "java/util/HashMap$Node"), (14, .class_ 181), (0, u "java/util/HashMap$TreeNode"), (22, u "modCount"), (37, u "Ljava/util/Set;"), (0, .class_ 244), (0, u "java/util/HashMap$KeySet"), (18, .class_ 264), (0, u "java/util/HashMap$Values"), (3, .class_ 269), (0, u "java/util/HashMap$EntrySet"), (76, .class_ 348), (1, u "java/util/HashMap$UnsafeHolder"), (43, .class_ 393), (0, u "java/lang/Cloneable"), (0, .class_ 395), (0, u "java/io/Serializable"), (0, u "serialVersionUID"), (0, u "J"), (3, u "DEFAULT_INITIAL_CAPACITY"), (1, u "MAXIMUM_CAPACITY"), (0, u "DEFAULT_LOAD_FACTOR"), (0, u "TREEIFY_THRESHOLD"), (1, u "UNTREEIFY_THRESHOLD"), (1, u "MIN_TREEIFY_CAPACITY"), (186, .class_ 597), (0, u "java/util/HashMap$EntrySpliterator"), (0, .class_ 599), (0, u "java/util/HashMap$ValueSpliterator"), (0, .class_ 601), (0, u "java/util/HashMap$KeySpliterator"), (0, .class_ 603), (0, u "java/util/HashMap$HashMapSpliterator"), (0, .class_ 605), (0, u "java/util/HashMap$EntryIterator"), (0, .class_ 607), (0, u "java/util/HashMap$ValueIterator"), (0, .class_ 609), (0, u "java/util/HashMap$KeyIterator"), (0, .class_ 611), (0, u "java/util/HashMap$HashIterator")] 17

def k8c0 : Code := { maxStack := 2, maxLocals := 1, code := jdk_69_method_7_code, exceptionTable := #[], attributes := #[] }
def k8m0 : Method := { name := "<init>", desc := "()V", sig := { parameters := [], returnType := none }, accessFlags := 1, code := some k8c0 }
/-- java/util/HashMap -/
def k8 : Class := { plain "java/util/HashMap" (some 5) with
  accessFlags := 33
  interfaces := #[4, 6, 7]
  cf := some (fileOf pool8 40 #[.nestMembers #[180, 596, 598, 600, 602, 604, 606, 608, 610, 346, 268, 263, 243, 163]] #[{ accessFlags := 1, nameIndex := 47, descriptorIndex := 48, attributes := #[] }] 33 44 #[101, 392, 394] #[{ accessFlags := 26, nameIndex := 396, descriptorIndex := 397, attributes := #[] }, { accessFlags := 24, nameIndex := 401, descriptorIndex := 91, attributes := #[] }, { accessFlags := 24, nameIndex := 403, descriptorIndex := 91, attributes := #[] }, { accessFlags := 24, nameIndex := 404, descriptorIndex := 84, attributes := #[] }, { accessFlags := 24, nameIndex := 405, descriptorIndex := 91, attributes := #[] }, { accessFlags := 24, nameIndex := 407, descriptorIndex := 91, attributes := #[] }, { accessFlags := 24, nameIndex := 409, descriptorIndex := 91, attributes := #[] }, { accessFlags := 128, nameIndex := 107, descriptorIndex := 108, attributes := #[] }, { accessFlags := 128, nameIndex := 123, descriptorIndex := 242, attributes := #[] }, { accessFlags := 128, nameIndex := 104, descriptorIndex := 91, attributes := #[] }, { accessFlags := 128, nameIndex := 204, descriptorIndex := 91, attributes := #[] }, { accessFlags := 0, nameIndex := 90, descriptorIndex := 91, attributes := #[] }, { accessFlags := 16, nameIndex := 83, descriptorIndex := 84, attributes := #[] }])
  fields := #[{ name := "serialVersionUID", type := .long, accessFlags := 26, slot := 0, constantValue := 0 }, { name := "DEFAULT_INITIAL_CAPACITY", type := .int, accessFlags := 24, slot := 1, constantValue := 0 }, { name := "MAXIMUM_CAPACITY", type := .int, accessFlags := 24, slot := 2, constantValue := 0 }, { name := "DEFAULT_LOAD_FACTOR", type := .float, accessFlags := 24, slot := 3, constantValue := 0 }, { name := "TREEIFY_THRESHOLD", type := .int, accessFlags := 24, slot := 4, constantValue := 0 }, { name := "UNTREEIFY_THRESHOLD", type := .int, accessFlags := 24, slot := 5, constantValue := 0 }, { name := "MIN_TREEIFY_CAPACITY", type := .int, accessFlags := 24, slot := 6, constantValue := 0 }, { name := "table", type := (.array (.object "java/util/HashMap$Node")), accessFlags := 128, slot := 2, constantValue := 0 }, { name := "entrySet", type := (.object "java/util/Set"), accessFlags := 128, slot := 3, constantValue := 0 }, { name := "size", type := .int, accessFlags := 128, slot := 4, constantValue := 0 }, { name := "modCount", type := .int, accessFlags := 128, slot := 5, constantValue := 0 }, { name := "threshold", type := .int, accessFlags := 0, slot := 6, constantValue := 0 }, { name := "loadFactor", type := .float, accessFlags := 16, slot := 7, constantValue := 0 }]
  methods := #[k8m0]
  instanceTypes := #[(.object "java/util/Set"), (.object "java/util/Collection"), (.array (.object "java/util/HashMap$Node")), (.object "java/util/Set"), .int, .int, .int, .float]
  staticTypes := #[.long, .int, .int, .float, .int, .int, .int]
  resolved := Array.replicate 629 none
  statics := none }

def pool9 : Array CpInfo := pool [(1, .class_ 2), (0, u "com/example/fixpoint_checker/fixpointchecker/IntList"), (0, .class_ 4), (0, u "com/example/fixpoint_checker/fixpointchecker/bdd/DecisionDiagrams"), (0, .methodref 6 7), (0, .class_ 8), (0, .nameAndType 9 10), (0, u "java/lang/Object"), (0, u "<init>"), (0, u "()V"), (0, .fieldref 3 12), (0, .nameAndType 13 14), (0, u "freeHead"), (0, u "I"), (0, .class_ 16), (0, u "com/example/fixpoint_checker/fixpointchecker/bdd/WideConjunction"), (0, .methodref 15 18), (0, .nameAndType 9 19), (0, u "(Lcom/example/fixpoint_checker/fixpointchecker/bdd/DecisionDiagrams;)V"), (0, .fieldref 3 21), (0, .nameAndType 22 23), (0, u "wideConjunction"), (0, u "Lcom/example/fixpoint_checker/fixpointchecker/bdd/WideConjunction;"), (0, .class_ 25), (0, u "java/util/ArrayList"), (0, .methodref 24 7), (0, .fieldref 3 28), (0, .nameAndType 29 30), (0, u "quantifiers"), (0, u "Ljava/util/List;"), (0, .methodref 1 7), (0, .fieldref 3 33), (0, .nameAndType 34 35), (0, u "lastQuantified"), (0, u "Lcom/example/fixpoint_checker/fixpointchecker/IntList;"), (0, .fieldref 3 37), (0, .nameAndType 38 30), (0, u "renamings"), (0, .fieldref 3 40), (0, .nameAndType 41 42), (0, u "frameOperations"), (0, u "[I"), (0, .fieldref 3 44), (0, .nameAndType 45 42), (0, u "frameFirsts"), (0, .fieldref 3 47), (0, .nameAndType 48 42), (0, u "frameSeconds"), (0, .fieldref 3 50), (0, .nameAndType 51 42), (0, u "frameExtras"), (0, .fieldref 3 53), (0, .nameAndType 54 42), (0, u "frameLevels"), (0, .fieldref 3 56), (0, .nameAndType 57 42), (0, u "frameStates"), (0, .fieldref 3 59), (0, .nameAndType 60 35), (0, u "results"), (0, .fieldref 3 62), (0, .nameAndType 63 35), (0, u "walkPending"), (0, .fieldref 3 65), (0, .nameAndType 66 35), (0, u "walkVisited"), (0, .class_ 68), (0, u "java/util/BitSet"), (0, .methodref 67 7), (0, .fieldref 3 71), (0, .nameAndType 72 73), (0, u "walkMarks"), (0, u "Ljava/util/BitSet;"), (9, .fieldref 3 84), (0, .nameAndType 85 14), (0, u "levelCount"), (0, .fieldref 3 87), (0, .nameAndType 88 14), (0, u "collectionFloor"), (0, .fieldref 3 90), (0, .nameAndType 91 14), (0, u "collectionThreshold"), (0, .methodref 3 93), (0, .nameAndType 94 95), (0, u "allocate"), (0, u "(I)V"), (0, .methodref 3 97), (0, .nameAndType 98 99), (0, u "setSlot"), (0, u "(IIII)V"), (0, .fieldref 3 101), (0, .nameAndType 102 14), (0, u "slotCount"), (3, u "(I)I"), (22, .methodref 3 130), (0, .nameAndType 131 132), (0, u "children"), (0, u "(II)J"), (0, .fieldref 3 134), (0, .nameAndType 135 42), (0, u "buckets"), (4, .fieldref 3 141), (0, .nameAndType 142 143), (0, u "slots"), (0, u "[J"), (24, u "(II)I"), (34, .class_ 205), (1, u "java/lang/Integer"), (50, u "freeCount"), (7, .methodref 265 266), (0, .class_ 267), (0, .nameAndType 268 269), (0, u "java/util/Arrays"), (0, u "fill"), (0, u "([II)V"), (3, .methodref 3 274), (0, .nameAndType 275 276), (0, u "setLevelAndNext"), (0, u "(III)V"), (0, .methodref 3 278), (0, .nameAndType 279 10), (0, u "clearCache"), (8, .class_ 290), (1, u "java/lang/Math"), (4, u "min"), (0, .fieldref 3 297), (0, .nameAndType 298 14), (0, u "cacheMask"), (7, u "frameCount"), (18, u "(II)V"), (6, .methodref 288 333), (0, .nameAndType 295 168), (21, .fieldref 3 356), (0, .nameAndType 357 42), (0, u "cache"), (5, .fieldref 3 364), (0, .nameAndType 365 14), (0, u "capacity"), (3, .long 4294967295), (13, .methodref 203 384), (0, .nameAndType 385 106), (0, u "highestOneBit"), (0, .integer 2097152), (14, u "FALSE"), (2, u "TRUE"), (1, u "AND"), (0, u "AND_EXISTS"), (0, u "RENAME"), (1, u "OPERATION_BITS"), (0, u "START"), (0, u "LOW_DONE"), (0, u "HIGH_DONE"), (0, u "JOIN_DONE"), (1, u "SLOT_LONGS"), (0, u "CHILDREN"), (0, u "LEVEL_NEXT"), (0, u "ENTRY_INTS"), (1, u "KEY"), (0, u "FIRST"), (0, u "SECOND"), (0, u "RESULT"), (0, u "CONSTANT_SLOT"), (0, u "FREE"), (1, u "NONE"), (0, u "MAX_CAPACITY"), (0, u "MAX_CACHE")] 67

def k9c0 : Code := { maxStack := 5, maxLocals := 3, code := prog_18_method_1_code, exceptionTable := #[], attributes := #[] }
def k9m0 : Method := { name := "<init>", desc := "(II)V", sig := { parameters := [.int, .int], returnType := none }, accessFlags := 1, code := some k9c0 }
def k9c1 : Code := { maxStack := 3, maxLocals := 2, code := prog_18_method_35_code, exceptionTable := #[], attributes := #[] }
def k9m1 : Method := { name := "clearCache", desc := "()V", sig := { parameters := [], returnType := none }, accessFlags := 2, code := some k9c1 }
def k9c2 : Code := { maxStack := 4, maxLocals := 5, code := prog_18_method_44_code, exceptionTable := #[], attributes := #[] }
def k9m2 : Method := { name := "setSlot", desc := "(IIII)V", sig := { parameters := [.int, .int, .int, .int], returnType := none }, accessFlags := 2, code := some k9c2 }
def k9c3 : Code := { maxStack := 8, maxLocals := 4, code := prog_18_method_45_code, exceptionTable := #[], attributes := #[] }
def k9m3 : Method := { name := "setLevelAndNext", desc := "(III)V", sig := { parameters := [.int, .int, .int], returnType := none }, accessFlags := 2, code := some k9c3 }
def k9c4 : Code := { maxStack := 6, maxLocals := 2, code := prog_18_method_46_code, exceptionTable := #[], attributes := #[] }
def k9m4 : Method := { name := "children", desc := "(II)J", sig := { parameters := [.int, .int], returnType := some .long }, accessFlags := 10, code := some k9c4 }
def k9c5 : Code := { maxStack := 3, maxLocals := 3, code := prog_18_method_49_code, exceptionTable := #[], attributes := #[] }
def k9m5 : Method := { name := "allocate", desc := "(I)V", sig := { parameters := [.int], returnType := none }, accessFlags := 2, code := some k9c5 }
/-- com/example/fixpoint_checker/fixpointchecker/bdd/DecisionDiagrams -/
def k9 : Class := { plain "com/example/fixpoint_checker/fixpointchecker/bdd/DecisionDiagrams" (some 0) with
  accessFlags := 33
  interfaces := #[]
  cf := some (fileOf pool9 3 #[] #[{ accessFlags := 1, nameIndex := 9, descriptorIndex := 325, attributes := #[] }, { accessFlags := 2, nameIndex := 279, descriptorIndex := 10, attributes := #[] }, { accessFlags := 2, nameIndex := 98, descriptorIndex := 99, attributes := #[] }, { accessFlags := 2, nameIndex := 275, descriptorIndex := 276, attributes := #[] }, { accessFlags := 10, nameIndex := 131, descriptorIndex := 132, attributes := #[] }, { accessFlags := 2, nameIndex := 94, descriptorIndex := 95, attributes := #[] }] 33 6 #[] #[{ accessFlags := 25, nameIndex := 401, descriptorIndex := 14, attributes := #[] }, { accessFlags := 25, nameIndex := 404, descriptorIndex := 14, attributes := #[] }, { accessFlags := 26, nameIndex := 406, descriptorIndex := 14, attributes := #[] }, { accessFlags := 26, nameIndex := 407, descriptorIndex := 14, attributes := #[] }, { accessFlags := 26, nameIndex := 408, descriptorIndex := 14, attributes := #[] }, { accessFlags := 26, nameIndex := 410, descriptorIndex := 14, attributes := #[] }, { accessFlags := 26, nameIndex := 411, descriptorIndex := 14, attributes := #[] }, { accessFlags := 26, nameIndex := 412, descriptorIndex := 14, attributes := #[] }, { accessFlags := 26, nameIndex := 413, descriptorIndex := 14, attributes := #[] }, { accessFlags := 26, nameIndex := 414, descriptorIndex := 14, attributes := #[] }, { accessFlags := 26, nameIndex := 416, descriptorIndex := 14, attributes := #[] }, { accessFlags := 26, nameIndex := 417, descriptorIndex := 14, attributes := #[] }, { accessFlags := 26, nameIndex := 418, descriptorIndex := 14, attributes := #[] }, { accessFlags := 26, nameIndex := 419, descriptorIndex := 14, attributes := #[] }, { accessFlags := 26, nameIndex := 421, descriptorIndex := 14, attributes := #[] }, { accessFlags := 26, nameIndex := 422, descriptorIndex := 14, attributes := #[] }, { accessFlags := 26, nameIndex := 423, descriptorIndex := 14, attributes := #[] }, { accessFlags := 26, nameIndex := 424, descriptorIndex := 14, attributes := #[] }, { accessFlags := 26, nameIndex := 425, descriptorIndex := 14, attributes := #[] }, { accessFlags := 26, nameIndex := 426, descriptorIndex := 14, attributes := #[] }, { accessFlags := 26, nameIndex := 428, descriptorIndex := 14, attributes := #[] }, { accessFlags := 26, nameIndex := 429, descriptorIndex := 14, attributes := #[] }, { accessFlags := 26, nameIndex := 430, descriptorIndex := 14, attributes := #[] }, { accessFlags := 18, nameIndex := 85, descriptorIndex := 14, attributes := #[] }, { accessFlags := 18, nameIndex := 88, descriptorIndex := 14, attributes := #[] }, { accessFlags := 2, nameIndex := 142, descriptorIndex := 143, attributes := #[] }, { accessFlags := 2, nameIndex := 365, descriptorIndex := 14, attributes := #[] }, { accessFlags := 2, nameIndex := 135, descriptorIndex := 42, attributes := #[] }, { accessFlags := 2, nameIndex := 102, descriptorIndex := 14, attributes := #[] }, { accessFlags := 2, nameIndex := 13, descriptorIndex := 14, attributes := #[] }, { accessFlags := 2, nameIndex := 256, descriptorIndex := 14, attributes := #[] }, { accessFlags := 2, nameIndex := 91, descriptorIndex := 14, attributes := #[] }, { accessFlags := 2, nameIndex := 357, descriptorIndex := 42, attributes := #[] }, { accessFlags := 2, nameIndex := 298, descriptorIndex := 14, attributes := #[] }, { accessFlags := 18, nameIndex := 22, descriptorIndex := 23, attributes := #[] }, { accessFlags := 18, nameIndex := 29, descriptorIndex := 30, attributes := #[] }, { accessFlags := 18, nameIndex := 34, descriptorIndex := 35, attributes := #[] }, { accessFlags := 18, nameIndex := 38, descriptorIndex := 30, attributes := #[] }, { accessFlags := 2, nameIndex := 41, descriptorIndex := 42, attributes := #[] }, { accessFlags := 2, nameIndex := 45, descriptorIndex := 42, attributes := #[] }, { accessFlags := 2, nameIndex := 48, descriptorIndex := 42, attributes := #[] }, { accessFlags := 2, nameIndex := 51, descriptorIndex := 42, attributes := #[] }, { accessFlags := 2, nameIndex := 54, descriptorIndex := 42, attributes := #[] }, { accessFlags := 2, nameIndex := 57, descriptorIndex := 42, attributes := #[] }, { accessFlags := 2, nameIndex := 306, descriptorIndex := 14, attributes := #[] }, { accessFlags := 18, nameIndex := 60, descriptorIndex := 35, attributes := #[] }, { accessFlags := 18, nameIndex := 63, descriptorIndex := 35, attributes := #[] }, { accessFlags := 18, nameIndex := 66, descriptorIndex := 35, attributes := #[] }, { accessFlags := 18, nameIndex := 72, descriptorIndex := 73, attributes := #[] }])
  fields := #[{ name := "FALSE", type := .int, accessFlags := 25, slot := 0, constantValue := 0 }, { name := "TRUE", type := .int, accessFlags := 25, slot := 1, constantValue := 0 }, { name := "AND", type := .int, accessFlags := 26, slot := 2, constantValue := 0 }, { name := "AND_EXISTS", type := .int, accessFlags := 26, slot := 3, constantValue := 0 }, { name := "RENAME", type := .int, accessFlags := 26, slot := 4, constantValue := 0 }, { name := "OPERATION_BITS", type := .int, accessFlags := 26, slot := 5, constantValue := 0 }, { name := "START", type := .int, accessFlags := 26, slot := 6, constantValue := 0 }, { name := "LOW_DONE", type := .int, accessFlags := 26, slot := 7, constantValue := 0 }, { name := "HIGH_DONE", type := .int, accessFlags := 26, slot := 8, constantValue := 0 }, { name := "JOIN_DONE", type := .int, accessFlags := 26, slot := 9, constantValue := 0 }, { name := "SLOT_LONGS", type := .int, accessFlags := 26, slot := 10, constantValue := 0 }, { name := "CHILDREN", type := .int, accessFlags := 26, slot := 11, constantValue := 0 }, { name := "LEVEL_NEXT", type := .int, accessFlags := 26, slot := 12, constantValue := 0 }, { name := "ENTRY_INTS", type := .int, accessFlags := 26, slot := 13, constantValue := 0 }, { name := "KEY", type := .int, accessFlags := 26, slot := 14, constantValue := 0 }, { name := "FIRST", type := .int, accessFlags := 26, slot := 15, constantValue := 0 }, { name := "SECOND", type := .int, accessFlags := 26, slot := 16, constantValue := 0 }, { name := "RESULT", type := .int, accessFlags := 26, slot := 17, constantValue := 0 }, { name := "CONSTANT_SLOT", type := .int, accessFlags := 26, slot := 18, constantValue := 0 }, { name := "FREE", type := .int, accessFlags := 26, slot := 19, constantValue := 0 }, { name := "NONE", type := .int, accessFlags := 26, slot := 20, constantValue := 0 }, { name := "MAX_CAPACITY", type := .int, accessFlags := 26, slot := 21, constantValue := 0 }, { name := "MAX_CACHE", type := .int, accessFlags := 26, slot := 22, constantValue := 0 }, { name := "levelCount", type := .int, accessFlags := 18, slot := 0, constantValue := 0 }, { name := "collectionFloor", type := .int, accessFlags := 18, slot := 1, constantValue := 0 }, { name := "slots", type := (.array .long), accessFlags := 2, slot := 2, constantValue := 0 }, { name := "capacity", type := .int, accessFlags := 2, slot := 3, constantValue := 0 }, { name := "buckets", type := (.array .int), accessFlags := 2, slot := 4, constantValue := 0 }, { name := "slotCount", type := .int, accessFlags := 2, slot := 5, constantValue := 0 }, { name := "freeHead", type := .int, accessFlags := 2, slot := 6, constantValue := 0 }, { name := "freeCount", type := .int, accessFlags := 2, slot := 7, constantValue := 0 }, { name := "collectionThreshold", type := .int, accessFlags := 2, slot := 8, constantValue := 0 }, { name := "cache", type := (.array .int), accessFlags := 2, slot := 9, constantValue := 0 }, { name := "cacheMask", type := .int, accessFlags := 2, slot := 10, constantValue := 0 }, { name := "wideConjunction", type := (.object "com/example/fixpoint_checker/fixpointchecker/bdd/WideConjunction"), accessFlags := 18, slot := 11, constantValue := 0 }, { name := "quantifiers", type := (.object "java/util/List"), accessFlags := 18, slot := 12, constantValue := 0 }, { name := "lastQuantified", type := (.object "com/example/fixpoint_checker/fixpointchecker/IntList"), accessFlags := 18, slot := 13, constantValue := 0 }, { name := "renamings", type := (.object "java/util/List"), accessFlags := 18, slot := 14, constantValue := 0 }, { name := "frameOperations", type := (.array .int), accessFlags := 2, slot := 15, constantValue := 0 }, { name := "frameFirsts", type := (.array .int), accessFlags := 2, slot := 16, constantValue := 0 }, { name := "frameSeconds", type := (.array .int), accessFlags := 2, slot := 17, constantValue := 0 }, { name := "frameExtras", type := (.array .int), accessFlags := 2, slot := 18, constantValue := 0 }, { name := "frameLevels", type := (.array .int), accessFlags := 2, slot := 19, constantValue := 0 }, { name := "frameStates", type := (.array .int), accessFlags := 2, slot := 20, constantValue := 0 }, { name := "frameCount", type := .int, accessFlags := 2, slot := 21, constantValue := 0 }, { name := "results", type := (.object "com/example/fixpoint_checker/fixpointchecker/IntList"), accessFlags := 18, slot := 22, constantValue := 0 }, { name := "walkPending", type := (.object "com/example/fixpoint_checker/fixpointchecker/IntList"), accessFlags := 18, slot := 23, constantValue := 0 }, { name := "walkVisited", type := (.object "com/example/fixpoint_checker/fixpointchecker/IntList"), accessFlags := 18, slot := 24, constantValue := 0 }, { name := "walkMarks", type := (.object "java/util/BitSet"), accessFlags := 18, slot := 25, constantValue := 0 }]
  methods := #[k9m0, k9m1, k9m2, k9m3, k9m4, k9m5]
  instanceTypes := #[.int, .int, (.array .long), .int, (.array .int), .int, .int, .int, .int, (.array .int), .int, (.object "com/example/fixpoint_checker/fixpointchecker/bdd/WideConjunction"), (.object "java/util/List"), (.object "com/example/fixpoint_checker/fixpointchecker/IntList"), (.object "java/util/List"), (.array .int), (.array .int), (.array .int), (.array .int), (.array .int), (.array .int), .int, (.object "com/example/fixpoint_checker/fixpointchecker/IntList"), (.object "com/example/fixpoint_checker/fixpointchecker/IntList"), (.object "com/example/fixpoint_checker/fixpointchecker/IntList"), (.object "java/util/BitSet")]
  staticTypes := #[.int, .int, .int, .int, .int, .int, .int, .int, .int, .int, .int, .int, .int, .int, .int, .int, .int, .int, .int, .int, .int, .int, .int]
  resolved := Array.replicate 498 none
  statics := none }

def pool10 : Array CpInfo := pool [(3, .methodref 4 5), (0, .class_ 6), (0, .nameAndType 7 8), (0, u "java/lang/Object"), (0, u "<init>"), (0, u "()V"), (0, .fieldref 10 11), (0, .class_ 12), (0, .nameAndType 13 14), (0, u "com/example/fixpoint_checker/fixpointchecker/bdd/WideConjunction"), (0, u "lists"), (0, u "[J"), (0, .fieldref 10 16), (0, .nameAndType 17 18), (0, u "frameStarts"), (0, u "[I"), (0, .fieldref 10 20), (0, .nameAndType 21 18), (0, u "frameLengths"), (0, .fieldref 10 23), (0, .nameAndType 24 18), (0, u "frameLevels"), (0, .fieldref 10 26), (0, .nameAndType 27 18), (0, u "frameStates"), (0, .class_ 29), (0, u "com/example/fixpoint_checker/fixpointchecker/IntList"), (0, .methodref 28 5), (0, .fieldref 10 32), (0, .nameAndType 33 34), (0, u "results"), (0, u "Lcom/example/fixpoint_checker/fixpointchecker/IntList;"), (0, .fieldref 10 36), (0, .nameAndType 37 18), (0, u "table"), (0, .fieldref 10 39), (0, .nameAndType 40 14), (0, u "keys"), (0, .fieldref 10 42), (0, .nameAndType 43 44), (0, u "diagrams"), (0, u "Lcom/example/fixpoint_checker/fixpointchecker/bdd/DecisionDiagrams;"), (19, u "listsEnd"), (0, u "I"), (6, u "frameCount"), (22, u "written"), (92, u "START"), (2, u "LOW_DONE"), (1, u "HIGH_DONE"), (1, u "SATISFIED"), (0, u "J"), (2, u "ENTRY_INTS"), (1, u "HASH"), (0, u "OFFSET"), (0, u "LENGTH"), (0, u "RESULT"), (1, u "KEY_CLAUSES"), (1, u "FIRST_ENTRIES"), (1, u "(Lcom/example/fixpoint_checker/fixpointchecker/bdd/DecisionDiagrams;)V")] 9

def k10c0 : Code := { maxStack := 3, maxLocals := 2, code := prog_19_method_1_code, exceptionTable := #[], attributes := #[] }
def k10m0 : Method := { name := "<init>", desc := "(Lcom/example/fixpoint_checker/fixpointchecker/bdd/DecisionDiagrams;)V", sig := { parameters := [(.object "com/example/fixpoint_checker/fixpointchecker/bdd/DecisionDiagrams")], returnType := none }, accessFlags := 0, code := some k10c0 }
/-- com/example/fixpoint_checker/fixpointchecker/bdd/WideConjunction -/
def k10 : Class := { plain "com/example/fixpoint_checker/fixpointchecker/bdd/WideConjunction" (some 0) with
  accessFlags := 32
  interfaces := #[]
  cf := some (fileOf pool10 10 #[] #[{ accessFlags := 0, nameIndex := 7, descriptorIndex := 210, attributes := #[] }] 32 4 #[] #[{ accessFlags := 26, nameIndex := 188, descriptorIndex := 65, attributes := #[] }, { accessFlags := 26, nameIndex := 191, descriptorIndex := 65, attributes := #[] }, { accessFlags := 26, nameIndex := 193, descriptorIndex := 65, attributes := #[] }, { accessFlags := 26, nameIndex := 195, descriptorIndex := 196, attributes := #[] }, { accessFlags := 26, nameIndex := 199, descriptorIndex := 65, attributes := #[] }, { accessFlags := 26, nameIndex := 201, descriptorIndex := 65, attributes := #[] }, { accessFlags := 26, nameIndex := 202, descriptorIndex := 65, attributes := #[] }, { accessFlags := 26, nameIndex := 203, descriptorIndex := 65, attributes := #[] }, { accessFlags := 26, nameIndex := 204, descriptorIndex := 65, attributes := #[] }, { accessFlags := 26, nameIndex := 206, descriptorIndex := 65, attributes := #[] }, { accessFlags := 26, nameIndex := 208, descriptorIndex := 65, attributes := #[] }, { accessFlags := 18, nameIndex := 43, descriptorIndex := 44, attributes := #[] }, { accessFlags := 2, nameIndex := 13, descriptorIndex := 14, attributes := #[] }, { accessFlags := 2, nameIndex := 64, descriptorIndex := 65, attributes := #[] }, { accessFlags := 2, nameIndex := 17, descriptorIndex := 18, attributes := #[] }, { accessFlags := 2, nameIndex := 21, descriptorIndex := 18, attributes := #[] }, { accessFlags := 2, nameIndex := 24, descriptorIndex := 18, attributes := #[] }, { accessFlags := 2, nameIndex := 27, descriptorIndex := 18, attributes := #[] }, { accessFlags := 2, nameIndex := 72, descriptorIndex := 65, attributes := #[] }, { accessFlags := 18, nameIndex := 33, descriptorIndex := 34, attributes := #[] }, { accessFlags := 2, nameIndex := 37, descriptorIndex := 18, attributes := #[] }, { accessFlags := 2, nameIndex := 40, descriptorIndex := 14, attributes := #[] }, { accessFlags := 2, nameIndex := 95, descriptorIndex := 65, attributes := #[] }])
  fields := #[{ name := "START", type := .int, accessFlags := 26, slot := 0, constantValue := 0 }, { name := "LOW_DONE", type := .int, accessFlags := 26, slot := 1, constantValue := 0 }, { name := "HIGH_DONE", type := .int, accessFlags := 26, slot := 2, constantValue := 0 }, { name := "SATISFIED", type := .long, accessFlags := 26, slot := 3, constantValue := 0 }, { name := "ENTRY_INTS", type := .int, accessFlags := 26, slot := 4, constantValue := 0 }, { name := "HASH", type := .int, accessFlags := 26, slot := 5, constantValue := 0 }, { name := "OFFSET", type := .int, accessFlags := 26, slot := 6, constantValue := 0 }, { name := "LENGTH", type := .int, accessFlags := 26, slot := 7, constantValue := 0 }, { name := "RESULT", type := .int, accessFlags := 26, slot := 8, constantValue := 0 }, { name := "KEY_CLAUSES", type := .int, accessFlags := 26, slot := 9, constantValue := 0 }, { name := "FIRST_ENTRIES", type := .int, accessFlags := 26, slot := 10, constantValue := 0 }, { name := "diagrams", type := (.object "com/example/fixpoint_checker/fixpointchecker/bdd/DecisionDiagrams"), accessFlags := 18, slot := 0, constantValue := 0 }, { name := "lists", type := (.array .long), accessFlags := 2, slot := 1, constantValue := 0 }, { name := "listsEnd", type := .int, accessFlags := 2, slot := 2, constantValue := 0 }, { name := "frameStarts", type := (.array .int), accessFlags := 2, slot := 3, constantValue := 0 }, { name := "frameLengths", type := (.array .int), accessFlags := 2, slot := 4, constantValue := 0 }, { name := "frameLevels", type := (.array .int), accessFlags := 2, slot := 5, constantValue := 0 }, { name := "frameStates", type := (.array .int), accessFlags := 2, slot := 6, constantValue := 0 }, { name := "frameCount", type := .int, accessFlags := 2, slot := 7, constantValue := 0 }, { name := "results", type := (.object "com/example/fixpoint_checker/fixpointchecker/IntList"), accessFlags := 18, slot := 8, constantValue := 0 }, { name := "table", type := (.array .int), accessFlags := 2, slot := 9, constantValue := 0 }, { name := "keys", type := (.array .long), accessFlags := 2, slot := 10, constantValue := 0 }, { name := "written", type := .int, accessFlags := 2, slot := 11, constantValue := 0 }]
  methods := #[k10m0]
  instanceTypes := #[(.object "com/example/fixpoint_checker/fixpointchecker/bdd/DecisionDiagrams"), (.array .long), .int, (.array .int), (.array .int), (.array .int), (.array .int), .int, (.object "com/example/fixpoint_checker/fixpointchecker/IntList"), (.array .int), (.array .long), .int]
  staticTypes := #[.int, .int, .int, .long, .int, .int, .int, .int, .int, .int, .int]
  resolved := Array.replicate 220 none
  statics := none }

def pool11 : Array CpInfo := pool [(3, .methodref 4 5), (0, .class_ 6), (0, .nameAndType 7 8), (0, u "com/example/fixpoint_checker/fixpointchecker/IntList"), (0, u "<init>"), (0, u "(I)V"), (0, .methodref 10 11), (0, .class_ 12), (0, .nameAndType 7 13), (0, u "java/lang/Object"), (0, u "()V"), (0, .methodref 15 16), (0, .class_ 17), (0, .nameAndType 18 19), (0, u "java/lang/Math"), (0, u "max"), (0, u "(II)I"), (0, .fieldref 4 21), (0, .nameAndType 22 23), (0, u "values"), (0, u "[I"), (2, u "size"), (0, u "I"), (41, u "MAX_ARRAY_LENGTH")] 31

def k11c0 : Code := { maxStack := 2, maxLocals := 1, code := prog_2_method_1_code, exceptionTable := #[], attributes := #[] }
def k11m0 : Method := { name := "<init>", desc := "()V", sig := { parameters := [], returnType := none }, accessFlags := 1, code := some k11c0 }
def k11c1 : Code := { maxStack := 3, maxLocals := 2, code := prog_2_method_2_code, exceptionTable := #[], attributes := #[] }
def k11m1 : Method := { name := "<init>", desc := "(I)V", sig := { parameters := [.int], returnType := none }, accessFlags := 1, code := some k11c1 }
/-- com/example/fixpoint_checker/fixpointchecker/IntList -/
def k11 : Class := { plain "com/example/fixpoint_checker/fixpointchecker/IntList" (some 0) with
  accessFlags := 33
  interfaces := #[]
  cf := some (fileOf pool11 4 #[] #[{ accessFlags := 1, nameIndex := 7, descriptorIndex := 13, attributes := #[] }, { accessFlags := 1, nameIndex := 7, descriptorIndex := 8, attributes := #[] }] 33 10 #[] #[{ accessFlags := 25, nameIndex := 69, descriptorIndex := 27, attributes := #[] }, { accessFlags := 2, nameIndex := 22, descriptorIndex := 23, attributes := #[] }, { accessFlags := 2, nameIndex := 26, descriptorIndex := 27, attributes := #[] }])
  fields := #[{ name := "MAX_ARRAY_LENGTH", type := .int, accessFlags := 25, slot := 0, constantValue := 0 }, { name := "values", type := (.array .int), accessFlags := 2, slot := 0, constantValue := 0 }, { name := "size", type := .int, accessFlags := 2, slot := 1, constantValue := 0 }]
  methods := #[k11m0, k11m1]
  instanceTypes := #[(.array .int), .int]
  staticTypes := #[.int]
  resolved := Array.replicate 101 none
  statics := none }

def pool12 : Array CpInfo := pool [(8, .class_ 10), (1, u "java/lang/Iterable"), (24, .class_ 36), (0, u "java/lang/Object")] 25

/-- java/lang/Iterable -/
def k12 : Class := { plain "java/lang/Iterable" (some 0) with
  accessFlags := 1537
  interfaces := #[]
  cf := some (fileOf pool12 8 #[] #[] 1537 35 #[] #[])
  fields := #[]
  methods := #[]
  instanceTypes := #[]
  staticTypes := #[]
  resolved := Array.replicate 62 none
  statics := none }

def pool13 : Array CpInfo := pool [(10, .class_ 12), (1, u "java/util/Collection"), (47, .class_ 61), (0, u "java/lang/Object"), (0, .class_ 63), (0, u "java/lang/Iterable")] 51

/-- java/util/Collection -/
def k13 : Class := { plain "java/util/Collection" (some 0) with
  accessFlags := 1537
  interfaces := #[12]
  cf := some (fileOf pool13 10 #[] #[] 1537 60 #[62] #[])
  fields := #[]
  methods := #[]
  instanceTypes := #[]
  staticTypes := #[]
  resolved := Array.replicate 115 none
  statics := none }

def pool14 : Array CpInfo := pool [(1, .methodref 2 3), (0, .class_ 4), (0, .nameAndType 5 6), (0, u "java/lang/Object"), (0, u "<init>"), (0, u "()V"), (1, .class_ 10), (1, u "java/util/AbstractCollection"), (66, .class_ 78), (0, u "java/util/Collection")] 81

def k14c0 : Code := { maxStack := 1, maxLocals := 1, code := jdk_22_method_1_code, exceptionTable := #[], attributes := #[] }
def k14m0 : Method := { name := "<init>", desc := "()V", sig := { parameters := [], returnType := none }, accessFlags := 4, code := some k14c0 }
/-- java/util/AbstractCollection -/
def k14 : Class := { plain "java/util/AbstractCollection" (some 0) with
  accessFlags := 1057
  interfaces := #[13]
  cf := some (fileOf pool14 8 #[] #[{ accessFlags := 4, nameIndex := 5, descriptorIndex := 6, attributes := #[] }] 1057 2 #[77] #[])
  fields := #[]
  methods := #[k14m0]
  instanceTypes := #[]
  staticTypes := #[]
  resolved := Array.replicate 160 none
  statics := none }

def pool15 : Array CpInfo := pool [(8, .class_ 10), (1, u "java/util/SequencedCollection"), (15, .class_ 27), (0, u "java/lang/Object"), (0, .class_ 29), (0, u "java/util/Collection")] 27

/-- java/util/SequencedCollection -/
def k15 : Class := { plain "java/util/SequencedCollection" (some 0) with
  accessFlags := 1537
  interfaces := #[13]
  cf := some (fileOf pool15 8 #[] #[] 1537 26 #[28] #[])
  fields := #[]
  methods := #[]
  instanceTypes := #[]
  staticTypes := #[]
  resolved := Array.replicate 57 none
  statics := none }

def pool16 : Array CpInfo := pool [(8, .class_ 10), (1, u "java/util/List"), (92, .class_ 104), (0, u "java/lang/Object"), (15, .class_ 121), (0, u "java/util/SequencedCollection")] 129

/-- java/util/List -/
def k16 : Class := { plain "java/util/List" (some 0) with
  accessFlags := 1537
  interfaces := #[15]
  cf := some (fileOf pool16 8 #[] #[] 1537 103 #[120] #[])
  fields := #[]
  methods := #[]
  instanceTypes := #[]
  staticTypes := #[]
  resolved := Array.replicate 251 none
  statics := none }

def pool17 : Array CpInfo := pool [(1, .methodref 2 3), (0, .class_ 4), (0, .nameAndType 5 6), (0, u "java/util/AbstractCollection"), (0, u "<init>"), (0, u "()V"), (0, .fieldref 8 9), (0, .class_ 10), (0, .nameAndType 11 12), (0, u "java/util/AbstractList"), (0, u "modCount"), (0, u "I"), (64, .class_ 78), (0, u "java/util/AbstractList$Itr"), (3, .class_ 83), (0, u "java/util/AbstractList$ListItr"), (9, .class_ 94), (0, u "java/util/AbstractList$RandomAccessSubList"), (3, .class_ 99), (0, u "java/util/AbstractList$SubList"), (33, .class_ 134), (0, u "java/util/List"), (73, .class_ 209), (0, u "java/util/AbstractList$SubList$1"), (0, .class_ 211), (0, u "java/util/AbstractList$RandomAccessSpliterator")] 6

def k17c0 : Code := { maxStack := 2, maxLocals := 1, code := jdk_39_method_1_code, exceptionTable := #[], attributes := #[] }
def k17m0 : Method := { name := "<init>", desc := "()V", sig := { parameters := [], returnType := none }, accessFlags := 4, code := some k17c0 }
/-- java/util/AbstractList -/
def k17 : Class := { plain "java/util/AbstractList" (some 14) with
  accessFlags := 1057
  interfaces := #[16]
  cf := some (fileOf pool17 8 #[.nestMembers #[93, 98, 208, 210, 82, 77]] #[{ accessFlags := 4, nameIndex := 5, descriptorIndex := 6, attributes := #[] }] 1057 2 #[133] #[{ accessFlags := 132, nameIndex := 11, descriptorIndex := 12, attributes := #[] }])
  fields := #[{ name := "modCount", type := .int, accessFlags := 132, slot := 0, constantValue := 0 }]
  methods := #[k17m0]
  instanceTypes := #[.int]
  staticTypes := #[]
  resolved := Array.replicate 218 none
  statics := none }

def pool18 : Array CpInfo := pool [(1, .class_ 2), (0, u "java/util/RandomAccess"), (0, .class_ 4), (0, u "java/lang/Object")] 2

/-- java/util/RandomAccess -/
def k18 : Class := { plain "java/util/RandomAccess" (some 0) with
  accessFlags := 1537
  interfaces := #[]
  cf := some (fileOf pool18 1 #[] #[] 1537 3 #[] #[])
  fields := #[]
  methods := #[]
  instanceTypes := #[]
  staticTypes := #[]
  resolved := Array.replicate 7 none
  statics := none }

def pool19 : Array CpInfo := pool [(1, .methodref 2 3), (0, .class_ 4), (0, .nameAndType 5 6), (0, u "java/util/AbstractList"), (0, u "<init>"), (0, u "()V"), (2, .fieldref 10 11), (0, .class_ 12), (0, .nameAndType 13 14), (0, u "java/util/ArrayList"), (0, u "elementData"), (0, u "[Ljava/lang/Object;"), (2, u "EMPTY_ELEMENTDATA"), (21, .fieldref 10 40), (0, .nameAndType 41 14), (0, u "DEFAULTCAPACITY_EMPTY_ELEMENTDATA"), (8, u "size"), (0, u "I"), (96, .class_ 149), (0, u "java/util/List"), (112, .class_ 263), (0, u "java/util/ArrayList$ListItr"), (3, .class_ 268), (0, u "java/util/ArrayList$Itr"), (7, .class_ 277), (0, u "java/util/ArrayList$SubList"), (12, .class_ 291), (0, u "java/util/ArrayList$ArrayListSpliterator"), (37, .class_ 330), (0, u "java/util/RandomAccess"), (0, .class_ 332), (0, u "java/lang/Cloneable"), (0, .class_ 334), (0, u "java/io/Serializable"), (0, u "serialVersionUID"), (0, u "J"), (3, u "DEFAULT_CAPACITY"), (159, .class_ 501), (0, u "java/util/ArrayList$SubList$2"), (0, .class_ 503), (0, u "java/util/ArrayList$SubList$1")] 5

def k19c0 : Code := { maxStack := 2, maxLocals := 1, code := jdk_38_method_2_code, exceptionTable := #[], attributes := #[] }
def k19m0 : Method := { name := "<init>", desc := "()V", sig := { parameters := [], returnType := none }, accessFlags := 1, code := some k19c0 }
/-- java/util/ArrayList -/
def k19 : Class := { plain "java/util/ArrayList" (some 17) with
  accessFlags := 33
  interfaces := #[16, 18, 6, 7]
  cf := some (fileOf pool19 10 #[.nestMembers #[290, 276, 500, 502, 262, 267]] #[{ accessFlags := 1, nameIndex := 5, descriptorIndex := 6, attributes := #[] }] 33 2 #[148, 329, 331, 333] #[{ accessFlags := 26, nameIndex := 335, descriptorIndex := 336, attributes := #[] }, { accessFlags := 26, nameIndex := 340, descriptorIndex := 51, attributes := #[] }, { accessFlags := 26, nameIndex := 17, descriptorIndex := 14, attributes := #[] }, { accessFlags := 26, nameIndex := 41, descriptorIndex := 14, attributes := #[] }, { accessFlags := 128, nameIndex := 13, descriptorIndex := 14, attributes := #[] }, { accessFlags := 2, nameIndex := 50, descriptorIndex := 51, attributes := #[] }])
  fields := #[{ name := "serialVersionUID", type := .long, accessFlags := 26, slot := 0, constantValue := 0 }, { name := "DEFAULT_CAPACITY", type := .int, accessFlags := 26, slot := 1, constantValue := 0 }, { name := "EMPTY_ELEMENTDATA", type := (.array (.object "java/lang/Object")), accessFlags := 26, slot := 2, constantValue := 0 }, { name := "DEFAULTCAPACITY_EMPTY_ELEMENTDATA", type := (.array (.object "java/lang/Object")), accessFlags := 26, slot := 3, constantValue := 0 }, { name := "elementData", type := (.array (.object "java/lang/Object")), accessFlags := 128, slot := 1, constantValue := 0 }, { name := "size", type := .int, accessFlags := 2, slot := 2, constantValue := 0 }]
  methods := #[k19m0]
  instanceTypes := #[.int, (.array (.object "java/lang/Object")), .int]
  staticTypes := #[.long, .int, (.array (.object "java/lang/Object")), (.array (.object "java/lang/Object"))]
  resolved := Array.replicate 509 none
  statics := some 0 }

def pool20 : Array CpInfo := pool [(1, .class_ 2), (0, u "java/util/BitSet"), (2, u "$assertionsDisabled"), (0, u "Z"), (0, .fieldref 1 8), (0, .nameAndType 9 10), (0, u "wordsInUse"), (0, u "I"), (0, .fieldref 1 12), (0, .nameAndType 13 14), (0, u "words"), (0, u "[J"), (3, .nameAndType 19 20), (0, u "<init>"), (0, u "()V"), (0, .methodref 22 18), (0, .class_ 23), (0, u "java/lang/Object"), (0, .fieldref 1 25), (0, .nameAndType 26 6), (0, u "sizeIsSticky"), (0, .methodref 1 28), (0, .nameAndType 29 30), (0, u "initWords"), (0, u "(I)V"), (21, .methodref 1 53), (0, .nameAndType 54 55), (0, u "wordIndex"), (0, u "(I)I"), (213, .class_ 270), (0, u "java/util/BitSet$1BitSetSpliterator"), (22, u "serialPersistentFields"), (0, u "[Ljava/io/ObjectStreamField;"), (0, .class_ 296), (0, u "java/lang/Cloneable"), (0, .class_ 298), (0, u "java/io/Serializable"), (0, u "ADDRESS_BITS_PER_WORD"), (2, u "BITS_PER_WORD"), (1, u "BIT_INDEX_MASK"), (1, u "WORD_MASK"), (0, u "J"), (0, u "serialVersionUID")] 108

def k20c0 : Code := { maxStack := 2, maxLocals := 1, code := jdk_92_method_1_code, exceptionTable := #[], attributes := #[] }
def k20m0 : Method := { name := "wordIndex", desc := "(I)I", sig := { parameters := [.int], returnType := some .int }, accessFlags := 10, code := some k20c0 }
def k20c1 : Code := { maxStack := 2, maxLocals := 1, code := jdk_92_method_4_code, exceptionTable := #[], attributes := #[] }
def k20m1 : Method := { name := "<init>", desc := "()V", sig := { parameters := [], returnType := none }, accessFlags := 1, code := some k20c1 }
def k20c2 : Code := { maxStack := 3, maxLocals := 2, code := jdk_92_method_6_code, exceptionTable := #[], attributes := #[] }
def k20m2 : Method := { name := "initWords", desc := "(I)V", sig := { parameters := [.int], returnType := none }, accessFlags := 2, code := some k20c2 }
/-- java/util/BitSet -/
def k20 : Class := { plain "java/util/BitSet" (some 0) with
  accessFlags := 33
  interfaces := #[6, 7]
  cf := some (fileOf pool20 1 #[.nestMembers #[269]] #[{ accessFlags := 10, nameIndex := 54, descriptorIndex := 55, attributes := #[] }, { accessFlags := 1, nameIndex := 19, descriptorIndex := 20, attributes := #[] }, { accessFlags := 2, nameIndex := 29, descriptorIndex := 30, attributes := #[] }] 33 22 #[295, 297] #[{ accessFlags := 26, nameIndex := 299, descriptorIndex := 10, attributes := #[] }, { accessFlags := 26, nameIndex := 302, descriptorIndex := 10, attributes := #[] }, { accessFlags := 26, nameIndex := 304, descriptorIndex := 10, attributes := #[] }, { accessFlags := 26, nameIndex := 306, descriptorIndex := 307, attributes := #[] }, { accessFlags := 26, nameIndex := 293, descriptorIndex := 294, attributes := #[] }, { accessFlags := 2, nameIndex := 13, descriptorIndex := 14, attributes := #[] }, { accessFlags := 130, nameIndex := 9, descriptorIndex := 10, attributes := #[] }, { accessFlags := 130, nameIndex := 26, descriptorIndex := 6, attributes := #[] }, { accessFlags := 26, nameIndex := 308, descriptorIndex := 307, attributes := #[] }, { accessFlags := 4120, nameIndex := 5, descriptorIndex := 6, attributes := #[] }])
  fields := #[{ name := "ADDRESS_BITS_PER_WORD", type := .int, accessFlags := 26, slot := 0, constantValue := 0 }, { name := "BITS_PER_WORD", type := .int, accessFlags := 26, slot := 1, constantValue := 0 }, { name := "BIT_INDEX_MASK", type := .int, accessFlags := 26, slot := 2, constantValue := 0 }, { name := "WORD_MASK", type := .long, accessFlags := 26, slot := 3, constantValue := 0 }, { name := "serialPersistentFields", type := (.array (.object "java/io/ObjectStreamField")), accessFlags := 26, slot := 4, constantValue := 0 }, { name := "words", type := (.array .long), accessFlags := 2, slot := 0, constantValue := 0 }, { name := "wordsInUse", type := .int, accessFlags := 130, slot := 1, constantValue := 0 }, { name := "sizeIsSticky", type := .boolean, accessFlags := 130, slot := 2, constantValue := 0 }, { name := "serialVersionUID", type := .long, accessFlags := 26, slot := 5, constantValue := 0 }, { name := "$assertionsDisabled", type := .boolean, accessFlags := 4120, slot := 6, constantValue := 0 }]
  methods := #[k20m0, k20m1, k20m2]
  instanceTypes := #[(.array .long), .int, .boolean]
  staticTypes := #[.int, .int, .int, .long, (.array (.object "java/io/ObjectStreamField")), .long, .boolean]
  resolved := Array.replicate 417 none
  statics := none }

def pool21 : Array CpInfo := pool [(2, .class_ 4), (1, u "java/lang/Object"), (0, u "<init>"), (0, u "()V"), (1, .class_ 10), (1, u "java/lang/Number"), (2, .class_ 14), (0, u "java/io/Serializable"), (0, u "serialVersionUID"), (0, u "J")] 20

def k21m0 : Method := { name := "<init>", desc := "()V", sig := { parameters := [], returnType := none }, accessFlags := 1, code := none }
/-- java/lang/Number -/
def k21 : Class := { plain "java/lang/Number" (some 0) with
  accessFlags := 1057
  interfaces := #[7]
  cf := some (fileOf pool21 8 #[] #[{ accessFlags := 1, nameIndex := 5, descriptorIndex := 6, attributes := #[] }] 1057 2 #[13] #[{ accessFlags := 26, nameIndex := 15, descriptorIndex := 16, attributes := #[] }])
  fields := #[{ name := "serialVersionUID", type := .long, accessFlags := 26, slot := 0, constantValue := 0 }]
  methods := #[k21m0]
  instanceTypes := #[]
  staticTypes := #[.long]
  resolved := Array.replicate 37 none
  statics := none }

def pool22 : Array CpInfo := pool [(1, .class_ 2), (0, u "java/lang/Comparable"), (0, .class_ 4), (0, u "java/lang/Object")] 7

/-- java/lang/Comparable -/
def k22 : Class := { plain "java/lang/Comparable" (some 0) with
  accessFlags := 1537
  interfaces := #[]
  cf := some (fileOf pool22 1 #[] #[] 1537 3 #[] #[])
  fields := #[]
  methods := #[]
  instanceTypes := #[]
  staticTypes := #[]
  resolved := Array.replicate 12 none
  statics := none }

def pool23 : Array CpInfo := pool [(1, .class_ 2), (0, u "java/lang/constant/Constable"), (0, .class_ 4), (0, u "java/lang/Object")] 6

/-- java/lang/constant/Constable -/
def k23 : Class := { plain "java/lang/constant/Constable" (some 0) with
  accessFlags := 1537
  interfaces := #[]
  cf := some (fileOf pool23 1 #[] #[] 1537 3 #[] #[])
  fields := #[]
  methods := #[]
  instanceTypes := #[]
  staticTypes := #[]
  resolved := Array.replicate 11 none
  statics := none }

def pool24 : Array CpInfo := pool [(1, .class_ 2), (0, u "java/lang/constant/ConstantDesc"), (0, .class_ 4), (0, u "java/lang/Object")] 32

/-- java/lang/constant/ConstantDesc -/
def k24 : Class := { plain "java/lang/constant/ConstantDesc" (some 0) with
  accessFlags := 1537
  interfaces := #[]
  cf := some (fileOf pool24 1 #[] #[] 1537 3 #[] #[])
  fields := #[]
  methods := #[]
  instanceTypes := #[]
  staticTypes := #[]
  resolved := Array.replicate 37 none
  statics := none }

def pool25 : Array CpInfo := pool [(1, .class_ 2), (0, u "java/lang/Integer"), (16, u "digits"), (0, u "[C"), (30, .methodref 1 52), (0, .nameAndType 53 54), (0, u "numberOfLeadingZeros"), (0, u "(I)I"), (30, u "DigitOnes"), (0, u "[B"), (2, u "DigitTens"), (37, .integer 2147483648), (61, .class_ 190), (0, u "java/lang/Integer$IntegerCache"), (3, u "I"), (8, .class_ 204), (0, u "java/lang/Number"), (2, u "value"), (56, .integer 65536), (37, u "TYPE"), (0, u "Ljava/lang/Class;"), (0, .class_ 305), (0, u "java/lang/Comparable"), (0, .class_ 307), (0, u "java/lang/constant/Constable"), (0, .class_ 309), (0, u "java/lang/constant/ConstantDesc"), (0, u "MIN_VALUE"), (1, u "MAX_VALUE"), (3, u "SIZE"), (1, u "BYTES"), (1, u "serialVersionUID"), (0, u "J"), (81, u "highestOneBit")] 49

def k25c0 : Code := { maxStack := 3, maxLocals := 1, code := jdk_33_method_45_code, exceptionTable := #[], attributes := #[] }
def k25m0 : Method := { name := "highestOneBit", desc := "(I)I", sig := { parameters := [.int], returnType := some .int }, accessFlags := 9, code := some k25c0 }
def k25c1 : Code := { maxStack := 3, maxLocals := 2, code := jdk_33_method_47_code, exceptionTable := #[], attributes := #[] }
def k25m1 : Method := { name := "numberOfLeadingZeros", desc := "(I)I", sig := { parameters := [.int], returnType := some .int }, accessFlags := 9, code := some k25c1 }
/-- java/lang/Integer -/
def k25 : Class := { plain "java/lang/Integer" (some 21) with
  accessFlags := 49
  interfaces := #[22, 23, 24]
  cf := some (fileOf pool25 1 #[.nestMembers #[189]] #[{ accessFlags := 9, nameIndex := 403, descriptorIndex := 54, attributes := #[] }, { accessFlags := 9, nameIndex := 53, descriptorIndex := 54, attributes := #[] }] 49 203 #[304, 306, 308] #[{ accessFlags := 25, nameIndex := 310, descriptorIndex := 194, attributes := #[] }, { accessFlags := 25, nameIndex := 312, descriptorIndex := 194, attributes := #[] }, { accessFlags := 25, nameIndex := 302, descriptorIndex := 303, attributes := #[] }, { accessFlags := 24, nameIndex := 19, descriptorIndex := 20, attributes := #[] }, { accessFlags := 24, nameIndex := 89, descriptorIndex := 86, attributes := #[] }, { accessFlags := 24, nameIndex := 85, descriptorIndex := 86, attributes := #[] }, { accessFlags := 18, nameIndex := 207, descriptorIndex := 194, attributes := #[] }, { accessFlags := 25, nameIndex := 316, descriptorIndex := 194, attributes := #[] }, { accessFlags := 25, nameIndex := 318, descriptorIndex := 194, attributes := #[] }, { accessFlags := 26, nameIndex := 320, descriptorIndex := 321, attributes := #[] }])
  fields := #[{ name := "MIN_VALUE", type := .int, accessFlags := 25, slot := 0, constantValue := 0 }, { name := "MAX_VALUE", type := .int, accessFlags := 25, slot := 1, constantValue := 0 }, { name := "TYPE", type := (.object "java/lang/Class"), accessFlags := 25, slot := 2, constantValue := 0 }, { name := "digits", type := (.array .char), accessFlags := 24, slot := 3, constantValue := 0 }, { name := "DigitTens", type := (.array .byte), accessFlags := 24, slot := 4, constantValue := 0 }, { name := "DigitOnes", type := (.array .byte), accessFlags := 24, slot := 5, constantValue := 0 }, { name := "value", type := .int, accessFlags := 18, slot := 0, constantValue := 0 }, { name := "SIZE", type := .int, accessFlags := 25, slot := 6, constantValue := 0 }, { name := "BYTES", type := .int, accessFlags := 25, slot := 7, constantValue := 0 }, { name := "serialVersionUID", type := .long, accessFlags := 26, slot := 8, constantValue := 0 }]
  methods := #[k25m0, k25m1]
  instanceTypes := #[.int]
  staticTypes := #[.int, .int, (.object "java/lang/Class"), (.array .char), (.array .byte), (.array .byte), .int, .int, .long]
  resolved := Array.replicate 453 none
  statics := none }

def pool26 : Array CpInfo := pool [(2, .class_ 4), (1, u "java/lang/Object"), (0, u "<init>"), (0, u "()V"), (7, .class_ 16), (1, u "java/util/Arrays"), (57, .class_ 76), (1, u "java/util/Arrays$NaturalOrder"), (36, .class_ 115), (1, u "java/util/Arrays$LegacyMergeSort"), (1, u "Z"), (257, .class_ 376), (0, u "java/util/Arrays$ArrayList"), (68, u "$assertionsDisabled"), (269, u "MIN_ARRAY_SORT_GRAN"), (0, u "I"), (2, u "INSERTIONSORT_THRESHOLD"), (120, u "fill"), (4, u "([II)V"), (129, .class_ 976), (0, u "java/util/Arrays$ArrayItr")] 52

def k26m0 : Method := { name := "<init>", desc := "()V", sig := { parameters := [], returnType := none }, accessFlags := 2, code := none }
def k26c1 : Code := { maxStack := 3, maxLocals := 4, code := jdk_65_method_103_code, exceptionTable := #[], attributes := #[] }
def k26m1 : Method := { name := "fill", desc := "([II)V", sig := { parameters := [(.array .int), .int], returnType := none }, accessFlags := 9, code := some k26c1 }
/-- java/util/Arrays -/
def k26 : Class := { plain "java/util/Arrays" (some 0) with
  accessFlags := 49
  interfaces := #[]
  cf := some (fileOf pool26 14 #[.nestMembers #[975, 375, 113, 74]] #[{ accessFlags := 2, nameIndex := 5, descriptorIndex := 6, attributes := #[] }, { accessFlags := 9, nameIndex := 840, descriptorIndex := 845, attributes := #[] }] 49 2 #[] #[{ accessFlags := 26, nameIndex := 715, descriptorIndex := 716, attributes := #[] }, { accessFlags := 26, nameIndex := 719, descriptorIndex := 716, attributes := #[] }, { accessFlags := 4120, nameIndex := 445, descriptorIndex := 117, attributes := #[] }])
  fields := #[{ name := "MIN_ARRAY_SORT_GRAN", type := .int, accessFlags := 26, slot := 0, constantValue := 0 }, { name := "INSERTIONSORT_THRESHOLD", type := .int, accessFlags := 26, slot := 1, constantValue := 0 }, { name := "$assertionsDisabled", type := .boolean, accessFlags := 4120, slot := 2, constantValue := 0 }]
  methods := #[k26m0, k26m1]
  instanceTypes := #[]
  staticTypes := #[.int, .int, .boolean]
  resolved := Array.replicate 1029 none
  statics := none }

/-- the primitive boolean -/
def k27 : Class := { plain "boolean" none with kind := .primitive 'Z', accessFlags := 0x411 }
/-- [Z -/
def k28 : Class := { plain "[Z" (some 0) with kind := .array 27 .boolean, interfaces := #[6, 7], accessFlags := 1041 }

/-- the primitive byte -/
def k29 : Class := { plain "byte" none with kind := .primitive 'B', accessFlags := 0x411 }
/-- [B -/
def k30 : Class := { plain "[B" (some 0) with kind := .array 29 .byte, interfaces := #[6, 7], accessFlags := 1041 }

/-- the primitive int -/
def k31 : Class := { plain "int" none with kind := .primitive 'I', accessFlags := 0x411 }
/-- [I -/
def k32 : Class := { plain "[I" (some 0) with kind := .array 31 .int, interfaces := #[6, 7], accessFlags := 1041 }

/-- the primitive long -/
def k33 : Class := { plain "long" none with kind := .primitive 'J', accessFlags := 0x411 }
/-- [J -/
def k34 : Class := { plain "[J" (some 0) with kind := .array 33 .long, interfaces := #[6, 7], accessFlags := 1041 }

/-- [Ljava/lang/Object; -/
def k35 : Class := { plain "[Ljava/lang/Object;" (some 0) with kind := .array 0 (.object "java/lang/Object"), interfaces := #[6, 7], accessFlags := 1041 }

def heap : Heap := #[{ cls := 19, slots := #[.long 0, .int 0, .ref 1, .ref 2], vm := .statics 19 },
  { cls := 35, slots := #[], vm := .none },
  { cls := 35, slots := #[], vm := .none }]
def classes : Array Class := #[k0, k1, k2, k3, k4, k5, k6, k7, k8, k9, k10, k11, k12, k13, k14, k15, k16, k17, k18, k19, k20, k21, k22, k23, k24, k25, k26, k27, k28, k29, k30, k31, k32, k33, k34, k35]
def interned : List (Array UInt16 × Addr) := []
def slotsUsed : Nat := 4
def theMethod : MethodId := ⟨1, 1⟩
def args0 : Array Value := #[.int 5, .int 3, .int 7, .int 9, .int 9]
def aboutOver (below : List Frame) : State where
  vm := { classes := classes, interned := interned.toArray }
  heap := heap
  slotsUsed := slotsUsed
  threads := #[{ frames := .invoking theMethod args0 :: below }]
def below0 : List Frame := [.native { method := ⟨0, 0⟩, args := #[] }]
def about1 : State := aboutOver below0
def p0 : Program := .bare "" "" ""
def e0 : Env := launch0.env 0 0 0
theorem w_frames : about1.frames = Frame.invoking theMethod args0 :: below0 := rfl
set_option maxRecDepth 65536 in
theorem w_args : argsFit about1.vm theMethod args0 = true := by decide +kernel
set_option maxRecDepth 65536 in
theorem w_heap : heapFits about1 = true := by decide +kernel
set_option maxRecDepth 65536 in
theorem w_runnable : about1.curStatus? = some .runnable := by decide +kernel
set_option maxRecDepth 65536 in
theorem w_alone : about1.alone = true := by decide +kernel
set_option maxRecDepth 65536 in
theorem w_named : about1.methodNamed? x = some theMethod := by decide +kernel
set_option maxRecDepth 65536 in
theorem w_hears : about1.hears theMethod below0 = true := by decide +kernel
set_option maxRecDepth 65536 in
theorem w_ripe : about1.ripe theMethod args0 below0 = true := by decide +kernel
theorem w_running : about1.status = .running := rfl
set_option maxRecDepth 65536 in
theorem w_room : about1.hasRoom e0.platform room_1 = true :=
  launch0.hasRoom_least _ room_1 (by decide +kernel) (by decide +kernel) (by decide +kernel) (by decide +kernel) (by decide +kernel) (by decide +kernel)
theorem allAtoms_all (ts : List Jvm.Cond) (a : Array Jvm.Value) (st : Jvm.State) : (allAtoms ts).before a st = ts.all (fun c => c.before a st) := by
  induction ts with
  | nil => rfl
  | cons c t ih =>
    show (Jvm.Cond.and c (allAtoms t)).before a st = _
    rw [Jvm.Cond.before_and, ih, List.all_cons]
def words1 : List Jvm.Cond := Jvm.Cond.code x code maxLocals ret :: tables_1
/-- a 'code' word, met by the world's own term for the bytes: nothing is compared byte by byte -/
theorem code_word {y : MethodName} {bytes : ByteArray} {mx : Nat} {rt : Option FieldType} {a : Array Value} {s : State} {m : MethodId} {meth : Method} {c : Code} (h1 : s.methodNamed? y = some m) (h2 : s.vm.method? m = some meth) (h3 : meth.code = some c) (h4 : c.code = bytes)
    (h5 : (c.maxLocals == mx && c.exceptionTable.isEmpty && decide (c.maxStack ≤ mostOperands) && decide (meth.sig.returnType = rt) && !meth.locks && decide (parseMethodDescriptor y.desc = some meth.sig)) = true) : (Jvm.Cond.code y bytes mx rt).before a s = true := by
  simp only [Bool.and_eq_true, beq_iff_eq, Bool.not_eq_true', decide_eq_true_eq] at h5
  obtain ⟨⟨⟨⟨⟨g1, g2⟩, g3⟩, g4⟩, g5⟩, g6⟩ := h5
  simp [Cond.before, Cond.holds, Cond.value, h1, h2, h3, h4, g1, g2, g3, g4, g5, g6]
def isCode : Jvm.Cond → Bool
  | .code _ _ _ _ => true
  | _ => false
theorem all_split {L : List Jvm.Cond} {P : Jvm.Cond → Bool} (h1 : L.all (fun c => isCode c || P c) = true) (h2 : ∀ c ∈ L.filter isCode, P c = true) : L.all P = true := by
  refine List.all_eq_true.mpr fun c hc => ?_
  have h := List.all_eq_true.mp h1 c hc
  rcases Bool.eq_false_or_eq_true (isCode c) with hi | hi
  · exact h2 c (List.mem_filter.mpr ⟨hc, hi⟩)
  · simpa [hi] using h
set_option maxRecDepth 65536 in
theorem w_c0 : (Jvm.Cond.code x code maxLocals ret).before args0 about1 = true := code_word (m := ⟨1, 1⟩) (meth := k1m1) (c := k1c1) (by decide +kernel) rfl rfl rfl (by decide +kernel)
set_option maxRecDepth 65536 in
theorem w_c1 : (Jvm.Cond.code ({ cls := "java/lang/Math", name := "max", desc := "(II)I" } : Jvm.MethodName) jdk_29_method_65_code (2 : Nat) (Option.some Jvm.ClassFile.FieldType.int)).before args0 about1 = true := code_word (m := ⟨2, 1⟩) (meth := k2m1) (c := k2c1) (by decide +kernel) rfl rfl rfl (by decide +kernel)
set_option maxRecDepth 65536 in
theorem w_c2 : (Jvm.Cond.code ({ cls := "com/example/fixpoint_checker/fixpointchecker/symbolic/StateEncoding", name := "<init>", desc := "(III)V" } : Jvm.MethodName) prog_123_method_1_code (8 : Nat) (Option.none : Option Jvm.ClassFile.FieldType)).before args0 about1 = true := code_word (m := ⟨3, 0⟩) (meth := k3m0) (c := k3c0) (by decide +kernel) rfl rfl rfl (by decide +kernel)
set_option maxRecDepth 65536 in
theorem w_c3 : (Jvm.Cond.code ({ cls := "java/lang/Object", name := "<init>", desc := "()V" } : Jvm.MethodName) object_method_1_code (1 : Nat) (Option.none : Option Jvm.ClassFile.FieldType)).before args0 about1 = true := code_word (m := ⟨0, 0⟩) (meth := k0m0) (c := k0c0) (by decide +kernel) rfl rfl rfl (by decide +kernel)
set_option maxRecDepth 65536 in
theorem w_c4 : (Jvm.Cond.code ({ cls := "java/util/HashMap", name := "<init>", desc := "()V" } : Jvm.MethodName) jdk_69_method_7_code (1 : Nat) (Option.none : Option Jvm.ClassFile.FieldType)).before args0 about1 = true := code_word (m := ⟨8, 0⟩) (meth := k8m0) (c := k8c0) (by decide +kernel) rfl rfl rfl (by decide +kernel)
set_option maxRecDepth 65536 in
theorem w_c5 : (Jvm.Cond.code ({ cls := "java/util/AbstractMap", name := "<init>", desc := "()V" } : Jvm.MethodName) jdk_71_method_1_code (1 : Nat) (Option.none : Option Jvm.ClassFile.FieldType)).before args0 about1 = true := code_word (m := ⟨5, 0⟩) (meth := k5m0) (c := k5c0) (by decide +kernel) rfl rfl rfl (by decide +kernel)
set_option maxRecDepth 65536 in
theorem w_c6 : (Jvm.Cond.code ({ cls := "com/example/fixpoint_checker/fixpointchecker/bdd/DecisionDiagrams", name := "<init>", desc := "(II)V" } : Jvm.MethodName) prog_18_method_1_code (3 : Nat) (Option.none : Option Jvm.ClassFile.FieldType)).before args0 about1 = true := code_word (m := ⟨9, 0⟩) (meth := k9m0) (c := k9c0) (by decide +kernel) rfl rfl rfl (by decide +kernel)
set_option maxRecDepth 65536 in
theorem w_c7 : (Jvm.Cond.code ({ cls := "com/example/fixpoint_checker/fixpointchecker/bdd/WideConjunction", name := "<init>", desc := "(Lcom/example/fixpoint_checker/fixpointchecker/bdd/DecisionDiagrams;)V" } : Jvm.MethodName) prog_19_method_1_code (2 : Nat) (Option.none : Option Jvm.ClassFile.FieldType)).before args0 about1 = true := code_word (m := ⟨10, 0⟩) (meth := k10m0) (c := k10c0) (by decide +kernel) rfl rfl rfl (by decide +kernel)
set_option maxRecDepth 65536 in
theorem w_c8 : (Jvm.Cond.code ({ cls := "com/example/fixpoint_checker/fixpointchecker/IntList", name := "<init>", desc := "()V" } : Jvm.MethodName) prog_2_method_1_code (1 : Nat) (Option.none : Option Jvm.ClassFile.FieldType)).before args0 about1 = true := code_word (m := ⟨11, 0⟩) (meth := k11m0) (c := k11c0) (by decide +kernel) rfl rfl rfl (by decide +kernel)
set_option maxRecDepth 65536 in
theorem w_c9 : (Jvm.Cond.code ({ cls := "com/example/fixpoint_checker/fixpointchecker/IntList", name := "<init>", desc := "(I)V" } : Jvm.MethodName) prog_2_method_2_code (2 : Nat) (Option.none : Option Jvm.ClassFile.FieldType)).before args0 about1 = true := code_word (m := ⟨11, 1⟩) (meth := k11m1) (c := k11c1) (by decide +kernel) rfl rfl rfl (by decide +kernel)
set_option maxRecDepth 65536 in
theorem w_c10 : (Jvm.Cond.code ({ cls := "java/util/ArrayList", name := "<init>", desc := "()V" } : Jvm.MethodName) jdk_38_method_2_code (1 : Nat) (Option.none : Option Jvm.ClassFile.FieldType)).before args0 about1 = true := code_word (m := ⟨19, 0⟩) (meth := k19m0) (c := k19c0) (by decide +kernel) rfl rfl rfl (by decide +kernel)
set_option maxRecDepth 65536 in
theorem w_c11 : (Jvm.Cond.code ({ cls := "java/util/AbstractList", name := "<init>", desc := "()V" } : Jvm.MethodName) jdk_39_method_1_code (1 : Nat) (Option.none : Option Jvm.ClassFile.FieldType)).before args0 about1 = true := code_word (m := ⟨17, 0⟩) (meth := k17m0) (c := k17c0) (by decide +kernel) rfl rfl rfl (by decide +kernel)
set_option maxRecDepth 65536 in
theorem w_c12 : (Jvm.Cond.code ({ cls := "java/util/AbstractCollection", name := "<init>", desc := "()V" } : Jvm.MethodName) jdk_22_method_1_code (1 : Nat) (Option.none : Option Jvm.ClassFile.FieldType)).before args0 about1 = true := code_word (m := ⟨14, 0⟩) (meth := k14m0) (c := k14c0) (by decide +kernel) rfl rfl rfl (by decide +kernel)
set_option maxRecDepth 65536 in
theorem w_c13 : (Jvm.Cond.code ({ cls := "java/util/BitSet", name := "<init>", desc := "()V" } : Jvm.MethodName) jdk_92_method_4_code (1 : Nat) (Option.none : Option Jvm.ClassFile.FieldType)).before args0 about1 = true := code_word (m := ⟨20, 1⟩) (meth := k20m1) (c := k20c1) (by decide +kernel) rfl rfl rfl (by decide +kernel)
set_option maxRecDepth 65536 in
theorem w_c14 : (Jvm.Cond.code ({ cls := "java/util/BitSet", name := "initWords", desc := "(I)V" } : Jvm.MethodName) jdk_92_method_6_code (2 : Nat) (Option.none : Option Jvm.ClassFile.FieldType)).before args0 about1 = true := code_word (m := ⟨20, 2⟩) (meth := k20m2) (c := k20c2) (by decide +kernel) rfl rfl rfl (by decide +kernel)
set_option maxRecDepth 65536 in
theorem w_c15 : (Jvm.Cond.code ({ cls := "java/util/BitSet", name := "wordIndex", desc := "(I)I" } : Jvm.MethodName) jdk_92_method_1_code (1 : Nat) (Option.some Jvm.ClassFile.FieldType.int)).before args0 about1 = true := code_word (m := ⟨20, 0⟩) (meth := k20m0) (c := k20c0) (by decide +kernel) rfl rfl rfl (by decide +kernel)
set_option maxRecDepth 65536 in
theorem w_c16 : (Jvm.Cond.code ({ cls := "com/example/fixpoint_checker/fixpointchecker/bdd/DecisionDiagrams", name := "allocate", desc := "(I)V" } : Jvm.MethodName) prog_18_method_49_code (3 : Nat) (Option.none : Option Jvm.ClassFile.FieldType)).before args0 about1 = true := code_word (m := ⟨9, 5⟩) (meth := k9m5) (c := k9c5) (by decide +kernel) rfl rfl rfl (by decide +kernel)
set_option maxRecDepth 65536 in
theorem w_c17 : (Jvm.Cond.code ({ cls := "java/lang/Integer", name := "highestOneBit", desc := "(I)I" } : Jvm.MethodName) jdk_33_method_45_code (1 : Nat) (Option.some Jvm.ClassFile.FieldType.int)).before args0 about1 = true := code_word (m := ⟨25, 0⟩) (meth := k25m0) (c := k25c0) (by decide +kernel) rfl rfl rfl (by decide +kernel)
set_option maxRecDepth 65536 in
theorem w_c18 : (Jvm.Cond.code ({ cls := "java/lang/Integer", name := "numberOfLeadingZeros", desc := "(I)I" } : Jvm.MethodName) jdk_33_method_47_code (2 : Nat) (Option.some Jvm.ClassFile.FieldType.int)).before args0 about1 = true := code_word (m := ⟨25, 1⟩) (meth := k25m1) (c := k25c1) (by decide +kernel) rfl rfl rfl (by decide +kernel)
set_option maxRecDepth 65536 in
theorem w_c19 : (Jvm.Cond.code ({ cls := "java/util/Arrays", name := "fill", desc := "([II)V" } : Jvm.MethodName) jdk_65_method_103_code (4 : Nat) (Option.none : Option Jvm.ClassFile.FieldType)).before args0 about1 = true := code_word (m := ⟨26, 1⟩) (meth := k26m1) (c := k26c1) (by decide +kernel) rfl rfl rfl (by decide +kernel)
set_option maxRecDepth 65536 in
theorem w_c20 : (Jvm.Cond.code ({ cls := "java/lang/Math", name := "min", desc := "(II)I" } : Jvm.MethodName) jdk_29_method_69_code (2 : Nat) (Option.some Jvm.ClassFile.FieldType.int)).before args0 about1 = true := code_word (m := ⟨2, 2⟩) (meth := k2m2) (c := k2c2) (by decide +kernel) rfl rfl rfl (by decide +kernel)
set_option maxRecDepth 65536 in
theorem w_c21 : (Jvm.Cond.code ({ cls := "com/example/fixpoint_checker/fixpointchecker/bdd/DecisionDiagrams", name := "clearCache", desc := "()V" } : Jvm.MethodName) prog_18_method_35_code (2 : Nat) (Option.none : Option Jvm.ClassFile.FieldType)).before args0 about1 = true := code_word (m := ⟨9, 1⟩) (meth := k9m1) (c := k9c1) (by decide +kernel) rfl rfl rfl (by decide +kernel)
set_option maxRecDepth 65536 in
theorem w_c22 : (Jvm.Cond.code ({ cls := "com/example/fixpoint_checker/fixpointchecker/bdd/DecisionDiagrams", name := "setSlot", desc := "(IIII)V" } : Jvm.MethodName) prog_18_method_44_code (5 : Nat) (Option.none : Option Jvm.ClassFile.FieldType)).before args0 about1 = true := code_word (m := ⟨9, 2⟩) (meth := k9m2) (c := k9c2) (by decide +kernel) rfl rfl rfl (by decide +kernel)
set_option maxRecDepth 65536 in
theorem w_c23 : (Jvm.Cond.code ({ cls := "com/example/fixpoint_checker/fixpointchecker/bdd/DecisionDiagrams", name := "children", desc := "(II)J" } : Jvm.MethodName) prog_18_method_46_code (2 : Nat) (Option.some Jvm.ClassFile.FieldType.long)).before args0 about1 = true := code_word (m := ⟨9, 4⟩) (meth := k9m4) (c := k9c4) (by decide +kernel) rfl rfl rfl (by decide +kernel)
set_option maxRecDepth 65536 in
theorem w_c24 : (Jvm.Cond.code ({ cls := "com/example/fixpoint_checker/fixpointchecker/bdd/DecisionDiagrams", name := "setLevelAndNext", desc := "(III)V" } : Jvm.MethodName) prog_18_method_45_code (4 : Nat) (Option.none : Option Jvm.ClassFile.FieldType)).before args0 about1 = true := code_word (m := ⟨9, 3⟩) (meth := k9m3) (c := k9c3) (by decide +kernel) rfl rfl rfl (by decide +kernel)
set_option maxRecDepth 65536 in
theorem w_c25 : (Jvm.Cond.code ({ cls := "com/example/fixpoint_checker/fixpointchecker/symbolic/StateEncoding", name := "newNumbers", desc := "(I)[I" } : Jvm.MethodName) prog_123_method_38_code (2 : Nat) (Option.some (Jvm.ClassFile.FieldType.array Jvm.ClassFile.FieldType.int))).before args0 about1 = true := code_word (m := ⟨3, 3⟩) (meth := k3m3) (c := k3c3) (by decide +kernel) rfl rfl rfl (by decide +kernel)
set_option maxRecDepth 65536 in
theorem w_c26 : (Jvm.Cond.code ({ cls := "com/example/fixpoint_checker/fixpointchecker/symbolic/StateEncoding", name := "getBitCount", desc := "()I" } : Jvm.MethodName) prog_123_method_5_code (1 : Nat) (Option.some Jvm.ClassFile.FieldType.int)).before args0 about1 = true := code_word (m := ⟨3, 1⟩) (meth := k3m1) (c := k3c1) (by decide +kernel) rfl rfl rfl (by decide +kernel)
set_option maxRecDepth 65536 in
theorem w_c27 : (Jvm.Cond.code ({ cls := "com/example/fixpoint_checker/fixpointchecker/symbolic/StateEncoding", name := "pairKey", desc := "(II)J" } : Jvm.MethodName) prog_123_method_17_code (7 : Nat) (Option.some Jvm.ClassFile.FieldType.long)).before args0 about1 = true := code_word (m := ⟨3, 2⟩) (meth := k3m2) (c := k3c2) (by decide +kernel) rfl rfl rfl (by decide +kernel)
def codes1 : List Jvm.Cond := [Jvm.Cond.code x code maxLocals ret, Jvm.Cond.code ({ cls := "java/lang/Math", name := "max", desc := "(II)I" } : Jvm.MethodName) jdk_29_method_65_code (2 : Nat) (Option.some Jvm.ClassFile.FieldType.int), Jvm.Cond.code ({ cls := "com/example/fixpoint_checker/fixpointchecker/symbolic/StateEncoding", name := "<init>", desc := "(III)V" } : Jvm.MethodName) prog_123_method_1_code (8 : Nat) (Option.none : Option Jvm.ClassFile.FieldType), Jvm.Cond.code ({ cls := "java/lang/Object", name := "<init>", desc := "()V" } : Jvm.MethodName) object_method_1_code (1 : Nat) (Option.none : Option Jvm.ClassFile.FieldType), Jvm.Cond.code ({ cls := "java/util/HashMap", name := "<init>", desc := "()V" } : Jvm.MethodName) jdk_69_method_7_code (1 : Nat) (Option.none : Option Jvm.ClassFile.FieldType), Jvm.Cond.code ({ cls := "java/util/AbstractMap", name := "<init>", desc := "()V" } : Jvm.MethodName) jdk_71_method_1_code (1 : Nat) (Option.none : Option Jvm.ClassFile.FieldType), Jvm.Cond.code ({ cls := "com/example/fixpoint_checker/fixpointchecker/bdd/DecisionDiagrams", name := "<init>", desc := "(II)V" } : Jvm.MethodName) prog_18_method_1_code (3 : Nat) (Option.none : Option Jvm.ClassFile.FieldType), Jvm.Cond.code ({ cls := "com/example/fixpoint_checker/fixpointchecker/bdd/WideConjunction", name := "<init>", desc := "(Lcom/example/fixpoint_checker/fixpointchecker/bdd/DecisionDiagrams;)V" } : Jvm.MethodName) prog_19_method_1_code (2 : Nat) (Option.none : Option Jvm.ClassFile.FieldType), Jvm.Cond.code ({ cls := "com/example/fixpoint_checker/fixpointchecker/IntList", name := "<init>", desc := "()V" } : Jvm.MethodName) prog_2_method_1_code (1 : Nat) (Option.none : Option Jvm.ClassFile.FieldType), Jvm.Cond.code ({ cls := "com/example/fixpoint_checker/fixpointchecker/IntList", name := "<init>", desc := "(I)V" } : Jvm.MethodName) prog_2_method_2_code (2 : Nat) (Option.none : Option Jvm.ClassFile.FieldType), Jvm.Cond.code ({ cls := "java/util/ArrayList", name := "<init>", desc := "()V" } : Jvm.MethodName) jdk_38_method_2_code (1 : Nat) (Option.none : Option Jvm.ClassFile.FieldType), Jvm.Cond.code ({ cls := "java/util/AbstractList", name := "<init>", desc := "()V" } : Jvm.MethodName) jdk_39_method_1_code (1 : Nat) (Option.none : Option Jvm.ClassFile.FieldType), Jvm.Cond.code ({ cls := "java/util/AbstractCollection", name := "<init>", desc := "()V" } : Jvm.MethodName) jdk_22_method_1_code (1 : Nat) (Option.none : Option Jvm.ClassFile.FieldType), Jvm.Cond.code ({ cls := "java/util/BitSet", name := "<init>", desc := "()V" } : Jvm.MethodName) jdk_92_method_4_code (1 : Nat) (Option.none : Option Jvm.ClassFile.FieldType), Jvm.Cond.code ({ cls := "java/util/BitSet", name := "initWords", desc := "(I)V" } : Jvm.MethodName) jdk_92_method_6_code (2 : Nat) (Option.none : Option Jvm.ClassFile.FieldType), Jvm.Cond.code ({ cls := "java/util/BitSet", name := "wordIndex", desc := "(I)I" } : Jvm.MethodName) jdk_92_method_1_code (1 : Nat) (Option.some Jvm.ClassFile.FieldType.int), Jvm.Cond.code ({ cls := "com/example/fixpoint_checker/fixpointchecker/bdd/DecisionDiagrams", name := "allocate", desc := "(I)V" } : Jvm.MethodName) prog_18_method_49_code (3 : Nat) (Option.none : Option Jvm.ClassFile.FieldType), Jvm.Cond.code ({ cls := "java/lang/Integer", name := "highestOneBit", desc := "(I)I" } : Jvm.MethodName) jdk_33_method_45_code (1 : Nat) (Option.some Jvm.ClassFile.FieldType.int), Jvm.Cond.code ({ cls := "java/lang/Integer", name := "numberOfLeadingZeros", desc := "(I)I" } : Jvm.MethodName) jdk_33_method_47_code (2 : Nat) (Option.some Jvm.ClassFile.FieldType.int), Jvm.Cond.code ({ cls := "java/util/Arrays", name := "fill", desc := "([II)V" } : Jvm.MethodName) jdk_65_method_103_code (4 : Nat) (Option.none : Option Jvm.ClassFile.FieldType), Jvm.Cond.code ({ cls := "java/lang/Math", name := "min", desc := "(II)I" } : Jvm.MethodName) jdk_29_method_69_code (2 : Nat) (Option.some Jvm.ClassFile.FieldType.int), Jvm.Cond.code ({ cls := "com/example/fixpoint_checker/fixpointchecker/bdd/DecisionDiagrams", name := "clearCache", desc := "()V" } : Jvm.MethodName) prog_18_method_35_code (2 : Nat) (Option.none : Option Jvm.ClassFile.FieldType), Jvm.Cond.code ({ cls := "com/example/fixpoint_checker/fixpointchecker/bdd/DecisionDiagrams", name := "setSlot", desc := "(IIII)V" } : Jvm.MethodName) prog_18_method_44_code (5 : Nat) (Option.none : Option Jvm.ClassFile.FieldType), Jvm.Cond.code ({ cls := "com/example/fixpoint_checker/fixpointchecker/bdd/DecisionDiagrams", name := "children", desc := "(II)J" } : Jvm.MethodName) prog_18_method_46_code (2 : Nat) (Option.some Jvm.ClassFile.FieldType.long), Jvm.Cond.code ({ cls := "com/example/fixpoint_checker/fixpointchecker/bdd/DecisionDiagrams", name := "setLevelAndNext", desc := "(III)V" } : Jvm.MethodName) prog_18_method_45_code (4 : Nat) (Option.none : Option Jvm.ClassFile.FieldType), Jvm.Cond.code ({ cls := "com/example/fixpoint_checker/fixpointchecker/symbolic/StateEncoding", name := "newNumbers", desc := "(I)[I" } : Jvm.MethodName) prog_123_method_38_code (2 : Nat) (Option.some (Jvm.ClassFile.FieldType.array Jvm.ClassFile.FieldType.int)), Jvm.Cond.code ({ cls := "com/example/fixpoint_checker/fixpointchecker/symbolic/StateEncoding", name := "getBitCount", desc := "()I" } : Jvm.MethodName) prog_123_method_5_code (1 : Nat) (Option.some Jvm.ClassFile.FieldType.int), Jvm.Cond.code ({ cls := "com/example/fixpoint_checker/fixpointchecker/symbolic/StateEncoding", name := "pairKey", desc := "(II)J" } : Jvm.MethodName) prog_123_method_17_code (7 : Nat) (Option.some Jvm.ClassFile.FieldType.long)]
set_option maxRecDepth 65536 in
theorem codes_eq : words1.filter isCode = codes1 := rfl
theorem w_codes : ∀ c ∈ words1.filter isCode, c.before args0 about1 = true := by
  rw [codes_eq]
  intro c hc
  simp only [codes1, List.mem_cons, List.not_mem_nil, or_false] at hc
  rcases hc with rfl | rfl | rfl | rfl | rfl | rfl | rfl | rfl | rfl | rfl | rfl | rfl | rfl | rfl | rfl | rfl | rfl | rfl | rfl | rfl | rfl | rfl | rfl | rfl | rfl | rfl | rfl | rfl
  · exact w_c0
  · exact w_c1
  · exact w_c2
  · exact w_c3
  · exact w_c4
  · exact w_c5
  · exact w_c6
  · exact w_c7
  · exact w_c8
  · exact w_c9
  · exact w_c10
  · exact w_c11
  · exact w_c12
  · exact w_c13
  · exact w_c14
  · exact w_c15
  · exact w_c16
  · exact w_c17
  · exact w_c18
  · exact w_c19
  · exact w_c20
  · exact w_c21
  · exact w_c22
  · exact w_c23
  · exact w_c24
  · exact w_c25
  · exact w_c26
  · exact w_c27
set_option maxRecDepth 65536 in
theorem w_t1 : (words1.take 24).all (fun c => isCode c || c.before args0 about1) = true := by decide +kernel
set_option maxRecDepth 65536 in
theorem w_t2 : ((words1.drop 24).take 24).all (fun c => isCode c || c.before args0 about1) = true := by decide +kernel
set_option maxRecDepth 65536 in
theorem w_t3 : (((words1.drop 24).drop 24).take 24).all (fun c => isCode c || c.before args0 about1) = true := by decide +kernel
set_option maxRecDepth 65536 in
theorem w_t4 : ((((words1.drop 24).drop 24).drop 24).take 24).all (fun c => isCode c || c.before args0 about1) = true := by decide +kernel
set_option maxRecDepth 65536 in
theorem w_t5 : (((((words1.drop 24).drop 24).drop 24).drop 24).take 24).all (fun c => isCode c || c.before args0 about1) = true := by decide +kernel
set_option maxRecDepth 65536 in
theorem w_t6 : ((((((words1.drop 24).drop 24).drop 24).drop 24).drop 24).take 24).all (fun c => isCode c || c.before args0 about1) = true := by decide +kernel
set_option maxRecDepth 65536 in
theorem w_t7 : (((((((words1.drop 24).drop 24).drop 24).drop 24).drop 24).drop 24).take 24).all (fun c => isCode c || c.before args0 about1) = true := by decide +kernel
set_option maxRecDepth 65536 in
theorem w_t8 : ((((((((words1.drop 24).drop 24).drop 24).drop 24).drop 24).drop 24).drop 24).take 24).all (fun c => isCode c || c.before args0 about1) = true := by decide +kernel
set_option maxRecDepth 65536 in
theorem w_t9 : (((((((((words1.drop 24).drop 24).drop 24).drop 24).drop 24).drop 24).drop 24).drop 24).take 24).all (fun c => isCode c || c.before args0 about1) = true := by decide +kernel
set_option maxRecDepth 65536 in
theorem w_t10 : ((((((((((words1.drop 24).drop 24).drop 24).drop 24).drop 24).drop 24).drop 24).drop 24).drop 24).take 24).all (fun c => isCode c || c.before args0 about1) = true := by decide +kernel
set_option maxRecDepth 65536 in
theorem w_t11 : ((((((((((words1.drop 24).drop 24).drop 24).drop 24).drop 24).drop 24).drop 24).drop 24).drop 24).drop 24).all (fun c => isCode c || c.before args0 about1) = true := by decide +kernel
theorem w_tables : (allAtoms (Jvm.Cond.code x code maxLocals ret :: tables_1)).before args0 about1 = true := by
  rw [allAtoms_all]
  show words1.all (fun c => c.before args0 about1) = true
  refine all_split ?_ w_codes
  rw [← List.take_append_drop 24 words1, List.all_append, w_t1, ← List.take_append_drop 24 (words1.drop 24), List.all_append, w_t2, ← List.take_append_drop 24 ((words1.drop 24).drop 24), List.all_append, w_t3, ← List.take_append_drop 24 (((words1.drop 24).drop 24).drop 24), List.all_append, w_t4, ← List.take_append_drop 24 ((((words1.drop 24).drop 24).drop 24).drop 24), List.all_append, w_t5, ← List.take_append_drop 24 (((((words1.drop 24).drop 24).drop 24).drop 24).drop 24), List.all_append, w_t6, ← List.take_append_drop 24 ((((((words1.drop 24).drop 24).drop 24).drop 24).drop 24).drop 24), List.all_append, w_t7, ← List.take_append_drop 24 (((((((words1.drop 24).drop 24).drop 24).drop 24).drop 24).drop 24).drop 24), List.all_append, w_t8, ← List.take_append_drop 24 ((((((((words1.drop 24).drop 24).drop 24).drop 24).drop 24).drop 24).drop 24).drop 24), List.all_append, w_t9, ← List.take_append_drop 24 (((((((((words1.drop 24).drop 24).drop 24).drop 24).drop 24).drop 24).drop 24).drop 24).drop 24), List.all_append, w_t10, w_t11]
  rfl
set_option maxRecDepth 65536 in
theorem w_rest : rest_1_c.before args0 about1 = true := by decide +kernel
set_option maxRecDepth 65536 in
theorem w_case : (Jvm.Cond.and given_1 narrow_1).before args0 about1 = true := by decide +kernel
theorem w_applies : (headSpec (Jvm.Cond.code x code maxLocals ret :: tables_1) room_1).applies x e0.platform about1 = true :=
  (Spec.applies_iff w_frames).mpr ⟨w_running, w_runnable, w_alone, w_named, w_hears, w_ripe, w_room, w_tables⟩
theorem atStart : AtStart classFile x code maxLocals ret World_1 tables_1 room_1 Calls_1 rest_1 Pre_1 launch0 p0 e0 about1 theMethod args0 below0 :=
  ⟨lists_1, trivial, launch0.admits_env _ _ _, launch0.least_env, fairChoices_fair.cas, fairChoices_fair.clock, w_frames, w_args, w_heap, w_applies, trivial, w_rest, w_case⟩
end start1
theorem witness_1 : WitnessClaimed_1 := ⟨start1.p0, start1.e0, start1.about1, start1.theMethod, start1.args0, start1.below0, start1.atStart⟩
end Jvm.Pilot.@@N@@
