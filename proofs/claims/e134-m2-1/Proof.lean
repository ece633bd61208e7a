import JvmDerived
import JvmDerived.Pilot.@@N@@Statement
import JvmDerived.Pilot.@@N@@Code
set_option linter.unusedVariables false
set_option linter.unusedSimpArgs false
namespace Jvm.Pilot.@@N@@
open Jvm Jvm.ClassFile Sem Op Lib Jvm.Free Jvm.Stand Jvm.LawKit Jvm.RoadKit Bundle Jvm.Pilot.@@N@@.Jvm.D
section OwnKit
variable {p : Program} {l : Launch} {e : Env} {R : Room} {s : State} {m : MethodId} {args : Array Value} {below : List Frame} {meth : Method} {c : Code} {T : State} {locs : List Loc} {cells slots : Nat} {Z : State} {a0 : Array Value} {h : Heap} {ce sl : Nat} {Q : Option Value → Heap → List Loc → Prop} {S : State}
/-- a contract's last word, under a name of its own -/
def OQ (Q : Option Value → Heap → List Loc → Prop) (v : Option Value) (h : Heap) (L : List Loc) : Prop := Q v h L
theorem own_q {z r : Int32} (hr : z = r) (eT : T.heap = h) (hQ : Q (some (.int r)) h locs) : Q (some (.int z)) T.heap locs := by subst hr; rw [eT]; exact hQ
theorem own_qJ {z r : Int64} (hr : z = r) (eT : T.heap = h) (hQ : Q (some (.long r)) h locs) : Q (some (.long z)) T.heap locs := by subst hr; rw [eT]; exact hQ
/-- from S the body runs to its return, and leaves what Q says -/
def OFin (p : Program) (e : Env) (below : List Frame) (s : State) (ce sl : Nat) (Q : Option Value → Heap → List Loc → Prop) (S : State) : Prop :=
  ∃ (t : State) (o : Outcome), Steps p.tables e below S t ∧ t.status = .running ∧ Ended t below o ∧ ∃ v L, o = .returned v ∧ Q v t.heap L ∧ FrameEnd s o t L ce sl
theorem OFin.start {S' : State} (st : ∀ target, Steps p.tables e below S' target → Steps p.tables e below S target) (k : OFin p e below s ce sl Q S') :
    ∃ (t : State) (o : Outcome), Steps p.tables e below S t ∧ t.status = .running ∧ Ended t below o ∧ ∃ v L, o = .returned v ∧ Q v t.heap L ∧ FrameEnd s o t L ce sl := by
  obtain ⟨t, o, h, r⟩ := k
  exact ⟨t, o, st _ h, r⟩
theorem OFin.to (S' : State) (st : ∀ target, Steps p.tables e below S' target → Steps p.tables e below S target) (k : OFin p e below s ce sl Q S') : OFin p e below s ce sl Q S := OFin.start st k
theorem OFin.via (S' : State) (st : Steps p.tables e below S S') (k : OFin p e below s ce sl Q S') : OFin p e below s ce sl Q S := OFin.start (fun _ h => st.trans h) k
theorem OFin.mono {Q' : Option Value → Heap → List Loc → Prop} (k : OFin p e below s ce sl Q' S) (h : ∀ v h L, Q' v h L → Q v h L) : OFin p e below s ce sl Q S := by
  obtain ⟨t, o, h1, h2, h3, v, L, h4, h5, h6⟩ := k
  exact ⟨t, o, h1, h2, h3, v, L, h4, h _ _ _ h5, h6⟩
theorem OFin.retZ (X : Stand p l e R s m args below meth c T locs cells slots) (hx : p.tables.exec = Jvm.exec) {t : FieldType} (hret : meth.sig.returnType = some t) (ht : t = .boolean ∨ t = .byte ∨ t = .char ∨ t = .short) (hlk : meth.locks = false) {pc : Nat} {Ls : Array Slot} {z : Int32} {rest : List Value}
    (hd : decode c.code pc = .ok (.ireturn, 1)) (hc : cells ≤ ce) (hs : slots ≤ sl) (hQ : Q (some (.int (nar t z))) T.heap locs) : OFin p e below s ce sl Q (T.setTop (mkF m pc Ls (.int z :: rest))) := by
  obtain ⟨fs, hr, hrun, hended, hW, hsame⟩ := X.leave (v := some (.int (nar t z))) (fun h => by rw [hret] at h; cases h) hlk
  exact ⟨_, _, retN X hx hret ht hd hr, hrun, hended, _, _, rfl, hQ, ⟨_, rfl⟩, hW, hsame.mono hc hs⟩
theorem OFin.retI (X : Stand p l e R s m args below meth c T locs cells slots) (hx : p.tables.exec = Jvm.exec) (hret : meth.sig.returnType = some .int) (hlk : meth.locks = false) {pc : Nat} {Ls : Array Slot} {z : Int32} {rest : List Value}
    (hd : decode c.code pc = .ok (.ireturn, 1)) (hc : cells ≤ ce) (hs : slots ≤ sl) (hQ : Q (some (.int z)) T.heap locs) : OFin p e below s ce sl Q (T.setTop (mkF m pc Ls (.int z :: rest))) := by
  obtain ⟨fs, hr, hrun, hended, hW, hsame⟩ := X.leave (v := some (.int z)) (fun h => by rw [hret] at h; cases h) hlk
  refine ⟨_, _, ?_, hrun, hended, _, _, rfl, hQ, ⟨_, rfl⟩, hW, hsame.mono hc hs⟩
  have hm' : T.vm.method? m = some meth := X.method'
  have hn : narrow .int (.int z) = .int z := rfl
  show Steps p.tables e below (T.setTop { method := m, pc := pc, locals := Ls, stack := _ :: rest, locked := none }) _
  jvm_step X.here [X.here.top, hx, hd, hm', hret, hn]
  first | (intro acts; rw [hr _ acts rfl rfl rfl]) | rw [hr _ _ rfl rfl rfl]
  exact Steps.refl _
theorem OFin.retJ (X : Stand p l e R s m args below meth c T locs cells slots) (hx : p.tables.exec = Jvm.exec) (hret : meth.sig.returnType = some .long) (hlk : meth.locks = false) {pc : Nat} {Ls : Array Slot} {z : Int64} {rest : List Value}
    (hd : decode c.code pc = .ok (.lreturn, 1)) (hc : cells ≤ ce) (hs : slots ≤ sl) (hQ : Q (some (.long z)) T.heap locs) : OFin p e below s ce sl Q (T.setTop (mkF m pc Ls (.long z :: rest))) := by
  obtain ⟨fs, hr, hrun, hended, hW, hsame⟩ := X.leave (v := some (.long z)) (fun h => by rw [hret] at h; cases h) hlk
  refine ⟨_, _, ?_, hrun, hended, _, _, rfl, hQ, ⟨_, rfl⟩, hW, hsame.mono hc hs⟩
  have hm' : T.vm.method? m = some meth := X.method'
  show Steps p.tables e below (T.setTop { method := m, pc := pc, locals := Ls, stack := _ :: rest, locked := none }) _
  jvm_step X.here [X.here.top, hx, hd, hm', hret, narrow]
  first | (intro acts; rw [hr _ acts rfl rfl rfl]) | rw [hr _ _ rfl rfl rfl]
  exact Steps.refl _
theorem OFin.retV (X : Stand p l e R s m args below meth c T locs cells slots) (hx : p.tables.exec = Jvm.exec) (hret : meth.sig.returnType = none) (hlk : meth.locks = false) {pc : Nat} {Ls : Array Slot}
    (hd : decode c.code pc = .ok (.return_, 1)) (hc : cells ≤ ce) (hs : slots ≤ sl) (hQ : Q none T.heap locs) : OFin p e below s ce sl Q (T.setTop (mkF m pc Ls [])) := by
  obtain ⟨fs, hr, hrun, hended, hW, hsame⟩ := X.leave (v := none) (fun _ => rfl) hlk
  exact ⟨_, _, X.returnOut hx hret hd hr, hrun, hended, _, _, rfl, hQ, ⟨_, rfl⟩, hW, hsame.mono hc hs⟩
/-- a static call by the callee's contract -/
theorem own_callS {y : MethodName} {bytes : ByteArray} {maxL : Nat} {ret : Option FieldType} {rm : Room} {as' : List Value} {QQ : Option Value → Heap → List Loc → Prop} {own : String} {index : Nat}
    (X : Stand p l e R s m args below meth c T locs cells slots) (hx : p.tables.exec = Jvm.exec) (hZ : Z.Warmed39 s.vm) (hown : s.vm.findClass own = some m.cls)
    (w1 : (Cond.methodLink own index y).before a0 Z = true) (w2 : (Cond.static y).before a0 Z = true) (w3 : (Cond.initialized y.cls).before a0 Z = true) (w4 : (Cond.code y bytes maxL ret).before a0 Z = true) (hy : y.cls ≠ "java/lang/invoke/MethodHandle" ∧ y.cls ≠ "java/lang/invoke/VarHandle") (eT : T.heap = h)
    (hM : MetFree l y (head1 [Cond.code y bytes maxL ret] rm) (fun a U => a = as'.toArray ∧ Z.Warmed39 U.vm ∧ U.heap = h) (fun _ _ _ _ _ => True) (fun _ U o U' => ∃ v L, o = .returned v ∧ OQ QQ v U'.heap L ∧ FrameEnd U o U' L rm.cells rm.slots))
    (W : Nat) (hf : rm.frames + 1 ≤ R.frames) (hl : W + (maxL + 11) + rm.locals ≤ R.locals) (hc : cells + rm.cells ≤ R.cells) (hs : slots + rm.slots ≤ R.slots)
    {g : JFrame} (hg : g.method = m) (hsize : g.locals.size = c.maxLocals) {rest : List Value} (hlen : ∀ sig, parseMethodDescriptor y.desc = some sig → as'.length = sig.parameters.length) (hstack : g.stack = as'.reverse ++ rest) (hW : 2 * g.monitorRoom + (rest.map fun v => v.category).sum ≤ W) (hd : decode c.code g.pc = .ok (.invokestatic index, 3)) :
    ∃ v T' L, QQ v T'.heap L ∧ Stand p l e R s m args below meth c T' (locs ++ L) (cells + rm.cells) (slots + rm.slots) ∧ ∀ target, Steps p.tables e below (T'.setTop { g with pc := g.pc + 3, stack := v.toList ++ rest }) target → Steps p.tables e below (T.setTop g) target := by
  obtain ⟨v, _, ⟨T', L1, k1, n1⟩, -, X', ⟨L, hQ, l1, y1, z1⟩, st⟩ := Jvm.LawKit.callS X hx (y := y) hown (mvT hZ w1) (mvT hZ w2) (mvT hZ w3) (mvT hZ w4) hy (backOf (W := W) (Q := OQ QQ) hM hZ w4 w3 hf hl) (g := g) hg hsize (argsL := as') (rest := rest) hlen hstack hW hd (fun _ _ => ⟨rfl, eT, hc, hs⟩)
  dsimp only [Pt.U, Pt.locs, Pt.cells, Pt.slots] at X' l1 y1 z1 st hQ
  subst l1 y1 z1
  exact ⟨v, T', L, hQ, X', st⟩
/-- a static call of a body that writes and makes nothing -/
theorem own_callSP {y : MethodName} {bytes : ByteArray} {maxL : Nat} {ret : Option FieldType} {rm : Room} {as' : List Value} {v : Value} {own : String} {index : Nat}
    (X : Stand p l e R s m args below meth c T locs cells slots) (hx : p.tables.exec = Jvm.exec) (hZ : Z.Warmed39 s.vm) (hown : s.vm.findClass own = some m.cls)
    (w1 : (Cond.methodLink own index y).before a0 Z = true) (w2 : (Cond.static y).before a0 Z = true) (w3 : (Cond.initialized y.cls).before a0 Z = true) (w4 : (Cond.code y bytes maxL ret).before a0 Z = true) (hy : y.cls ≠ "java/lang/invoke/MethodHandle" ∧ y.cls ≠ "java/lang/invoke/VarHandle") (eT : T.heap = h)
    (hM : MetFree l y (head1 [Cond.code y bytes maxL ret] rm) (fun a U => a = as'.toArray ∧ Z.Warmed39 U.vm ∧ U.heap = h) (fun _ _ _ _ _ => True) (fun _ U o U' => ∃ v' L, o = .returned v' ∧ OQ (fun v' h' L => v' = some v ∧ h' = h ∧ L = []) v' U'.heap L ∧ FrameEnd U o U' L rm.cells rm.slots))
    (hrc : rm.cells = 0) (hrs : rm.slots = 0) (W : Nat) (hf : rm.frames + 1 ≤ R.frames) (hl : W + (maxL + 11) + rm.locals ≤ R.locals) (hc : cells ≤ R.cells) (hs : slots ≤ R.slots)
    {g : JFrame} (hg : g.method = m) (hsize : g.locals.size = c.maxLocals) {rest : List Value} (hlen : ∀ sig, parseMethodDescriptor y.desc = some sig → as'.length = sig.parameters.length) (hstack : g.stack = as'.reverse ++ rest) (hW : 2 * g.monitorRoom + (rest.map fun v => v.category).sum ≤ W) (hd : decode c.code g.pc = .ok (.invokestatic index, 3)) :
    ∃ T', Stand p l e R s m args below meth c T' locs cells slots ∧ T'.heap = h ∧ ∀ target, Steps p.tables e below (T'.setTop { g with pc := g.pc + 3, stack := v :: rest }) target → Steps p.tables e below (T.setTop g) target := by
  obtain ⟨v', T', L, ⟨rfl, hh, rfl⟩, X', st⟩ := own_callS X hx hZ hown w1 w2 w3 w4 hy eT hM W hf hl (by rw [hrc]; exact hc) (by rw [hrs]; exact hs) hg hsize hlen hstack hW hd
  rw [hrc, hrs, List.append_nil] at X'
  exact ⟨T', X', hh, st⟩
theorem OFin.retA (X : Stand p l e R s m args below meth c T locs cells slots) (hx : p.tables.exec = Jvm.exec) {t : FieldType} (hret : meth.sig.returnType = some t) (ht : t.isReference = true) (hlk : meth.locks = false) {pc : Nat} {Ls : Array Slot} {a : Addr} {rest : List Value}
    (hd : decode c.code pc = .ok (.areturn, 1)) (hc : cells ≤ ce) (hs : slots ≤ sl) (hQ : Q (some (.ref a)) T.heap locs) : OFin p e below s ce sl Q (T.setTop (mkF m pc Ls (.ref a :: rest))) := by
  obtain ⟨fs, hr, hrun, hended, hW, hsame⟩ := X.leave (v := some (.ref a)) (fun h => by rw [hret] at h; cases h) hlk
  refine ⟨_, _, ?_, hrun, hended, _, _, rfl, hQ, ⟨_, rfl⟩, hW, hsame.mono hc hs⟩
  have hm' : T.vm.method? m = some meth := X.method'
  show Steps p.tables e below (T.setTop { method := m, pc := pc, locals := Ls, stack := _ :: rest, locked := none }) _
  jvm_step X.here [X.here.top, hx, hd, hm', hret, ht, Value.isRef]
  first | (intro acts; rw [hr _ acts rfl rfl rfl]) | rw [hr _ _ rfl rfl rfl]
  exact Steps.refl _
theorem own_nar0 : nar .boolean (0 : Int32) = 0 := by decide
theorem own_nar1 : nar .boolean (1 : Int32) = 1 := by decide
end OwnKit
section OwnArr
variable {p : Program} {l : Launch} {e : Env} {R : Room} {s : State} {m : MethodId} {args : Array Value} {below : List Frame} {meth : Method} {c : Code} {T : State} {locs : List Loc} {cells slots : Nat} {Z : State} {a0 : Array Value} {h h' : Heap} {a b : Addr} {ty : FieldType} {vs : List Value} {v : Value} {i : Nat}
/-- the array at a holds just these -/
def OArr (Z : State) (h : Heap) (a : Addr) (ty : FieldType) (vs : List Value) : Prop := ∃ cl : Cell, Arr Z h a cl ty ∧ cl.slots = vs.toArray
theorem OArr.lt (V : OArr Z h a ty vs) : a < h.size := by obtain ⟨cl, A, -⟩ := V; exact A.lt
theorem OArr.ext (V : OArr Z h a ty vs) (E : Ext h h') : OArr Z h' a ty vs := by obtain ⟨cl, A, r⟩ := V; exact ⟨cl, A.ext E, r⟩
theorem OArr.other (V : OArr Z h b ty vs) (W : Wr h h' a i v) (q : b ≠ a) : OArr Z h' b ty vs := by obtain ⟨cl, A, r⟩ := V; exact ⟨cl, A.other W q, r⟩
theorem OArr.keep {ws : List Addr} (V : OArr Z h a ty vs) (K : Keep h h' ws) (q : a ∉ ws) : OArr Z h' a ty vs := by obtain ⟨cl, A, r⟩ := V; exact ⟨cl, ⟨K.2.1 a cl A.1 q, A.2⟩, r⟩
theorem OArr.set (V : OArr Z h a ty vs) (W : Wr h h' a i v) : OArr Z h' a ty (vs.set i v) := by
  obtain ⟨cl, A, r⟩ := V
  exact ⟨_, A.same W, by simp [Cell.setSlot, r]⟩
theorem own_newP (X : Stand p l e R s m args below meth c T locs cells slots) (hx : p.tables.exec = Jvm.exec) (hZ : Z.Warmed39 s.vm) {aty : ArrayType} (w : (Cond.arrayClass (newarray.typeOf aty)).before a0 Z = true) (eT : T.heap = h) {g : JFrame} (hg : g.method = m) (hd : decode c.code g.pc = .ok (.newarray aty, 2)) {n : Int32} {rest : List Value} (hs : g.stack = .int n :: rest)
    (hn : ¬ n < 0) (N : Nat) (hN : n.toNatClampNeg = N) {cap : Nat} (hcap : N ≤ cap) (hb : cap * 8 ≤ 536870912) (hc : cells + 1 ≤ R.cells) (hl : slots + cap ≤ R.slots) :
    ∃ T' h', Stand p l e R s m args below meth c T' locs (cells + 1) (slots + cap) ∧ T'.heap = h' ∧ Ext h h' ∧ OArr Z h' h.size (newarray.typeOf aty) (List.replicate N (defaultValue (newarray.typeOf aty))) ∧
      ∀ target, Steps p.tables e below (T'.setTop { g with pc := g.pc + 2, stack := .ref h.size :: rest }) target → Steps p.tables e below (T.setTop g) target := by
  obtain ⟨T', h', cA, X', e', E, A, st⟩ := newP X hx hZ w eT hg hd hs hn (cap := cap) (by rw [hN]; exact hcap) hb hc hl
  exact ⟨T', h', X', e', E, ⟨_, A, by simp [newA, hN]⟩, st⟩
theorem own_in (V : OArr Z h a ty vs) : ∃ cl : Cell, Arr Z h a cl ty ∧ cl.slots = vs.toArray ∧ ∀ j : Int32, ¬ j < 0 → j.toNatClampNeg < vs.length → ¬ (j < 0 ∨ cl.slots.size ≤ j.toNatClampNeg) := by
  obtain ⟨cl, A, r⟩ := V
  refine ⟨cl, A, r, fun j h1 h2 h3 => h3.elim h1 fun q => ?_⟩
  rw [r] at q
  simp at q
  omega
theorem own_stI (X : Stand p l e R s m args below meth c T locs cells slots) (hx : p.tables.exec = Jvm.exec) (hZ : Z.Warmed39 s.vm) (eT : T.heap = h) (V : OArr Z h a .int vs) {j x : Int32} (i : Nat) (hj0 : ¬ j < 0) (hj : j.toNatClampNeg = i) (hi : i < vs.length) {g : JFrame} (hg : g.method = m) {rest : List Value} (hs : g.stack = .int x :: .int j :: .ref a :: rest) (hd : decode c.code g.pc = .ok (.iastore, 1)) :
    ∃ T' h', Stand p l e R s m args below meth c T' (locs ++ [⟨a, i⟩]) cells slots ∧ T'.heap = h' ∧ Wr h h' a i (.int x) ∧ OArr Z h' a .int (vs.set i (.int x)) ∧ ∀ target, Steps p.tables e below (T'.setTop { g with pc := g.pc + 1, stack := rest }) target → Steps p.tables e below (T.setTop g) target := by
  obtain ⟨cl, A, r, q⟩ := own_in V
  subst hj
  obtain ⟨T', h', X', e', W, st⟩ := stI X hx hZ eT A (j := j) (q j hj0 hi) hg hs hd
  exact ⟨T', h', X', e', W, V.set W, st⟩
theorem own_stJ (X : Stand p l e R s m args below meth c T locs cells slots) (hx : p.tables.exec = Jvm.exec) (hZ : Z.Warmed39 s.vm) (eT : T.heap = h) (V : OArr Z h a .long vs) {j : Int32} {x : Int64} (i : Nat) (hj0 : ¬ j < 0) (hj : j.toNatClampNeg = i) (hi : i < vs.length) {g : JFrame} (hg : g.method = m) {rest : List Value} (hs : g.stack = .long x :: .int j :: .ref a :: rest) (hd : decode c.code g.pc = .ok (.lastore, 1)) :
    ∃ T' h', Stand p l e R s m args below meth c T' (locs ++ [⟨a, i⟩]) cells slots ∧ T'.heap = h' ∧ Wr h h' a i (.long x) ∧ OArr Z h' a .long (vs.set i (.long x)) ∧ ∀ target, Steps p.tables e below (T'.setTop { g with pc := g.pc + 1, stack := rest }) target → Steps p.tables e below (T.setTop g) target := by
  obtain ⟨cl, A, r, q⟩ := own_in V
  subst hj
  obtain ⟨T', h', X', e', W, st⟩ := stJ X hx hZ eT A (j := j) (q j hj0 hi) hg hs hd
  exact ⟨T', h', X', e', W, V.set W, st⟩
theorem own_stB (X : Stand p l e R s m args below meth c T locs cells slots) (hx : p.tables.exec = Jvm.exec) (hZ : Z.Warmed39 s.vm) (eT : T.heap = h) (V : OArr Z h a .byte vs) {j x : Int32} (i : Nat) (hj0 : ¬ j < 0) (hj : j.toNatClampNeg = i) (hi : i < vs.length) {g : JFrame} (hg : g.method = m) {rest : List Value} (hs : g.stack = .int x :: .int j :: .ref a :: rest) (hd : decode c.code g.pc = .ok (.bastore, 1)) :
    ∃ T' h', Stand p l e R s m args below meth c T' (locs ++ [⟨a, i⟩]) cells slots ∧ T'.heap = h' ∧ Wr h h' a i (.int (nar .byte x)) ∧ OArr Z h' a .byte (vs.set i (.int (nar .byte x))) ∧ ∀ target, Steps p.tables e below (T'.setTop { g with pc := g.pc + 1, stack := rest }) target → Steps p.tables e below (T.setTop g) target := by
  obtain ⟨cl, A, r, q⟩ := own_in V
  subst hj
  obtain ⟨T', h', X', e', W, st⟩ := stB X hx hZ eT A (j := j) (q j hj0 hi) hg hs hd
  exact ⟨T', h', X', e', W, V.set W, st⟩
theorem own_ldI (X : Stand p l e R s m args below meth c T locs cells slots) (hx : p.tables.exec = Jvm.exec) (hZ : Z.Warmed39 s.vm) (eT : T.heap = h) (V : OArr Z h a .int vs) {j : Int32} {v : Value} (hj0 : ¬ j < 0) (hv : vs[j.toNatClampNeg]? = some v) {g : JFrame} (hg : g.method = m) {rest : List Value} (hs : g.stack = .int j :: .ref a :: rest) (hd : decode c.code g.pc = .ok (.iaload, 1)) (target : State)
    (hr : Steps p.tables e below (T.setTop { g with pc := g.pc + 1, stack := v :: rest }) target) : Steps p.tables e below (T.setTop g) target := by
  obtain ⟨cl, A, r, q⟩ := own_in V
  exact X.iaload hx (j := j) (v := v) (by rw [eT]; exact A.1) (State.isArrayOf_alike hZ.alike A.2.1) A.2.2 (q j hj0 (List.getElem?_eq_some_iff.mp hv).1) (by rw [r]; simpa using hv) hg hs hd _ hr
theorem own_ldJ (X : Stand p l e R s m args below meth c T locs cells slots) (hx : p.tables.exec = Jvm.exec) (hZ : Z.Warmed39 s.vm) (eT : T.heap = h) (V : OArr Z h a .long vs) {j : Int32} {v : Value} (hj0 : ¬ j < 0) (hv : vs[j.toNatClampNeg]? = some v) {g : JFrame} (hg : g.method = m) {rest : List Value} (hs : g.stack = .int j :: .ref a :: rest) (hd : decode c.code g.pc = .ok (.laload, 1)) (target : State)
    (hr : Steps p.tables e below (T.setTop { g with pc := g.pc + 1, stack := v :: rest }) target) : Steps p.tables e below (T.setTop g) target := by
  obtain ⟨cl, A, r, q⟩ := own_in V
  exact X.laload hx (j := j) (v := v) (by rw [eT]; exact A.1) (State.isArrayOf_alike hZ.alike A.2.1) A.2.2 (q j hj0 (List.getElem?_eq_some_iff.mp hv).1) (by rw [r]; simpa using hv) hg hs hd _ hr
theorem own_ldB (X : Stand p l e R s m args below meth c T locs cells slots) (hx : p.tables.exec = Jvm.exec) (hZ : Z.Warmed39 s.vm) (eT : T.heap = h) (V : OArr Z h a .byte vs) {j : Int32} {v : Value} (hj0 : ¬ j < 0) (hv : vs[j.toNatClampNeg]? = some v) {g : JFrame} (hg : g.method = m) {rest : List Value} (hs : g.stack = .int j :: .ref a :: rest) (hd : decode c.code g.pc = .ok (.baload, 1)) (target : State)
    (hr : Steps p.tables e below (T.setTop { g with pc := g.pc + 1, stack := v :: rest }) target) : Steps p.tables e below (T.setTop g) target := by
  obtain ⟨cl, A, r, q⟩ := own_in V
  exact X.baloadBytes hx (j := j) (v := v) (by rw [eT]; exact A.1) (State.isArrayOf_alike hZ.alike A.2.1) A.2.2 (q j hj0 (List.getElem?_eq_some_iff.mp hv).1) (by rw [r]; simpa using hv) hg hs hd _ hr
theorem own_ldR (X : Stand p l e R s m args below meth c T locs cells slots) (hx : p.tables.exec = Jvm.exec) (hZ : Z.Warmed39 s.vm) (eT : T.heap = h) (V : OArr Z h a ty vs) (hty : ty.isReference = true) {j : Int32} {v : Value} (hj0 : ¬ j < 0) (hv : vs[j.toNatClampNeg]? = some v) {g : JFrame} (hg : g.method = m) {rest : List Value} (hs : g.stack = .int j :: .ref a :: rest) (hd : decode c.code g.pc = .ok (.aaload, 1)) (target : State)
    (hr : Steps p.tables e below (T.setTop { g with pc := g.pc + 1, stack := v :: rest }) target) : Steps p.tables e below (T.setTop g) target := by
  obtain ⟨cl, A, r, q⟩ := own_in V
  exact X.aaload hx (j := j) (v := v) (by rw [eT]; exact A.1) (State.isArrayOf_alike hZ.alike A.2.1) hty A.2.2 (q j hj0 (List.getElem?_eq_some_iff.mp hv).1) (by rw [r]; simpa using hv) hg hs hd _ hr
theorem own_len (X : Stand p l e R s m args below meth c T locs cells slots) (hx : p.tables.exec = Jvm.exec) (hZ : Z.Warmed39 s.vm) (eT : T.heap = h) (V : OArr Z h a ty vs) {n : Int32} (hn : vs.length.toInt32 = n) {g : JFrame} (hg : g.method = m) {rest : List Value} (hs : g.stack = .ref a :: rest) (hd : decode c.code g.pc = .ok (.arraylength, 1)) (target : State)
    (hr : Steps p.tables e below (T.setTop { g with pc := g.pc + 1, stack := .int n :: rest }) target) : Steps p.tables e below (T.setTop g) target := by
  obtain ⟨cl, A, r, q⟩ := own_in V
  refine X.arraylength hx (by rw [eT]; exact A.1) (State.isArrayOf_alike hZ.alike A.2.1) hg hs hd _ ?_
  rw [r]
  rw [← hn] at hr
  simpa using hr
end OwnArr
section OwnCalls
variable {p : Program} {l : Launch} {e : Env} {R : Room} {s : State} {m : MethodId} {args : Array Value} {below : List Frame} {meth : Method} {c : Code} {T : State} {locs : List Loc} {cells slots : Nat} {Z : State} {a0 : Array Value} {h : Heap} {b : Addr} {y y' : MethodName} {bytes : ByteArray} {maxL : Nat} {ret : Option FieldType} {rm : Room} {as' : List Value} {QQ : Option Value → Heap → List Loc → Prop} {own C : String} {index : Nat}
/-- an instance method of the object's own class by its contract -/
theorem own_callV (X : Stand p l e R s m args below meth c T locs cells slots) (hx : p.tables.exec = Jvm.exec) (hZ : Z.Warmed39 s.vm) (hown : s.vm.findClass own = some m.cls)
    (w1 : (Cond.methodLink own index y).before a0 Z = true) (w2 : (Cond.declares y).before a0 Z = true) (w3 : (Cond.selects C y y).before a0 Z = true) (w4 : (Cond.instanceMethod y).before a0 Z = true) (w5 : (Cond.code y bytes maxL ret).before a0 Z = true) (w6 : (Cond.initialized y.cls).before a0 Z = true) (hy : y.cls ≠ "java/lang/invoke/MethodHandle" ∧ y.cls ≠ "java/lang/invoke/VarHandle") (eT : T.heap = h) (E : Exa Z h b C)
    (hM : MetFree l y (head1 [Cond.code y bytes maxL ret] rm) (fun a U => a = (.ref b :: as').toArray ∧ Z.Warmed39 U.vm ∧ U.heap = h) (fun _ _ _ _ _ => True) (fun _ U o U' => ∃ v L, o = .returned v ∧ OQ QQ v U'.heap L ∧ FrameEnd U o U' L rm.cells rm.slots))
    (W : Nat) (hf : rm.frames + 1 ≤ R.frames) (hl : W + (maxL + 11) + rm.locals ≤ R.locals) (hc : cells + rm.cells ≤ R.cells) (hs : slots + rm.slots ≤ R.slots)
    {g : JFrame} (hg : g.method = m) (hsize : g.locals.size = c.maxLocals) {rest : List Value} (hlen : ∀ sig, parseMethodDescriptor y.desc = some sig → as'.length = sig.parameters.length) (hstack : g.stack = as'.reverse ++ .ref b :: rest) (hW : 2 * g.monitorRoom + (rest.map fun v => v.category).sum ≤ W) (hd : decode c.code g.pc = .ok (.invokevirtual index, 3)) :
    ∃ v T' L, QQ v T'.heap L ∧ Stand p l e R s m args below meth c T' (locs ++ L) (cells + rm.cells) (slots + rm.slots) ∧ ∀ target, Steps p.tables e below (T'.setTop { g with pc := g.pc + 3, stack := v.toList ++ rest }) target → Steps p.tables e below (T.setTop g) target := by
  obtain ⟨cq, kq, qa, qb, qc⟩ := isOf hZ eT E
  obtain ⟨v, _, ⟨T', L1, k1, n1⟩, -, X', ⟨L, hQ, l1, y1, z1⟩, st⟩ := X.virtualBack hx (y := y) (z := y) hown (mvT hZ w1) (mvT hZ w2) (notFace_of_selects (args := #[]) (mvT hZ w3)) (mvT hZ w3) (mvT hZ w4) hy (backOf (W := W) (Q := OQ QQ) hM hZ w5 w6 hf hl) qa qc (g := g) hg hsize (Steps.refl _) (argsL := as') (rest := rest) hlen hstack hW hd (fun _ _ => ⟨rfl, eT, hc, hs⟩)
  dsimp only [Pt.U, Pt.locs, Pt.cells, Pt.slots] at X' l1 y1 z1 st hQ
  subst l1 y1 z1
  exact ⟨v, T', L, hQ, X', fun _ k => st.trans k⟩
/-- a constructor by its contract -/
theorem own_callN (X : Stand p l e R s m args below meth c T locs cells slots) (hx : p.tables.exec = Jvm.exec) (hZ : Z.Warmed39 s.vm) (hown : s.vm.findClass own = some m.cls) (hy1 : y.name = "<init>")
    (w1 : (Cond.methodLink own index y).before a0 Z = true) (w4 : (Cond.instanceMethod y).before a0 Z = true) (w5 : (Cond.code y bytes maxL none).before a0 Z = true) (w6 : (Cond.initialized y.cls).before a0 Z = true) (hy : y.cls ≠ "java/lang/invoke/MethodHandle" ∧ y.cls ≠ "java/lang/invoke/VarHandle") (eT : T.heap = h)
    (hM : MetFree l y (head1 [Cond.code y bytes maxL none] rm) (fun a U => a = (.ref b :: as').toArray ∧ Z.Warmed39 U.vm ∧ U.heap = h) (fun _ _ _ _ _ => True) (fun _ U o U' => ∃ v L, o = .returned v ∧ OQ QQ v U'.heap L ∧ FrameEnd U o U' L rm.cells rm.slots))
    (W : Nat) (hf : rm.frames + 1 ≤ R.frames) (hl : W + (maxL + 11) + rm.locals ≤ R.locals) (hc : cells + rm.cells ≤ R.cells) (hs : slots + rm.slots ≤ R.slots)
    {g : JFrame} (hg : g.method = m) (hsize : g.locals.size = c.maxLocals) {rest : List Value} (hlen : ∀ sig, parseMethodDescriptor y.desc = some sig → as'.length = sig.parameters.length) (hstack : g.stack = as'.reverse ++ .ref b :: rest) (hW : 2 * g.monitorRoom + (rest.map fun v => v.category).sum ≤ W) (hd : decode c.code g.pc = .ok (.invokespecial index, 3)) :
    ∃ v T' L, QQ v T'.heap L ∧ Stand p l e R s m args below meth c T' (locs ++ L) (cells + rm.cells) (slots + rm.slots) ∧ ∀ target, Steps p.tables e below (T'.setTop { g with pc := g.pc + 3, stack := v.toList ++ rest }) target → Steps p.tables e below (T.setTop g) target := by
  obtain ⟨v, _, ⟨T', L1, k1, n1⟩, -, X', ⟨L, hQ, l1, y1, z1⟩, st⟩ := X.specialBack hx (y := y) hy1 hown (mvT hZ w1) (mvT hZ w4) (mvT hZ w5) hy (backOf (W := W) (Q := OQ QQ) hM hZ w5 w6 hf hl) (g := g) hg hsize (Steps.refl _) (a := b) (argsL := as') (rest := rest) hlen hstack hW hd (fun _ _ => ⟨rfl, eT, hc, hs⟩)
  dsimp only [Pt.U, Pt.locs, Pt.cells, Pt.slots] at X' l1 y1 z1 st hQ
  subst l1 y1 z1
  exact ⟨v, T', L, hQ, X', fun _ k => st.trans k⟩
/-- a private method is what its own class selects (by another method's word the class is no interface) -/
theorem own_selP (hZ : Z.Warmed39 s.vm) (w3 : (Cond.selects C y' y').before a0 Z = true) (hc : y'.cls = y.cls) (wp : (Cond.privateMethod y).before a0 Z = true) (wi : (Cond.instanceMethod y).before a0 Z = true) (hy : y.cls ≠ "java/lang/invoke/MethodHandle" ∧ y.cls ≠ "java/lang/invoke/VarHandle") : (Cond.selects y.cls y y).before args s = true := by
  have ws : (Cond.selects C y' y').before args s = true := mvT hZ w3
  obtain ⟨c2, r2, m2, -, -, q3, -, kP, hkP, hkPi⟩ := Cond.selects_spec ws
  exact selects_self_of_private (c := m2.cls) (k := kP) (by rw [← hc]; exact findClass_of_methodNamed q3) hkP hkPi (Cond.privateMethod_at (mvP hZ wp (args := #[]))) (mvT hZ wi) hy
/-- a private method by its contract -/
theorem own_callP (X : Stand p l e R s m args below meth c T locs cells slots) (hx : p.tables.exec = Jvm.exec) (hZ : Z.Warmed39 s.vm) (hown : s.vm.findClass own = some m.cls)
    (w1 : (Cond.methodLink own index y).before a0 Z = true) (hsel : (Cond.selects y.cls y y).before args s = true) (wp : (Cond.privateMethod y).before a0 Z = true) (w4 : (Cond.instanceMethod y).before a0 Z = true) (w5 : (Cond.code y bytes maxL ret).before a0 Z = true) (w6 : (Cond.initialized y.cls).before a0 Z = true) (hy : y.cls ≠ "java/lang/invoke/MethodHandle" ∧ y.cls ≠ "java/lang/invoke/VarHandle") (eT : T.heap = h) (E : Exa Z h b C)
    (hM : MetFree l y (head1 [Cond.code y bytes maxL ret] rm) (fun a U => a = (.ref b :: as').toArray ∧ Z.Warmed39 U.vm ∧ U.heap = h) (fun _ _ _ _ _ => True) (fun _ U o U' => ∃ v L, o = .returned v ∧ OQ QQ v U'.heap L ∧ FrameEnd U o U' L rm.cells rm.slots))
    (W : Nat) (hf : rm.frames + 1 ≤ R.frames) (hl : W + (maxL + 11) + rm.locals ≤ R.locals) (hc : cells + rm.cells ≤ R.cells) (hs : slots + rm.slots ≤ R.slots)
    {g : JFrame} (hg : g.method = m) (hsize : g.locals.size = c.maxLocals) {rest : List Value} (hlen : ∀ sig, parseMethodDescriptor y.desc = some sig → as'.length = sig.parameters.length) (hstack : g.stack = as'.reverse ++ .ref b :: rest) (hW : 2 * g.monitorRoom + (rest.map fun v => v.category).sum ≤ W) (hd : decode c.code g.pc = .ok (.invokevirtual index, 3)) :
    ∃ v T' L, QQ v T'.heap L ∧ Stand p l e R s m args below meth c T' (locs ++ L) (cells + rm.cells) (slots + rm.slots) ∧ ∀ target, Steps p.tables e below (T'.setTop { g with pc := g.pc + 3, stack := v.toList ++ rest }) target → Steps p.tables e below (T.setTop g) target := by
  obtain ⟨cq, q1, q2⟩ := E.cell
  obtain ⟨v, _, ⟨T', L1, k1, n1⟩, -, X', ⟨L, hQ, l1, y1, z1⟩, st⟩ := X.privateBack hx (y := y) hown (mvT hZ w1) (mvT hZ w4) hsel (Cond.privateMethod_at (mvP hZ wp (args := #[]))) (mvT hZ w5) hy (backOf (W := W) (Q := OQ QQ) hM hZ w5 w6 hf hl) (g := g) hg hsize (Steps.refl _) (a := b) (by rw [eT]; exact q1) q2 (argsL := as') (rest := rest) hlen hstack hW hd (fun _ _ => ⟨rfl, eT, hc, hs⟩)
  dsimp only [Pt.U, Pt.locs, Pt.cells, Pt.slots] at X' l1 y1 z1 st hQ
  subst l1 y1 z1
  exact ⟨v, T', L, hQ, X', fun _ k => st.trans k⟩
end OwnCalls
section OwnFn
variable {Z : State} {h h' : Heap} {a b : Addr} {ty : FieldType} {n i j : Nat} {v : Value} {f : Nat → Value}
theorem own_rset (n i : Nat) (f : Nat → Value) (v : Value) : ((List.range n).map f).set i v = (List.range n).map (fun j => if j = i then v else f j) := by
  apply List.ext_getElem
  · simp
  · intro j h1 h2
    simp only [List.getElem_set, List.getElem_map, List.getElem_range]
    by_cases q : i = j
    · subst q; simp
    · rw [if_neg q, if_neg (fun r => q r.symm)]
theorem own_rat (f : Nat → Value) (h : j < n) : ((List.range n).map f)[j]? = some (f j) := by simp [h]
theorem own_rep (n : Nat) (v : Value) : List.replicate n v = (List.range n).map (fun _ => v) := by
  apply List.ext_getElem
  · simp
  · intro j h1 h2; simp
/-- the array at a has n places; place j holds f j -/
def OFn (Z : State) (h : Heap) (a : Addr) (ty : FieldType) (n : Nat) (f : Nat → Value) : Prop := OArr Z h a ty ((List.range n).map f)
theorem OFn.set (V : OFn Z h a ty n f) (W : Wr h h' a i v) : OFn Z h' a ty n (fun j => if j = i then v else f j) := by
  have q := OArr.set V W
  rw [own_rset] at q
  exact q
theorem OFn.lt (V : OFn Z h a ty n f) : a < h.size := OArr.lt V
theorem OFn.ext (V : OFn Z h a ty n f) (E : Ext h h') : OFn Z h' a ty n f := OArr.ext V E
theorem OFn.other (V : OFn Z h b ty n f) (W : Wr h h' a i v) (q : b ≠ a) : OFn Z h' b ty n f := OArr.other V W q
theorem OFn.keep {ws : List Addr} (V : OFn Z h a ty n f) (K : Keep h h' ws) (q : a ∉ ws) : OFn Z h' a ty n f := OArr.keep V K q
theorem own_rlen (f : Nat → Value) : ((List.range n).map f).length = n := by simp
theorem own_ix (k : Nat) (hk : k < 1000000) : ¬ Int32.ofNat k < 0 ∧ (Int32.ofNat k).toNatClampNeg = k := by
  have h1 : (Int32.ofNat k).toInt = k := Int32.toInt_ofNat_small (by omega)
  have h2 : (Int32.ofNat k).toNatClampNeg = (Int32.ofNat k).toInt.toNat := rfl
  have h0 : (0 : Int32).toInt = 0 := rfl
  rw [Int32.lt_iff_toInt_lt, h2]
  omega
theorem own_ofAdd (a b : Nat) : Int32.ofNat a + Int32.ofNat b = Int32.ofNat (a + b) := (Int32.ofNat_add a b).symm
theorem own_ofLt (a b : Nat) (ha : a < 2 ^ 31) (hb : b < 2 ^ 31) : Int32.ofNat a < Int32.ofNat b ↔ a < b := by
  rw [Int32.lt_iff_toInt_lt, Int32.toInt_ofNat_small ha, Int32.toInt_ofNat_small hb]
  omega
theorem own_ofEq (a b : Nat) (ha : a < 2 ^ 31) (hb : b < 2 ^ 31) : Int32.ofNat a = Int32.ofNat b ↔ a = b := by
  constructor
  · intro h
    have h1 := congrArg Int32.toInt h
    rw [Int32.toInt_ofNat_small ha, Int32.toInt_ofNat_small hb] at h1
    omega
  · rintro rfl; rfl
theorem own_low (x m : Int32) (k : Nat) (hk : k ≤ 31) (hm : m.toBitVec.toNat = 2 ^ k - 1) : ∃ j : Nat, j < 2 ^ k ∧ (x &&& m) = Int32.ofNat j := by
  have h := c_mask x m k hk hm
  have hp : (0 : Int) < ((2 ^ k : Nat) : Int) := Int.ofNat_lt.mpr (Nat.two_pow_pos k)
  have h1 := Int.emod_nonneg x.toInt (Int.ne_of_gt hp)
  have h2 := Int.emod_lt_of_pos x.toInt hp
  have h3 : (2 ^ k : Nat) ≤ 2 ^ 31 := Nat.pow_le_pow_right (by decide) hk
  refine ⟨(x &&& m).toInt.toNat, by omega, ?_⟩
  apply Int32.toInt_inj.mp
  rw [Int32.toInt_ofNat_small (by omega)]
  omega
end OwnFn
theorem pd_0 : parseMethodDescriptor "(B)Z" = some ⟨[.byte], some .boolean⟩ := by decide +kernel
theorem pd_1 : parseMethodDescriptor "(I)V" = some ⟨[.int], none⟩ := by decide +kernel
theorem pd_2 : parseMethodDescriptor "([BII)I" = some ⟨[(.array .byte), .int, .int], some .int⟩ := by decide +kernel
theorem pd_3 : parseMethodDescriptor "([BII)V" = some ⟨[(.array .byte), .int, .int], none⟩ := by decide +kernel
theorem pd_4 : parseMethodDescriptor "(I)I" = some ⟨[.int], some .int⟩ := by decide +kernel
def own_cont (b : Int32) : Prop := (b &&& (192 : Int32)) = (128 : Int32)
instance own_contDec (b : Int32) : Decidable (own_cont b) := inferInstanceAs (Decidable (_ = _))
theorem own_and3 (x : Int32) : (x &&& (3 : Int32)) = 0 ∨ (x &&& (3 : Int32)) = 1 ∨ (x &&& (3 : Int32)) = 2 ∨ (x &&& (3 : Int32)) = 3 := by
  obtain ⟨j, hj, e⟩ := own_low x 3 2 (by decide) (by decide)
  rw [e]
  match j, hj with
  | 0, _ => exact Or.inl rfl
  | 1, _ => exact Or.inr (Or.inl rfl)
  | 2, _ => exact Or.inr (Or.inr (Or.inl rfl))
  | 3, _ => exact Or.inr (Or.inr (Or.inr rfl))
theorem own_ixA (k j : Nat) (hk : k < 1000) (hj : j < 1000) : ¬ (Int32.ofNat k + Int32.ofNat j) < 0 ∧ (Int32.ofNat k + Int32.ofNat j).toNatClampNeg = k + j := by
  rw [own_ofAdd]; exact own_ix _ (by omega)
theorem own_leadF1 : ∀ j : Fin 128, ¬ own_cont (nar .byte ((Int32.ofNat j.1).toInt8.toInt32)) := by decide +kernel
theorem own_leadF2 : ∀ j : Fin 16, ¬ own_cont (nar .byte (((194 : Int32) + Int32.ofNat j.1).toInt8.toInt32)) := by decide +kernel
theorem own_leadF3 : ∀ j : Fin 8, ¬ own_cont (nar .byte (((225 : Int32) + Int32.ofNat j.1).toInt8.toInt32)) := by decide +kernel
theorem own_leadF4 : ∀ j : Fin 2, ¬ own_cont (nar .byte (((241 : Int32) + Int32.ofNat j.1).toInt8.toInt32)) := by decide +kernel
theorem own_contF : ∀ j : Fin 64, own_cont (nar .byte (((128 : Int32) ||| Int32.ofNat j.1).toInt8.toInt32)) := by decide +kernel
theorem own_lead1 (x : Int32) : ¬ own_cont (nar .byte ((((x.toUInt32 >>> ((2 : Int32) &&& 31).toUInt32).toInt32) &&& (127 : Int32)).toInt8.toInt32)) := by
  obtain ⟨j, hj, e⟩ := own_low ((x.toUInt32 >>> ((2 : Int32) &&& 31).toUInt32).toInt32) 127 7 (by decide) (by decide)
  rw [e]; exact own_leadF1 ⟨j, hj⟩
theorem own_lead2 (x : Int32) : ¬ own_cont (nar .byte (((194 : Int32) + (((x.toUInt32 >>> ((2 : Int32) &&& 31).toUInt32).toInt32) &&& (15 : Int32))).toInt8.toInt32)) := by
  obtain ⟨j, hj, e⟩ := own_low ((x.toUInt32 >>> ((2 : Int32) &&& 31).toUInt32).toInt32) 15 4 (by decide) (by decide)
  rw [e]; exact own_leadF2 ⟨j, hj⟩
theorem own_lead3 (x : Int32) : ¬ own_cont (nar .byte (((225 : Int32) + (((x.toUInt32 >>> ((2 : Int32) &&& 31).toUInt32).toInt32) &&& (7 : Int32))).toInt8.toInt32)) := by
  obtain ⟨j, hj, e⟩ := own_low ((x.toUInt32 >>> ((2 : Int32) &&& 31).toUInt32).toInt32) 7 3 (by decide) (by decide)
  rw [e]; exact own_leadF3 ⟨j, hj⟩
theorem own_lead4 (x : Int32) : ¬ own_cont (nar .byte (((241 : Int32) + (((x.toUInt32 >>> ((2 : Int32) &&& 31).toUInt32).toInt32) &&& (1 : Int32))).toInt8.toInt32)) := by
  obtain ⟨j, hj, e⟩ := own_low ((x.toUInt32 >>> ((2 : Int32) &&& 31).toUInt32).toInt32) 1 1 (by decide) (by decide)
  rw [e]; exact own_leadF4 ⟨j, hj⟩
theorem own_contv (x c : Int32) : own_cont (nar .byte (((128 : Int32) ||| (((x.toUInt32 >>> (c &&& 31).toUInt32).toInt32) &&& (63 : Int32))).toInt8.toInt32)) := by
  obtain ⟨j, hj, e⟩ := own_low ((x.toUInt32 >>> (c &&& 31).toUInt32).toInt32) 63 6 (by decide) (by decide)
  rw [e]; exact own_contF ⟨j, hj⟩
/-- how many of the first places hold no byte that goes on -/
def own_cnt (f : Nat → Value) : Nat → Nat
  | 0 => 0
  | i + 1 => own_cnt f i + (match f i with
    | .int b => if own_cont b then 0 else 1
    | _ => 0)
theorem own_cnt0 (f : Nat → Value) : own_cnt f 0 = 0 := rfl
theorem own_cntS (f : Nat → Value) (i : Nat) (b : Int32) (h : f i = .int b) : own_cnt f (i + 1) = own_cnt f i + (if own_cont b then 0 else 1) := by
  show own_cnt f i + (match f i with | .int b => if own_cont b then 0 else 1 | _ => 0) = _
  rw [h]
theorem own_cntY (f : Nat → Value) (i : Nat) (b : Int32) (h : f i = .int b) (hc : own_cont b) : Int32.ofNat (own_cnt f i + 1) = Int32.ofNat (own_cnt f (i + 1) + 1) := by
  rw [own_cntS f i b h, if_pos hc]
theorem own_cntN (f : Nat → Value) (i : Nat) (b : Int32) (h : f i = .int b) (hc : ¬ own_cont b) : Int32.ofNat (own_cnt f i + 1) + (1 : Int32) = Int32.ofNat (own_cnt f (i + 1) + 1) := by
  rw [own_cntS f i b h, if_neg hc]
  exact own_ofAdd (own_cnt f i + 1) 1
theorem own_cntC (f g : Nat → Value) : ∀ n, (∀ j, j < n → g j = f j) → own_cnt g n = own_cnt f n := by
  intro n
  induction n with
  | zero => intro _; rfl
  | succ n ih =>
    intro h
    show own_cnt g n + _ = own_cnt f n + _
    rw [ih (fun j hj => h j (by omega)), h n (by omega)]
theorem own_cntB (f : Nat → Value) (k : Nat) (h0 : ∃ b, f k = .int b ∧ ¬ own_cont b) : ∀ n, 1 ≤ n → (∀ j, k < j → j < k + n → ∃ b, f j = .int b ∧ own_cont b) → own_cnt f (k + n) = own_cnt f k + 1 := by
  intro n
  induction n with
  | zero => intro h; omega
  | succ n ih =>
    intro _ h
    by_cases hn : n = 0
    · subst hn
      obtain ⟨b, hb, hc⟩ := h0
      rw [own_cntS f k b hb, if_neg hc]
    · obtain ⟨b, hb, hc⟩ := h (k + n) (by omega) (by omega)
      have q := own_cntS f (k + n) b hb
      rw [if_pos hc] at q
      have r := ih (by omega) (fun j h1 h2 => h j h1 (by omega))
      show own_cnt f (k + n + 1) = _
      omega
theorem own_all (f0 fa fb : Nat → Value) {fc : Nat → Value} (na nb nc : Nat) (la : 1 ≤ na) (lb : 1 ≤ nb) (lc : 1 ≤ nc) (Aa : ∀ j, j < 0 → fa j = f0 j) (Ab : ∀ j, j < na → fb j = fa j) (Ac : ∀ j, j < na + nb → fc j = fb j)
    (Ba : ∃ b, fa 0 = .int b ∧ ¬ own_cont b) (Bb : ∃ b, fb na = .int b ∧ ¬ own_cont b) (Bc : ∃ b, fc (na + nb) = .int b ∧ ¬ own_cont b)
    (Ca : ∀ j, 0 < j → j < 0 + na → ∃ b, fa j = .int b ∧ own_cont b) (Cb : ∀ j, na < j → j < na + nb → ∃ b, fb j = .int b ∧ own_cont b) (Cc : ∀ j, na + nb < j → j < na + nb + nc → ∃ b, fc j = .int b ∧ own_cont b) : ∀ j, j < na + nb + nc → ∃ b, fc j = .int b := by
  have one : ∀ (f : Nat → Value) (k n : Nat), (∃ b, f k = .int b ∧ ¬ own_cont b) → (∀ j, k < j → j < k + n → ∃ b, f j = .int b ∧ own_cont b) → ∀ j, k ≤ j → j < k + n → ∃ b, f j = .int b := by
    intro f k n hB hC j h1 h2
    by_cases q : j = k
    · subst q; obtain ⟨b, hb, -⟩ := hB; exact ⟨b, hb⟩
    · obtain ⟨b, hb, -⟩ := hC j (by omega) h2; exact ⟨b, hb⟩
  intro j hj
  by_cases h1 : j < na
  · rw [Ac j (by omega), Ab j h1]; exact one fa 0 na Ba Ca j (by omega) (by omega)
  · by_cases h2 : j < na + nb
    · rw [Ac j h2]; exact one fb na nb Bb Cb j (by omega) h2
    · exact one fc (na + nb) nc Bc Cc j (by omega) hj
theorem own_counts (f0 fa fb fc : Nat → Value) (na nb nc : Nat) (la : 1 ≤ na) (lb : 1 ≤ nb) (lc : 1 ≤ nc) (Aa : ∀ j, j < 0 → fa j = f0 j) (Ab : ∀ j, j < na → fb j = fa j) (Ac : ∀ j, j < na + nb → fc j = fb j)
    (Ba : ∃ b, fa 0 = .int b ∧ ¬ own_cont b) (Bb : ∃ b, fb na = .int b ∧ ¬ own_cont b) (Bc : ∃ b, fc (na + nb) = .int b ∧ ¬ own_cont b)
    (Ca : ∀ j, 0 < j → j < 0 + na → ∃ b, fa j = .int b ∧ own_cont b) (Cb : ∀ j, na < j → j < na + nb → ∃ b, fb j = .int b ∧ own_cont b) (Cc : ∀ j, na + nb < j → j < na + nb + nc → ∃ b, fc j = .int b ∧ own_cont b) : own_cnt fc na = 1 ∧ own_cnt fc (na + nb) = 2 ∧ own_cnt fc (na + nb + nc) = 3 := by
  have h1 : own_cnt fa (0 + na) = 1 := own_cntB fa 0 Ba na la Ca
  rw [Nat.zero_add] at h1
  have h2 := own_cntB fb na Bb nb lb Cb
  have h3 := own_cntB fc (na + nb) Bc nc lc Cc
  have e1 : own_cnt fb na = own_cnt fa na := own_cntC fa fb na Ab
  have e2 : own_cnt fc na = own_cnt fb na := own_cntC fb fc na (fun j hj => Ac j (by omega))
  have e3 : own_cnt fc (na + nb) = own_cnt fb (na + nb) := own_cntC fb fc (na + nb) Ac
  omega
theorem d1_0 : decode method_2_code 0 = .ok (.iload_n 2, 1) := by decide +kernel
theorem d1_1 : decode method_2_code 1 = .ok (.iconst 3, 1) := by decide +kernel
theorem d1_2 : decode method_2_code 2 = .ok (.iand, 1) := by decide +kernel
theorem d1_3 : decode method_2_code 3 = .ok (.iconst 1, 1) := by decide +kernel
theorem d1_4 : decode method_2_code 4 = .ok (.iadd, 1) := by decide +kernel
theorem d1_5 : decode method_2_code 5 = .ok (.istore_n 3, 1) := by decide +kernel
theorem d1_6 : decode method_2_code 6 = .ok (.iload_n 3, 1) := by decide +kernel
theorem d1_7 : decode method_2_code 7 = .ok (.iconst 1, 1) := by decide +kernel
theorem d1_8 : decode method_2_code 8 = .ok (.if_icmp .ne 14, 3) := by decide +kernel
theorem d1_11 : decode method_2_code 11 = .ok (.iload_n 2, 1) := by decide +kernel
theorem d1_12 : decode method_2_code 12 = .ok (.iconst 2, 1) := by decide +kernel
theorem d1_13 : decode method_2_code 13 = .ok (.iushr, 1) := by decide +kernel
theorem d1_14 : decode method_2_code 14 = .ok (.bipush 127, 2) := by decide +kernel
theorem d1_16 : decode method_2_code 16 = .ok (.iand, 1) := by decide +kernel
theorem d1_17 : decode method_2_code 17 = .ok (.istore 4, 2) := by decide +kernel
theorem d1_19 : decode method_2_code 19 = .ok (.goto 54, 3) := by decide +kernel
theorem d1_22 : decode method_2_code 22 = .ok (.iload_n 3, 1) := by decide +kernel
theorem d1_23 : decode method_2_code 23 = .ok (.iconst 2, 1) := by decide +kernel
theorem d1_24 : decode method_2_code 24 = .ok (.if_icmp .ne 18, 3) := by decide +kernel
theorem d1_27 : decode method_2_code 27 = .ok (.sipush 194, 3) := by decide +kernel
theorem d1_30 : decode method_2_code 30 = .ok (.iload_n 2, 1) := by decide +kernel
theorem d1_31 : decode method_2_code 31 = .ok (.iconst 2, 1) := by decide +kernel
theorem d1_32 : decode method_2_code 32 = .ok (.iushr, 1) := by decide +kernel
theorem d1_33 : decode method_2_code 33 = .ok (.bipush 15, 2) := by decide +kernel
theorem d1_35 : decode method_2_code 35 = .ok (.iand, 1) := by decide +kernel
theorem d1_36 : decode method_2_code 36 = .ok (.iadd, 1) := by decide +kernel
theorem d1_37 : decode method_2_code 37 = .ok (.istore 4, 2) := by decide +kernel
theorem d1_39 : decode method_2_code 39 = .ok (.goto 34, 3) := by decide +kernel
theorem d1_42 : decode method_2_code 42 = .ok (.iload_n 3, 1) := by decide +kernel
theorem d1_43 : decode method_2_code 43 = .ok (.iconst 3, 1) := by decide +kernel
theorem d1_44 : decode method_2_code 44 = .ok (.if_icmp .ne 18, 3) := by decide +kernel
theorem d1_47 : decode method_2_code 47 = .ok (.sipush 225, 3) := by decide +kernel
theorem d1_50 : decode method_2_code 50 = .ok (.iload_n 2, 1) := by decide +kernel
theorem d1_51 : decode method_2_code 51 = .ok (.iconst 2, 1) := by decide +kernel
theorem d1_52 : decode method_2_code 52 = .ok (.iushr, 1) := by decide +kernel
theorem d1_53 : decode method_2_code 53 = .ok (.bipush 7, 2) := by decide +kernel
theorem d1_55 : decode method_2_code 55 = .ok (.iand, 1) := by decide +kernel
theorem d1_56 : decode method_2_code 56 = .ok (.iadd, 1) := by decide +kernel
theorem d1_57 : decode method_2_code 57 = .ok (.istore 4, 2) := by decide +kernel
theorem d1_59 : decode method_2_code 59 = .ok (.goto 14, 3) := by decide +kernel
theorem d1_62 : decode method_2_code 62 = .ok (.sipush 241, 3) := by decide +kernel
theorem d1_65 : decode method_2_code 65 = .ok (.iload_n 2, 1) := by decide +kernel
theorem d1_66 : decode method_2_code 66 = .ok (.iconst 2, 1) := by decide +kernel
theorem d1_67 : decode method_2_code 67 = .ok (.iushr, 1) := by decide +kernel
theorem d1_68 : decode method_2_code 68 = .ok (.iconst 1, 1) := by decide +kernel
theorem d1_69 : decode method_2_code 69 = .ok (.iand, 1) := by decide +kernel
theorem d1_70 : decode method_2_code 70 = .ok (.iadd, 1) := by decide +kernel
theorem d1_71 : decode method_2_code 71 = .ok (.istore 4, 2) := by decide +kernel
theorem d1_73 : decode method_2_code 73 = .ok (.aload_n 0, 1) := by decide +kernel
theorem d1_74 : decode method_2_code 74 = .ok (.iload_n 1, 1) := by decide +kernel
theorem d1_75 : decode method_2_code 75 = .ok (.iload 4, 2) := by decide +kernel
theorem d1_77 : decode method_2_code 77 = .ok (.i2b, 1) := by decide +kernel
theorem d1_78 : decode method_2_code 78 = .ok (.bastore, 1) := by decide +kernel
theorem d1_79 : decode method_2_code 79 = .ok (.iload_n 3, 1) := by decide +kernel
theorem d1_80 : decode method_2_code 80 = .ok (.iconst 2, 1) := by decide +kernel
theorem d1_81 : decode method_2_code 81 = .ok (.if_icmp .lt 20, 3) := by decide +kernel
theorem d1_84 : decode method_2_code 84 = .ok (.aload_n 0, 1) := by decide +kernel
theorem d1_85 : decode method_2_code 85 = .ok (.iload_n 1, 1) := by decide +kernel
theorem d1_86 : decode method_2_code 86 = .ok (.iconst 1, 1) := by decide +kernel
theorem d1_87 : decode method_2_code 87 = .ok (.iadd, 1) := by decide +kernel
theorem d1_88 : decode method_2_code 88 = .ok (.sipush 128, 3) := by decide +kernel
theorem d1_91 : decode method_2_code 91 = .ok (.iload_n 2, 1) := by decide +kernel
theorem d1_92 : decode method_2_code 92 = .ok (.bipush 7, 2) := by decide +kernel
theorem d1_94 : decode method_2_code 94 = .ok (.iushr, 1) := by decide +kernel
theorem d1_95 : decode method_2_code 95 = .ok (.bipush 63, 2) := by decide +kernel
theorem d1_97 : decode method_2_code 97 = .ok (.iand, 1) := by decide +kernel
theorem d1_98 : decode method_2_code 98 = .ok (.ior, 1) := by decide +kernel
theorem d1_99 : decode method_2_code 99 = .ok (.i2b, 1) := by decide +kernel
theorem d1_100 : decode method_2_code 100 = .ok (.bastore, 1) := by decide +kernel
theorem d1_101 : decode method_2_code 101 = .ok (.iload_n 3, 1) := by decide +kernel
theorem d1_102 : decode method_2_code 102 = .ok (.iconst 3, 1) := by decide +kernel
theorem d1_103 : decode method_2_code 103 = .ok (.if_icmp .lt 20, 3) := by decide +kernel
theorem d1_106 : decode method_2_code 106 = .ok (.aload_n 0, 1) := by decide +kernel
theorem d1_107 : decode method_2_code 107 = .ok (.iload_n 1, 1) := by decide +kernel
theorem d1_108 : decode method_2_code 108 = .ok (.iconst 2, 1) := by decide +kernel
theorem d1_109 : decode method_2_code 109 = .ok (.iadd, 1) := by decide +kernel
theorem d1_110 : decode method_2_code 110 = .ok (.sipush 128, 3) := by decide +kernel
theorem d1_113 : decode method_2_code 113 = .ok (.iload_n 2, 1) := by decide +kernel
theorem d1_114 : decode method_2_code 114 = .ok (.bipush 13, 2) := by decide +kernel
theorem d1_116 : decode method_2_code 116 = .ok (.iushr, 1) := by decide +kernel
theorem d1_117 : decode method_2_code 117 = .ok (.bipush 63, 2) := by decide +kernel
theorem d1_119 : decode method_2_code 119 = .ok (.iand, 1) := by decide +kernel
theorem d1_120 : decode method_2_code 120 = .ok (.ior, 1) := by decide +kernel
theorem d1_121 : decode method_2_code 121 = .ok (.i2b, 1) := by decide +kernel
theorem d1_122 : decode method_2_code 122 = .ok (.bastore, 1) := by decide +kernel
theorem d1_123 : decode method_2_code 123 = .ok (.iload_n 3, 1) := by decide +kernel
theorem d1_124 : decode method_2_code 124 = .ok (.iconst 4, 1) := by decide +kernel
theorem d1_125 : decode method_2_code 125 = .ok (.if_icmp .lt 20, 3) := by decide +kernel
theorem d1_128 : decode method_2_code 128 = .ok (.aload_n 0, 1) := by decide +kernel
theorem d1_129 : decode method_2_code 129 = .ok (.iload_n 1, 1) := by decide +kernel
theorem d1_130 : decode method_2_code 130 = .ok (.iconst 3, 1) := by decide +kernel
theorem d1_131 : decode method_2_code 131 = .ok (.iadd, 1) := by decide +kernel
theorem d1_132 : decode method_2_code 132 = .ok (.sipush 128, 3) := by decide +kernel
theorem d1_135 : decode method_2_code 135 = .ok (.iload_n 2, 1) := by decide +kernel
theorem d1_136 : decode method_2_code 136 = .ok (.bipush 19, 2) := by decide +kernel
theorem d1_138 : decode method_2_code 138 = .ok (.iushr, 1) := by decide +kernel
theorem d1_139 : decode method_2_code 139 = .ok (.bipush 63, 2) := by decide +kernel
theorem d1_141 : decode method_2_code 141 = .ok (.iand, 1) := by decide +kernel
theorem d1_142 : decode method_2_code 142 = .ok (.ior, 1) := by decide +kernel
theorem d1_143 : decode method_2_code 143 = .ok (.i2b, 1) := by decide +kernel
theorem d1_144 : decode method_2_code 144 = .ok (.bastore, 1) := by decide +kernel
theorem d1_145 : decode method_2_code 145 = .ok (.iload_n 3, 1) := by decide +kernel
theorem d1_146 : decode method_2_code 146 = .ok (.ireturn, 1) := by decide +kernel
theorem pn_1 : plainName "com/example/fixpoint_checker/fixpointchecker/text/LineCursorGetColumnPinLaw" = true := by first | (simp [plainName, overriddenIn]; done) | decide +kernel
theorem ef_1 (m : MethodId) (a0 : Addr) (p1 : Int32) (p2 : Int32) : entryFrame m #[(.ref a0), (.int p1), (.int p2)] 5 = mkF m 0 #[.val (.ref a0), .val (.int p1), .val (.int p2), .unset, .unset] [] := by first | (simp [entryFrame, mkF, argsToLocals, Value.category]; done) | rfl
set_option maxRecDepth 65536 in
set_option maxHeartbeats 40000000 in
theorem rm1 (l : Launch) (Z : State) (a0 : Array Value) (hw : ∀ d ∈ tables_1, d.before a0 Z = true) (ws : List Jvm.Cond) (a : Addr) (k : Nat) (hk : k + 4 ≤ 12) (pp : Int32) (f : Nat → Value) (h0 : Heap) (n0 : Nat) (g : n0 ≤ a) (V0 : OFn Z h0 a .byte 12 f) :
    MetFree l (⟨"com/example/fixpoint_checker/fixpointchecker/text/LineCursorGetColumnPinLaw", "put", "([BII)I"⟩ : MethodName) (head1 (Jvm.Cond.code (⟨"com/example/fixpoint_checker/fixpointchecker/text/LineCursorGetColumnPinLaw", "put", "([BII)I"⟩ : MethodName) method_2_code 5 (some .int) :: ws) ({ frames := 0, cells := 0, slots := 0, locals := 0 } : Room)) (fun a_ U => a_ = #[(.ref a), (.int (Int32.ofNat k)), (.int pp)] ∧ Z.Warmed39 U.vm ∧ U.heap = h0) (fun _ _ _ _ _ => True) (fun _ U o_ U' => ∃ v L, o_ = .returned v ∧ OQ (fun v h L => ∃ (n : Nat) (f' : Nat → Value), v = some (.int (Int32.ofNat n)) ∧ 1 ≤ n ∧ n ≤ 4 ∧ OFn Z h a .byte 12 f' ∧ (∀ j, j < k → f' j = f j) ∧ (∃ b, f' k = .int b ∧ ¬ own_cont b) ∧ (∀ j, k < j → j < k + n → ∃ b, f' j = .int b ∧ own_cont b) ∧ Keep h0 h [a] ∧ Fr n0 L) v U'.heap L ∧ FrameEnd U o_ U' L ({ frames := 0, cells := 0, slots := 0, locals := 0 } : Room).cells ({ frames := 0, cells := 0, slots := 0, locals := 0 } : Room).slots) := by
  refine MetFree.of_bodySF (plainFor_of_name pn_1) hisR ?_
  intro p e s m args below meth c s₁ Bd hml0 hP hK
  obtain ⟨rfl, hZ, hh⟩ := hP
  have hx := Bd.exec
  have hby := Bd.bytes
  have hml : c.maxLocals = 5 := hml0
  have hown : s.vm.findClass "com/example/fixpoint_checker/fixpointchecker/text/LineCursorGetColumnPinLaw" = some m.cls := findClass_of_methodNamed Bd.named
  have hnm := (name_of_methodNamed Bd.named Bd.method).1
  have hret := Bd.returns
  have hlk : meth.locks = false := Bd.notSynchronized
  have X0 : Stand p l e ({ frames := 0, cells := 0, slots := 0, locals := 0 } : Room) s m #[(.ref a), (.int (Int32.ofNat k)), (.int pp)] below meth c s₁ [] 0 0 := Stand.of_body Bd
  have e0 : s₁.heap = h0 := by rw [← hh, Bd.state]; rfl
  refine OFin.start (Q := fun v h L => ∃ (n : Nat) (f' : Nat → Value), v = some (.int (Int32.ofNat n)) ∧ 1 ≤ n ∧ n ≤ 4 ∧ OFn Z h a .byte 12 f' ∧ (∀ j, j < k → f' j = f j) ∧ (∃ b, f' k = .int b ∧ ¬ own_cont b) ∧ (∀ j, k < j → j < k + n → ∃ b, f' j = .int b ∧ own_cont b) ∧ Keep h0 h [a] ∧ Fr n0 L) (s := s) (fun t kt => castTop (ef_1 m (a) ((Int32.ofNat k)) (pp)) kt) ?_
  rcases own_and3 pp with hn | hn | hn | hn
  · refine OFin.to (s₁.setTop (mkF m 1 #[.val (.ref a), .val (.int (Int32.ofNat k)), .val (.int pp), .unset, .unset] [(.int pp)])) (fun _ kt => XS.iloadN X0.here hx rfl (hb hby d1_0) rfl kt) ?_
    refine OFin.to (s₁.setTop (mkF m 2 #[.val (.ref a), .val (.int (Int32.ofNat k)), .val (.int pp), .unset, .unset] [(.int (3 : Int32)), (.int pp)])) (fun _ kt => XS.iconst X0.here hx rfl (hb hby d1_1) kt) ?_
    refine OFin.to (s₁.setTop (mkF m 3 #[.val (.ref a), .val (.int (Int32.ofNat k)), .val (.int pp), .unset, .unset] [(.int (pp &&& (3 : Int32)))])) (fun _ kt => XS.iand X0.here hx rfl (hb hby d1_2) rfl kt) ?_
    refine OFin.to (s₁.setTop (mkF m 4 #[.val (.ref a), .val (.int (Int32.ofNat k)), .val (.int pp), .unset, .unset] [(.int (1 : Int32)), (.int (pp &&& (3 : Int32)))])) (fun _ kt => XS.iconst X0.here hx rfl (hb hby d1_3) kt) ?_
    refine OFin.to (s₁.setTop (mkF m 5 #[.val (.ref a), .val (.int (Int32.ofNat k)), .val (.int pp), .unset, .unset] [(.int ((pp &&& (3 : Int32)) + (1 : Int32)))])) (fun _ kt => XS.iadd X0.here hx rfl (hb hby d1_4) rfl kt) ?_
    rw [show (pp &&& (3 : Int32)) + (1 : Int32) = (1 : Int32) from by rw [hn]; decide]
    refine OFin.to (s₁.setTop (mkF m 6 #[.val (.ref a), .val (.int (Int32.ofNat k)), .val (.int pp), .val (.int (1 : Int32)), .unset] [])) (fun _ kt => XS.istoreN X0.here hx rfl (hb hby d1_5) rfl (l' := #[.val (.ref a), .val (.int (Int32.ofNat k)), .val (.int pp), .val (.int (1 : Int32)), .unset]) rfl kt) ?_
    refine OFin.to (s₁.setTop (mkF m 7 #[.val (.ref a), .val (.int (Int32.ofNat k)), .val (.int pp), .val (.int (1 : Int32)), .unset] [(.int (1 : Int32))])) (fun _ kt => XS.iloadN X0.here hx rfl (hb hby d1_6) rfl kt) ?_
    refine OFin.to (s₁.setTop (mkF m 8 #[.val (.ref a), .val (.int (Int32.ofNat k)), .val (.int pp), .val (.int (1 : Int32)), .unset] [(.int (1 : Int32)), (.int (1 : Int32))])) (fun _ kt => XS.iconst X0.here hx rfl (hb hby d1_7) kt) ?_
    refine OFin.to (s₁.setTop (mkF m 11 #[.val (.ref a), .val (.int (Int32.ofNat k)), .val (.int pp), .val (.int (1 : Int32)), .unset] [])) (fun _ kt => XS.icmpNo X0.here hx rfl (hb hby d1_8) rfl (XT.ii_ne_f (by decide)) kt) ?_
    refine OFin.to (s₁.setTop (mkF m 12 #[.val (.ref a), .val (.int (Int32.ofNat k)), .val (.int pp), .val (.int (1 : Int32)), .unset] [(.int pp)])) (fun _ kt => XS.iloadN X0.here hx rfl (hb hby d1_11) rfl kt) ?_
    refine OFin.to (s₁.setTop (mkF m 13 #[.val (.ref a), .val (.int (Int32.ofNat k)), .val (.int pp), .val (.int (1 : Int32)), .unset] [(.int (2 : Int32)), (.int pp)])) (fun _ kt => XS.iconst X0.here hx rfl (hb hby d1_12) kt) ?_
    refine OFin.to (s₁.setTop (mkF m 14 #[.val (.ref a), .val (.int (Int32.ofNat k)), .val (.int pp), .val (.int (1 : Int32)), .unset] [(.int ((pp.toUInt32 >>> ((2 : Int32) &&& 31).toUInt32).toInt32))])) (fun _ kt => XS.iushr X0.here hx rfl (hb hby d1_13) rfl kt) ?_
    refine OFin.to (s₁.setTop (mkF m 16 #[.val (.ref a), .val (.int (Int32.ofNat k)), .val (.int pp), .val (.int (1 : Int32)), .unset] [(.int (127 : Int32)), (.int ((pp.toUInt32 >>> ((2 : Int32) &&& 31).toUInt32).toInt32))])) (fun _ kt => XS.bipush X0.here hx rfl (hb hby d1_14) kt) ?_
    refine OFin.to (s₁.setTop (mkF m 17 #[.val (.ref a), .val (.int (Int32.ofNat k)), .val (.int pp), .val (.int (1 : Int32)), .unset] [(.int (((pp.toUInt32 >>> ((2 : Int32) &&& 31).toUInt32).toInt32) &&& (127 : Int32)))])) (fun _ kt => XS.iand X0.here hx rfl (hb hby d1_16) rfl kt) ?_
    refine OFin.to (s₁.setTop (mkF m 19 #[.val (.ref a), .val (.int (Int32.ofNat k)), .val (.int pp), .val (.int (1 : Int32)), .val (.int (((pp.toUInt32 >>> ((2 : Int32) &&& 31).toUInt32).toInt32) &&& (127 : Int32)))] [])) (fun _ kt => XS.istore X0.here hx rfl (hb hby d1_17) rfl (l' := #[.val (.ref a), .val (.int (Int32.ofNat k)), .val (.int pp), .val (.int (1 : Int32)), .val (.int (((pp.toUInt32 >>> ((2 : Int32) &&& 31).toUInt32).toInt32) &&& (127 : Int32)))]) rfl kt) ?_
    refine OFin.to (s₁.setTop (mkF m 73 #[.val (.ref a), .val (.int (Int32.ofNat k)), .val (.int pp), .val (.int (1 : Int32)), .val (.int (((pp.toUInt32 >>> ((2 : Int32) &&& 31).toUInt32).toInt32) &&& (127 : Int32)))] [])) (fun _ kt => XS.goto X0.here hx rfl (pc0 := 19) (pc' := 73) rfl (hb hby d1_19) (by decide) (by decide) kt) ?_
    refine OFin.to (s₁.setTop (mkF m 74 #[.val (.ref a), .val (.int (Int32.ofNat k)), .val (.int pp), .val (.int (1 : Int32)), .val (.int (((pp.toUInt32 >>> ((2 : Int32) &&& 31).toUInt32).toInt32) &&& (127 : Int32)))] [(.ref a)])) (fun _ kt => XS.aloadN X0.here hx rfl (hb hby d1_73) rfl rfl kt) ?_
    refine OFin.to (s₁.setTop (mkF m 75 #[.val (.ref a), .val (.int (Int32.ofNat k)), .val (.int pp), .val (.int (1 : Int32)), .val (.int (((pp.toUInt32 >>> ((2 : Int32) &&& 31).toUInt32).toInt32) &&& (127 : Int32)))] [(.int (Int32.ofNat k)), (.ref a)])) (fun _ kt => XS.iloadN X0.here hx rfl (hb hby d1_74) rfl kt) ?_
    refine OFin.to (s₁.setTop (mkF m 77 #[.val (.ref a), .val (.int (Int32.ofNat k)), .val (.int pp), .val (.int (1 : Int32)), .val (.int (((pp.toUInt32 >>> ((2 : Int32) &&& 31).toUInt32).toInt32) &&& (127 : Int32)))] [(.int (((pp.toUInt32 >>> ((2 : Int32) &&& 31).toUInt32).toInt32) &&& (127 : Int32))), (.int (Int32.ofNat k)), (.ref a)])) (fun _ kt => XS.iload X0.here hx rfl (hb hby d1_75) rfl kt) ?_
    refine OFin.to (s₁.setTop (mkF m 78 #[.val (.ref a), .val (.int (Int32.ofNat k)), .val (.int pp), .val (.int (1 : Int32)), .val (.int (((pp.toUInt32 >>> ((2 : Int32) &&& 31).toUInt32).toInt32) &&& (127 : Int32)))] [(.int ((((pp.toUInt32 >>> ((2 : Int32) &&& 31).toUInt32).toInt32) &&& (127 : Int32)).toInt8.toInt32)), (.int (Int32.ofNat k)), (.ref a)])) (fun _ kt => XS.i2b X0.here hx rfl (hb hby d1_77) rfl kt) ?_
    obtain ⟨T101, h101, X101, e101, W101, -, st101⟩ := own_stB X0 hx hZ e0 V0 (k) (own_ix k (by omega)).1 (own_ix k (by omega)).2 (by rw [own_rlen]; omega) (g := (mkF m 78 #[.val (.ref a), .val (.int (Int32.ofNat k)), .val (.int pp), .val (.int (1 : Int32)), .val (.int (((pp.toUInt32 >>> ((2 : Int32) &&& 31).toUInt32).toInt32) &&& (127 : Int32)))] [(.int ((((pp.toUInt32 >>> ((2 : Int32) &&& 31).toUInt32).toInt32) &&& (127 : Int32)).toInt8.toInt32)), (.int (Int32.ofNat k)), (.ref a)])) rfl rfl (hb hby d1_78)
    have V101 := OFn.set V0 W101
    have K101 := (Keep.refl h0 [a]).wr W101 (Or.inl (List.mem_singleton.mpr rfl))
    have N101 := Fr.snoc X101 (Fr.nil n0) g
    refine OFin.to (T101.setTop (mkF m 79 #[.val (.ref a), .val (.int (Int32.ofNat k)), .val (.int pp), .val (.int (1 : Int32)), .val (.int (((pp.toUInt32 >>> ((2 : Int32) &&& 31).toUInt32).toInt32) &&& (127 : Int32)))] [])) st101 ?_
    refine OFin.to (T101.setTop (mkF m 80 #[.val (.ref a), .val (.int (Int32.ofNat k)), .val (.int pp), .val (.int (1 : Int32)), .val (.int (((pp.toUInt32 >>> ((2 : Int32) &&& 31).toUInt32).toInt32) &&& (127 : Int32)))] [(.int (1 : Int32))])) (fun _ kt => XS.iloadN X101.here hx rfl (hb hby d1_79) rfl kt) ?_
    refine OFin.to (T101.setTop (mkF m 81 #[.val (.ref a), .val (.int (Int32.ofNat k)), .val (.int pp), .val (.int (1 : Int32)), .val (.int (((pp.toUInt32 >>> ((2 : Int32) &&& 31).toUInt32).toInt32) &&& (127 : Int32)))] [(.int (2 : Int32)), (.int (1 : Int32))])) (fun _ kt => XS.iconst X101.here hx rfl (hb hby d1_80) kt) ?_
    refine OFin.to (T101.setTop (mkF m 101 #[.val (.ref a), .val (.int (Int32.ofNat k)), .val (.int pp), .val (.int (1 : Int32)), .val (.int (((pp.toUInt32 >>> ((2 : Int32) &&& 31).toUInt32).toInt32) &&& (127 : Int32)))] [])) (fun _ kt => XS.icmpYes X101.here hx rfl (pc0 := 81) (pc' := 101) rfl (hb hby d1_81) rfl (XT.ii_lt_t (by decide)) (by decide) (by decide) kt) ?_
    refine OFin.to (T101.setTop (mkF m 102 #[.val (.ref a), .val (.int (Int32.ofNat k)), .val (.int pp), .val (.int (1 : Int32)), .val (.int (((pp.toUInt32 >>> ((2 : Int32) &&& 31).toUInt32).toInt32) &&& (127 : Int32)))] [(.int (1 : Int32))])) (fun _ kt => XS.iloadN X101.here hx rfl (hb hby d1_101) rfl kt) ?_
    refine OFin.to (T101.setTop (mkF m 103 #[.val (.ref a), .val (.int (Int32.ofNat k)), .val (.int pp), .val (.int (1 : Int32)), .val (.int (((pp.toUInt32 >>> ((2 : Int32) &&& 31).toUInt32).toInt32) &&& (127 : Int32)))] [(.int (3 : Int32)), (.int (1 : Int32))])) (fun _ kt => XS.iconst X101.here hx rfl (hb hby d1_102) kt) ?_
    refine OFin.to (T101.setTop (mkF m 123 #[.val (.ref a), .val (.int (Int32.ofNat k)), .val (.int pp), .val (.int (1 : Int32)), .val (.int (((pp.toUInt32 >>> ((2 : Int32) &&& 31).toUInt32).toInt32) &&& (127 : Int32)))] [])) (fun _ kt => XS.icmpYes X101.here hx rfl (pc0 := 103) (pc' := 123) rfl (hb hby d1_103) rfl (XT.ii_lt_t (by decide)) (by decide) (by decide) kt) ?_
    refine OFin.to (T101.setTop (mkF m 124 #[.val (.ref a), .val (.int (Int32.ofNat k)), .val (.int pp), .val (.int (1 : Int32)), .val (.int (((pp.toUInt32 >>> ((2 : Int32) &&& 31).toUInt32).toInt32) &&& (127 : Int32)))] [(.int (1 : Int32))])) (fun _ kt => XS.iloadN X101.here hx rfl (hb hby d1_123) rfl kt) ?_
    refine OFin.to (T101.setTop (mkF m 125 #[.val (.ref a), .val (.int (Int32.ofNat k)), .val (.int pp), .val (.int (1 : Int32)), .val (.int (((pp.toUInt32 >>> ((2 : Int32) &&& 31).toUInt32).toInt32) &&& (127 : Int32)))] [(.int (4 : Int32)), (.int (1 : Int32))])) (fun _ kt => XS.iconst X101.here hx rfl (hb hby d1_124) kt) ?_
    refine OFin.to (T101.setTop (mkF m 145 #[.val (.ref a), .val (.int (Int32.ofNat k)), .val (.int pp), .val (.int (1 : Int32)), .val (.int (((pp.toUInt32 >>> ((2 : Int32) &&& 31).toUInt32).toInt32) &&& (127 : Int32)))] [])) (fun _ kt => XS.icmpYes X101.here hx rfl (pc0 := 125) (pc' := 145) rfl (hb hby d1_125) rfl (XT.ii_lt_t (by decide)) (by decide) (by decide) kt) ?_
    refine OFin.to (T101.setTop (mkF m 146 #[.val (.ref a), .val (.int (Int32.ofNat k)), .val (.int pp), .val (.int (1 : Int32)), .val (.int (((pp.toUInt32 >>> ((2 : Int32) &&& 31).toUInt32).toInt32) &&& (127 : Int32)))] [(.int (1 : Int32))])) (fun _ kt => XS.iloadN X101.here hx rfl (hb hby d1_145) rfl kt) ?_
    refine OFin.retI X101 hx hret hlk (hb hby d1_146) (Nat.zero_le _) (Nat.zero_le _) ⟨1, _, rfl, by decide, by decide, (show OFn Z T101.heap a .byte 12 _ from by rw [e101]; exact V101), ?_, ?_, ?_, (by rw [e101]; exact K101), N101⟩
    · intro j hj
      rw [if_neg (show ¬ j = k by omega)]
    · exact ⟨_, (by rw [if_pos rfl]), own_lead1 pp⟩
    · intro j h1 h2
      omega
  · refine OFin.to (s₁.setTop (mkF m 1 #[.val (.ref a), .val (.int (Int32.ofNat k)), .val (.int pp), .unset, .unset] [(.int pp)])) (fun _ kt => XS.iloadN X0.here hx rfl (hb hby d1_0) rfl kt) ?_
    refine OFin.to (s₁.setTop (mkF m 2 #[.val (.ref a), .val (.int (Int32.ofNat k)), .val (.int pp), .unset, .unset] [(.int (3 : Int32)), (.int pp)])) (fun _ kt => XS.iconst X0.here hx rfl (hb hby d1_1) kt) ?_
    refine OFin.to (s₁.setTop (mkF m 3 #[.val (.ref a), .val (.int (Int32.ofNat k)), .val (.int pp), .unset, .unset] [(.int (pp &&& (3 : Int32)))])) (fun _ kt => XS.iand X0.here hx rfl (hb hby d1_2) rfl kt) ?_
    refine OFin.to (s₁.setTop (mkF m 4 #[.val (.ref a), .val (.int (Int32.ofNat k)), .val (.int pp), .unset, .unset] [(.int (1 : Int32)), (.int (pp &&& (3 : Int32)))])) (fun _ kt => XS.iconst X0.here hx rfl (hb hby d1_3) kt) ?_
    refine OFin.to (s₁.setTop (mkF m 5 #[.val (.ref a), .val (.int (Int32.ofNat k)), .val (.int pp), .unset, .unset] [(.int ((pp &&& (3 : Int32)) + (1 : Int32)))])) (fun _ kt => XS.iadd X0.here hx rfl (hb hby d1_4) rfl kt) ?_
    rw [show (pp &&& (3 : Int32)) + (1 : Int32) = (2 : Int32) from by rw [hn]; decide]
    refine OFin.to (s₁.setTop (mkF m 6 #[.val (.ref a), .val (.int (Int32.ofNat k)), .val (.int pp), .val (.int (2 : Int32)), .unset] [])) (fun _ kt => XS.istoreN X0.here hx rfl (hb hby d1_5) rfl (l' := #[.val (.ref a), .val (.int (Int32.ofNat k)), .val (.int pp), .val (.int (2 : Int32)), .unset]) rfl kt) ?_
    refine OFin.to (s₁.setTop (mkF m 7 #[.val (.ref a), .val (.int (Int32.ofNat k)), .val (.int pp), .val (.int (2 : Int32)), .unset] [(.int (2 : Int32))])) (fun _ kt => XS.iloadN X0.here hx rfl (hb hby d1_6) rfl kt) ?_
    refine OFin.to (s₁.setTop (mkF m 8 #[.val (.ref a), .val (.int (Int32.ofNat k)), .val (.int pp), .val (.int (2 : Int32)), .unset] [(.int (1 : Int32)), (.int (2 : Int32))])) (fun _ kt => XS.iconst X0.here hx rfl (hb hby d1_7) kt) ?_
    refine OFin.to (s₁.setTop (mkF m 22 #[.val (.ref a), .val (.int (Int32.ofNat k)), .val (.int pp), .val (.int (2 : Int32)), .unset] [])) (fun _ kt => XS.icmpYes X0.here hx rfl (pc0 := 8) (pc' := 22) rfl (hb hby d1_8) rfl (XT.ii_ne_t (by decide)) (by decide) (by decide) kt) ?_
    refine OFin.to (s₁.setTop (mkF m 23 #[.val (.ref a), .val (.int (Int32.ofNat k)), .val (.int pp), .val (.int (2 : Int32)), .unset] [(.int (2 : Int32))])) (fun _ kt => XS.iloadN X0.here hx rfl (hb hby d1_22) rfl kt) ?_
    refine OFin.to (s₁.setTop (mkF m 24 #[.val (.ref a), .val (.int (Int32.ofNat k)), .val (.int pp), .val (.int (2 : Int32)), .unset] [(.int (2 : Int32)), (.int (2 : Int32))])) (fun _ kt => XS.iconst X0.here hx rfl (hb hby d1_23) kt) ?_
    refine OFin.to (s₁.setTop (mkF m 27 #[.val (.ref a), .val (.int (Int32.ofNat k)), .val (.int pp), .val (.int (2 : Int32)), .unset] [])) (fun _ kt => XS.icmpNo X0.here hx rfl (hb hby d1_24) rfl (XT.ii_ne_f (by decide)) kt) ?_
    refine OFin.to (s₁.setTop (mkF m 30 #[.val (.ref a), .val (.int (Int32.ofNat k)), .val (.int pp), .val (.int (2 : Int32)), .unset] [(.int (194 : Int32))])) (fun _ kt => XS.sipush X0.here hx rfl (hb hby d1_27) kt) ?_
    refine OFin.to (s₁.setTop (mkF m 31 #[.val (.ref a), .val (.int (Int32.ofNat k)), .val (.int pp), .val (.int (2 : Int32)), .unset] [(.int pp), (.int (194 : Int32))])) (fun _ kt => XS.iloadN X0.here hx rfl (hb hby d1_30) rfl kt) ?_
    refine OFin.to (s₁.setTop (mkF m 32 #[.val (.ref a), .val (.int (Int32.ofNat k)), .val (.int pp), .val (.int (2 : Int32)), .unset] [(.int (2 : Int32)), (.int pp), (.int (194 : Int32))])) (fun _ kt => XS.iconst X0.here hx rfl (hb hby d1_31) kt) ?_
    refine OFin.to (s₁.setTop (mkF m 33 #[.val (.ref a), .val (.int (Int32.ofNat k)), .val (.int pp), .val (.int (2 : Int32)), .unset] [(.int ((pp.toUInt32 >>> ((2 : Int32) &&& 31).toUInt32).toInt32)), (.int (194 : Int32))])) (fun _ kt => XS.iushr X0.here hx rfl (hb hby d1_32) rfl kt) ?_
    refine OFin.to (s₁.setTop (mkF m 35 #[.val (.ref a), .val (.int (Int32.ofNat k)), .val (.int pp), .val (.int (2 : Int32)), .unset] [(.int (15 : Int32)), (.int ((pp.toUInt32 >>> ((2 : Int32) &&& 31).toUInt32).toInt32)), (.int (194 : Int32))])) (fun _ kt => XS.bipush X0.here hx rfl (hb hby d1_33) kt) ?_
    refine OFin.to (s₁.setTop (mkF m 36 #[.val (.ref a), .val (.int (Int32.ofNat k)), .val (.int pp), .val (.int (2 : Int32)), .unset] [(.int (((pp.toUInt32 >>> ((2 : Int32) &&& 31).toUInt32).toInt32) &&& (15 : Int32))), (.int (194 : Int32))])) (fun _ kt => XS.iand X0.here hx rfl (hb hby d1_35) rfl kt) ?_
    refine OFin.to (s₁.setTop (mkF m 37 #[.val (.ref a), .val (.int (Int32.ofNat k)), .val (.int pp), .val (.int (2 : Int32)), .unset] [(.int ((194 : Int32) + (((pp.toUInt32 >>> ((2 : Int32) &&& 31).toUInt32).toInt32) &&& (15 : Int32))))])) (fun _ kt => XS.iadd X0.here hx rfl (hb hby d1_36) rfl kt) ?_
    refine OFin.to (s₁.setTop (mkF m 39 #[.val (.ref a), .val (.int (Int32.ofNat k)), .val (.int pp), .val (.int (2 : Int32)), .val (.int ((194 : Int32) + (((pp.toUInt32 >>> ((2 : Int32) &&& 31).toUInt32).toInt32) &&& (15 : Int32))))] [])) (fun _ kt => XS.istore X0.here hx rfl (hb hby d1_37) rfl (l' := #[.val (.ref a), .val (.int (Int32.ofNat k)), .val (.int pp), .val (.int (2 : Int32)), .val (.int ((194 : Int32) + (((pp.toUInt32 >>> ((2 : Int32) &&& 31).toUInt32).toInt32) &&& (15 : Int32))))]) rfl kt) ?_
    refine OFin.to (s₁.setTop (mkF m 73 #[.val (.ref a), .val (.int (Int32.ofNat k)), .val (.int pp), .val (.int (2 : Int32)), .val (.int ((194 : Int32) + (((pp.toUInt32 >>> ((2 : Int32) &&& 31).toUInt32).toInt32) &&& (15 : Int32))))] [])) (fun _ kt => XS.goto X0.here hx rfl (pc0 := 39) (pc' := 73) rfl (hb hby d1_39) (by decide) (by decide) kt) ?_
    refine OFin.to (s₁.setTop (mkF m 74 #[.val (.ref a), .val (.int (Int32.ofNat k)), .val (.int pp), .val (.int (2 : Int32)), .val (.int ((194 : Int32) + (((pp.toUInt32 >>> ((2 : Int32) &&& 31).toUInt32).toInt32) &&& (15 : Int32))))] [(.ref a)])) (fun _ kt => XS.aloadN X0.here hx rfl (hb hby d1_73) rfl rfl kt) ?_
    refine OFin.to (s₁.setTop (mkF m 75 #[.val (.ref a), .val (.int (Int32.ofNat k)), .val (.int pp), .val (.int (2 : Int32)), .val (.int ((194 : Int32) + (((pp.toUInt32 >>> ((2 : Int32) &&& 31).toUInt32).toInt32) &&& (15 : Int32))))] [(.int (Int32.ofNat k)), (.ref a)])) (fun _ kt => XS.iloadN X0.here hx rfl (hb hby d1_74) rfl kt) ?_
    refine OFin.to (s₁.setTop (mkF m 77 #[.val (.ref a), .val (.int (Int32.ofNat k)), .val (.int pp), .val (.int (2 : Int32)), .val (.int ((194 : Int32) + (((pp.toUInt32 >>> ((2 : Int32) &&& 31).toUInt32).toInt32) &&& (15 : Int32))))] [(.int ((194 : Int32) + (((pp.toUInt32 >>> ((2 : Int32) &&& 31).toUInt32).toInt32) &&& (15 : Int32)))), (.int (Int32.ofNat k)), (.ref a)])) (fun _ kt => XS.iload X0.here hx rfl (hb hby d1_75) rfl kt) ?_
    refine OFin.to (s₁.setTop (mkF m 78 #[.val (.ref a), .val (.int (Int32.ofNat k)), .val (.int pp), .val (.int (2 : Int32)), .val (.int ((194 : Int32) + (((pp.toUInt32 >>> ((2 : Int32) &&& 31).toUInt32).toInt32) &&& (15 : Int32))))] [(.int (((194 : Int32) + (((pp.toUInt32 >>> ((2 : Int32) &&& 31).toUInt32).toInt32) &&& (15 : Int32))).toInt8.toInt32)), (.int (Int32.ofNat k)), (.ref a)])) (fun _ kt => XS.i2b X0.here hx rfl (hb hby d1_77) rfl kt) ?_
    obtain ⟨T201, h201, X201, e201, W201, -, st201⟩ := own_stB X0 hx hZ e0 V0 (k) (own_ix k (by omega)).1 (own_ix k (by omega)).2 (by rw [own_rlen]; omega) (g := (mkF m 78 #[.val (.ref a), .val (.int (Int32.ofNat k)), .val (.int pp), .val (.int (2 : Int32)), .val (.int ((194 : Int32) + (((pp.toUInt32 >>> ((2 : Int32) &&& 31).toUInt32).toInt32) &&& (15 : Int32))))] [(.int (((194 : Int32) + (((pp.toUInt32 >>> ((2 : Int32) &&& 31).toUInt32).toInt32) &&& (15 : Int32))).toInt8.toInt32)), (.int (Int32.ofNat k)), (.ref a)])) rfl rfl (hb hby d1_78)
    have V201 := OFn.set V0 W201
    have K201 := (Keep.refl h0 [a]).wr W201 (Or.inl (List.mem_singleton.mpr rfl))
    have N201 := Fr.snoc X201 (Fr.nil n0) g
    refine OFin.to (T201.setTop (mkF m 79 #[.val (.ref a), .val (.int (Int32.ofNat k)), .val (.int pp), .val (.int (2 : Int32)), .val (.int ((194 : Int32) + (((pp.toUInt32 >>> ((2 : Int32) &&& 31).toUInt32).toInt32) &&& (15 : Int32))))] [])) st201 ?_
    refine OFin.to (T201.setTop (mkF m 80 #[.val (.ref a), .val (.int (Int32.ofNat k)), .val (.int pp), .val (.int (2 : Int32)), .val (.int ((194 : Int32) + (((pp.toUInt32 >>> ((2 : Int32) &&& 31).toUInt32).toInt32) &&& (15 : Int32))))] [(.int (2 : Int32))])) (fun _ kt => XS.iloadN X201.here hx rfl (hb hby d1_79) rfl kt) ?_
    refine OFin.to (T201.setTop (mkF m 81 #[.val (.ref a), .val (.int (Int32.ofNat k)), .val (.int pp), .val (.int (2 : Int32)), .val (.int ((194 : Int32) + (((pp.toUInt32 >>> ((2 : Int32) &&& 31).toUInt32).toInt32) &&& (15 : Int32))))] [(.int (2 : Int32)), (.int (2 : Int32))])) (fun _ kt => XS.iconst X201.here hx rfl (hb hby d1_80) kt) ?_
    refine OFin.to (T201.setTop (mkF m 84 #[.val (.ref a), .val (.int (Int32.ofNat k)), .val (.int pp), .val (.int (2 : Int32)), .val (.int ((194 : Int32) + (((pp.toUInt32 >>> ((2 : Int32) &&& 31).toUInt32).toInt32) &&& (15 : Int32))))] [])) (fun _ kt => XS.icmpNo X201.here hx rfl (hb hby d1_81) rfl (XT.ii_lt_f (by decide)) kt) ?_
    refine OFin.to (T201.setTop (mkF m 85 #[.val (.ref a), .val (.int (Int32.ofNat k)), .val (.int pp), .val (.int (2 : Int32)), .val (.int ((194 : Int32) + (((pp.toUInt32 >>> ((2 : Int32) &&& 31).toUInt32).toInt32) &&& (15 : Int32))))] [(.ref a)])) (fun _ kt => XS.aloadN X201.here hx rfl (hb hby d1_84) rfl rfl kt) ?_
    refine OFin.to (T201.setTop (mkF m 86 #[.val (.ref a), .val (.int (Int32.ofNat k)), .val (.int pp), .val (.int (2 : Int32)), .val (.int ((194 : Int32) + (((pp.toUInt32 >>> ((2 : Int32) &&& 31).toUInt32).toInt32) &&& (15 : Int32))))] [(.int (Int32.ofNat k)), (.ref a)])) (fun _ kt => XS.iloadN X201.here hx rfl (hb hby d1_85) rfl kt) ?_
    refine OFin.to (T201.setTop (mkF m 87 #[.val (.ref a), .val (.int (Int32.ofNat k)), .val (.int pp), .val (.int (2 : Int32)), .val (.int ((194 : Int32) + (((pp.toUInt32 >>> ((2 : Int32) &&& 31).toUInt32).toInt32) &&& (15 : Int32))))] [(.int (1 : Int32)), (.int (Int32.ofNat k)), (.ref a)])) (fun _ kt => XS.iconst X201.here hx rfl (hb hby d1_86) kt) ?_
    refine OFin.to (T201.setTop (mkF m 88 #[.val (.ref a), .val (.int (Int32.ofNat k)), .val (.int pp), .val (.int (2 : Int32)), .val (.int ((194 : Int32) + (((pp.toUInt32 >>> ((2 : Int32) &&& 31).toUInt32).toInt32) &&& (15 : Int32))))] [(.int ((Int32.ofNat k) + (1 : Int32))), (.ref a)])) (fun _ kt => XS.iadd X201.here hx rfl (hb hby d1_87) rfl kt) ?_
    refine OFin.to (T201.setTop (mkF m 91 #[.val (.ref a), .val (.int (Int32.ofNat k)), .val (.int pp), .val (.int (2 : Int32)), .val (.int ((194 : Int32) + (((pp.toUInt32 >>> ((2 : Int32) &&& 31).toUInt32).toInt32) &&& (15 : Int32))))] [(.int (128 : Int32)), (.int ((Int32.ofNat k) + (1 : Int32))), (.ref a)])) (fun _ kt => XS.sipush X201.here hx rfl (hb hby d1_88) kt) ?_
    refine OFin.to (T201.setTop (mkF m 92 #[.val (.ref a), .val (.int (Int32.ofNat k)), .val (.int pp), .val (.int (2 : Int32)), .val (.int ((194 : Int32) + (((pp.toUInt32 >>> ((2 : Int32) &&& 31).toUInt32).toInt32) &&& (15 : Int32))))] [(.int pp), (.int (128 : Int32)), (.int ((Int32.ofNat k) + (1 : Int32))), (.ref a)])) (fun _ kt => XS.iloadN X201.here hx rfl (hb hby d1_91) rfl kt) ?_
    refine OFin.to (T201.setTop (mkF m 94 #[.val (.ref a), .val (.int (Int32.ofNat k)), .val (.int pp), .val (.int (2 : Int32)), .val (.int ((194 : Int32) + (((pp.toUInt32 >>> ((2 : Int32) &&& 31).toUInt32).toInt32) &&& (15 : Int32))))] [(.int (7 : Int32)), (.int pp), (.int (128 : Int32)), (.int ((Int32.ofNat k) + (1 : Int32))), (.ref a)])) (fun _ kt => XS.bipush X201.here hx rfl (hb hby d1_92) kt) ?_
    refine OFin.to (T201.setTop (mkF m 95 #[.val (.ref a), .val (.int (Int32.ofNat k)), .val (.int pp), .val (.int (2 : Int32)), .val (.int ((194 : Int32) + (((pp.toUInt32 >>> ((2 : Int32) &&& 31).toUInt32).toInt32) &&& (15 : Int32))))] [(.int ((pp.toUInt32 >>> ((7 : Int32) &&& 31).toUInt32).toInt32)), (.int (128 : Int32)), (.int ((Int32.ofNat k) + (1 : Int32))), (.ref a)])) (fun _ kt => XS.iushr X201.here hx rfl (hb hby d1_94) rfl kt) ?_
    refine OFin.to (T201.setTop (mkF m 97 #[.val (.ref a), .val (.int (Int32.ofNat k)), .val (.int pp), .val (.int (2 : Int32)), .val (.int ((194 : Int32) + (((pp.toUInt32 >>> ((2 : Int32) &&& 31).toUInt32).toInt32) &&& (15 : Int32))))] [(.int (63 : Int32)), (.int ((pp.toUInt32 >>> ((7 : Int32) &&& 31).toUInt32).toInt32)), (.int (128 : Int32)), (.int ((Int32.ofNat k) + (1 : Int32))), (.ref a)])) (fun _ kt => XS.bipush X201.here hx rfl (hb hby d1_95) kt) ?_
    refine OFin.to (T201.setTop (mkF m 98 #[.val (.ref a), .val (.int (Int32.ofNat k)), .val (.int pp), .val (.int (2 : Int32)), .val (.int ((194 : Int32) + (((pp.toUInt32 >>> ((2 : Int32) &&& 31).toUInt32).toInt32) &&& (15 : Int32))))] [(.int (((pp.toUInt32 >>> ((7 : Int32) &&& 31).toUInt32).toInt32) &&& (63 : Int32))), (.int (128 : Int32)), (.int ((Int32.ofNat k) + (1 : Int32))), (.ref a)])) (fun _ kt => XS.iand X201.here hx rfl (hb hby d1_97) rfl kt) ?_
    refine OFin.to (T201.setTop (mkF m 99 #[.val (.ref a), .val (.int (Int32.ofNat k)), .val (.int pp), .val (.int (2 : Int32)), .val (.int ((194 : Int32) + (((pp.toUInt32 >>> ((2 : Int32) &&& 31).toUInt32).toInt32) &&& (15 : Int32))))] [(.int ((128 : Int32) ||| (((pp.toUInt32 >>> ((7 : Int32) &&& 31).toUInt32).toInt32) &&& (63 : Int32)))), (.int ((Int32.ofNat k) + (1 : Int32))), (.ref a)])) (fun _ kt => XS.ior X201.here hx rfl (hb hby d1_98) rfl kt) ?_
    refine OFin.to (T201.setTop (mkF m 100 #[.val (.ref a), .val (.int (Int32.ofNat k)), .val (.int pp), .val (.int (2 : Int32)), .val (.int ((194 : Int32) + (((pp.toUInt32 >>> ((2 : Int32) &&& 31).toUInt32).toInt32) &&& (15 : Int32))))] [(.int (((128 : Int32) ||| (((pp.toUInt32 >>> ((7 : Int32) &&& 31).toUInt32).toInt32) &&& (63 : Int32))).toInt8.toInt32)), (.int ((Int32.ofNat k) + (1 : Int32))), (.ref a)])) (fun _ kt => XS.i2b X201.here hx rfl (hb hby d1_99) rfl kt) ?_
    have ix1 : ¬ (Int32.ofNat k + (1 : Int32)) < 0 ∧ (Int32.ofNat k + (1 : Int32)).toNatClampNeg = k + 1 := own_ixA k 1 (by omega) (by decide)
    obtain ⟨T202, h202, X202, e202, W202, -, st202⟩ := own_stB X201 hx hZ e201 V201 (k + 1) (ix1).1 (ix1).2 (by rw [own_rlen]; omega) (g := (mkF m 100 #[.val (.ref a), .val (.int (Int32.ofNat k)), .val (.int pp), .val (.int (2 : Int32)), .val (.int ((194 : Int32) + (((pp.toUInt32 >>> ((2 : Int32) &&& 31).toUInt32).toInt32) &&& (15 : Int32))))] [(.int (((128 : Int32) ||| (((pp.toUInt32 >>> ((7 : Int32) &&& 31).toUInt32).toInt32) &&& (63 : Int32))).toInt8.toInt32)), (.int ((Int32.ofNat k) + (1 : Int32))), (.ref a)])) rfl rfl (hb hby d1_100)
    have V202 := OFn.set V201 W202
    have K202 := K201.wr W202 (Or.inl (List.mem_singleton.mpr rfl))
    have N202 := Fr.snoc X202 N201 g
    refine OFin.to (T202.setTop (mkF m 101 #[.val (.ref a), .val (.int (Int32.ofNat k)), .val (.int pp), .val (.int (2 : Int32)), .val (.int ((194 : Int32) + (((pp.toUInt32 >>> ((2 : Int32) &&& 31).toUInt32).toInt32) &&& (15 : Int32))))] [])) st202 ?_
    refine OFin.to (T202.setTop (mkF m 102 #[.val (.ref a), .val (.int (Int32.ofNat k)), .val (.int pp), .val (.int (2 : Int32)), .val (.int ((194 : Int32) + (((pp.toUInt32 >>> ((2 : Int32) &&& 31).toUInt32).toInt32) &&& (15 : Int32))))] [(.int (2 : Int32))])) (fun _ kt => XS.iloadN X202.here hx rfl (hb hby d1_101) rfl kt) ?_
    refine OFin.to (T202.setTop (mkF m 103 #[.val (.ref a), .val (.int (Int32.ofNat k)), .val (.int pp), .val (.int (2 : Int32)), .val (.int ((194 : Int32) + (((pp.toUInt32 >>> ((2 : Int32) &&& 31).toUInt32).toInt32) &&& (15 : Int32))))] [(.int (3 : Int32)), (.int (2 : Int32))])) (fun _ kt => XS.iconst X202.here hx rfl (hb hby d1_102) kt) ?_
    refine OFin.to (T202.setTop (mkF m 123 #[.val (.ref a), .val (.int (Int32.ofNat k)), .val (.int pp), .val (.int (2 : Int32)), .val (.int ((194 : Int32) + (((pp.toUInt32 >>> ((2 : Int32) &&& 31).toUInt32).toInt32) &&& (15 : Int32))))] [])) (fun _ kt => XS.icmpYes X202.here hx rfl (pc0 := 103) (pc' := 123) rfl (hb hby d1_103) rfl (XT.ii_lt_t (by decide)) (by decide) (by decide) kt) ?_
    refine OFin.to (T202.setTop (mkF m 124 #[.val (.ref a), .val (.int (Int32.ofNat k)), .val (.int pp), .val (.int (2 : Int32)), .val (.int ((194 : Int32) + (((pp.toUInt32 >>> ((2 : Int32) &&& 31).toUInt32).toInt32) &&& (15 : Int32))))] [(.int (2 : Int32))])) (fun _ kt => XS.iloadN X202.here hx rfl (hb hby d1_123) rfl kt) ?_
    refine OFin.to (T202.setTop (mkF m 125 #[.val (.ref a), .val (.int (Int32.ofNat k)), .val (.int pp), .val (.int (2 : Int32)), .val (.int ((194 : Int32) + (((pp.toUInt32 >>> ((2 : Int32) &&& 31).toUInt32).toInt32) &&& (15 : Int32))))] [(.int (4 : Int32)), (.int (2 : Int32))])) (fun _ kt => XS.iconst X202.here hx rfl (hb hby d1_124) kt) ?_
    refine OFin.to (T202.setTop (mkF m 145 #[.val (.ref a), .val (.int (Int32.ofNat k)), .val (.int pp), .val (.int (2 : Int32)), .val (.int ((194 : Int32) + (((pp.toUInt32 >>> ((2 : Int32) &&& 31).toUInt32).toInt32) &&& (15 : Int32))))] [])) (fun _ kt => XS.icmpYes X202.here hx rfl (pc0 := 125) (pc' := 145) rfl (hb hby d1_125) rfl (XT.ii_lt_t (by decide)) (by decide) (by decide) kt) ?_
    refine OFin.to (T202.setTop (mkF m 146 #[.val (.ref a), .val (.int (Int32.ofNat k)), .val (.int pp), .val (.int (2 : Int32)), .val (.int ((194 : Int32) + (((pp.toUInt32 >>> ((2 : Int32) &&& 31).toUInt32).toInt32) &&& (15 : Int32))))] [(.int (2 : Int32))])) (fun _ kt => XS.iloadN X202.here hx rfl (hb hby d1_145) rfl kt) ?_
    refine OFin.retI X202 hx hret hlk (hb hby d1_146) (Nat.zero_le _) (Nat.zero_le _) ⟨2, _, rfl, by decide, by decide, (show OFn Z T202.heap a .byte 12 _ from by rw [e202]; exact V202), ?_, ?_, ?_, (by rw [e202]; exact K202), N202⟩
    · intro j hj
      rw [if_neg (show ¬ j = k + 1 by omega), if_neg (show ¬ j = k by omega)]
    · exact ⟨_, (by rw [if_neg (show ¬ k = k + 1 by omega), if_pos rfl]), own_lead2 pp⟩
    · intro j h1 h2
      obtain rfl : j = k + 1 := by omega
      · exact ⟨_, (by rw [if_pos rfl]), own_contv pp 7⟩
  · refine OFin.to (s₁.setTop (mkF m 1 #[.val (.ref a), .val (.int (Int32.ofNat k)), .val (.int pp), .unset, .unset] [(.int pp)])) (fun _ kt => XS.iloadN X0.here hx rfl (hb hby d1_0) rfl kt) ?_
    refine OFin.to (s₁.setTop (mkF m 2 #[.val (.ref a), .val (.int (Int32.ofNat k)), .val (.int pp), .unset, .unset] [(.int (3 : Int32)), (.int pp)])) (fun _ kt => XS.iconst X0.here hx rfl (hb hby d1_1) kt) ?_
    refine OFin.to (s₁.setTop (mkF m 3 #[.val (.ref a), .val (.int (Int32.ofNat k)), .val (.int pp), .unset, .unset] [(.int (pp &&& (3 : Int32)))])) (fun _ kt => XS.iand X0.here hx rfl (hb hby d1_2) rfl kt) ?_
    refine OFin.to (s₁.setTop (mkF m 4 #[.val (.ref a), .val (.int (Int32.ofNat k)), .val (.int pp), .unset, .unset] [(.int (1 : Int32)), (.int (pp &&& (3 : Int32)))])) (fun _ kt => XS.iconst X0.here hx rfl (hb hby d1_3) kt) ?_
    refine OFin.to (s₁.setTop (mkF m 5 #[.val (.ref a), .val (.int (Int32.ofNat k)), .val (.int pp), .unset, .unset] [(.int ((pp &&& (3 : Int32)) + (1 : Int32)))])) (fun _ kt => XS.iadd X0.here hx rfl (hb hby d1_4) rfl kt) ?_
    rw [show (pp &&& (3 : Int32)) + (1 : Int32) = (3 : Int32) from by rw [hn]; decide]
    refine OFin.to (s₁.setTop (mkF m 6 #[.val (.ref a), .val (.int (Int32.ofNat k)), .val (.int pp), .val (.int (3 : Int32)), .unset] [])) (fun _ kt => XS.istoreN X0.here hx rfl (hb hby d1_5) rfl (l' := #[.val (.ref a), .val (.int (Int32.ofNat k)), .val (.int pp), .val (.int (3 : Int32)), .unset]) rfl kt) ?_
    refine OFin.to (s₁.setTop (mkF m 7 #[.val (.ref a), .val (.int (Int32.ofNat k)), .val (.int pp), .val (.int (3 : Int32)), .unset] [(.int (3 : Int32))])) (fun _ kt => XS.iloadN X0.here hx rfl (hb hby d1_6) rfl kt) ?_
    refine OFin.to (s₁.setTop (mkF m 8 #[.val (.ref a), .val (.int (Int32.ofNat k)), .val (.int pp), .val (.int (3 : Int32)), .unset] [(.int (1 : Int32)), (.int (3 : Int32))])) (fun _ kt => XS.iconst X0.here hx rfl (hb hby d1_7) kt) ?_
    refine OFin.to (s₁.setTop (mkF m 22 #[.val (.ref a), .val (.int (Int32.ofNat k)), .val (.int pp), .val (.int (3 : Int32)), .unset] [])) (fun _ kt => XS.icmpYes X0.here hx rfl (pc0 := 8) (pc' := 22) rfl (hb hby d1_8) rfl (XT.ii_ne_t (by decide)) (by decide) (by decide) kt) ?_
    refine OFin.to (s₁.setTop (mkF m 23 #[.val (.ref a), .val (.int (Int32.ofNat k)), .val (.int pp), .val (.int (3 : Int32)), .unset] [(.int (3 : Int32))])) (fun _ kt => XS.iloadN X0.here hx rfl (hb hby d1_22) rfl kt) ?_
    refine OFin.to (s₁.setTop (mkF m 24 #[.val (.ref a), .val (.int (Int32.ofNat k)), .val (.int pp), .val (.int (3 : Int32)), .unset] [(.int (2 : Int32)), (.int (3 : Int32))])) (fun _ kt => XS.iconst X0.here hx rfl (hb hby d1_23) kt) ?_
    refine OFin.to (s₁.setTop (mkF m 42 #[.val (.ref a), .val (.int (Int32.ofNat k)), .val (.int pp), .val (.int (3 : Int32)), .unset] [])) (fun _ kt => XS.icmpYes X0.here hx rfl (pc0 := 24) (pc' := 42) rfl (hb hby d1_24) rfl (XT.ii_ne_t (by decide)) (by decide) (by decide) kt) ?_
    refine OFin.to (s₁.setTop (mkF m 43 #[.val (.ref a), .val (.int (Int32.ofNat k)), .val (.int pp), .val (.int (3 : Int32)), .unset] [(.int (3 : Int32))])) (fun _ kt => XS.iloadN X0.here hx rfl (hb hby d1_42) rfl kt) ?_
    refine OFin.to (s₁.setTop (mkF m 44 #[.val (.ref a), .val (.int (Int32.ofNat k)), .val (.int pp), .val (.int (3 : Int32)), .unset] [(.int (3 : Int32)), (.int (3 : Int32))])) (fun _ kt => XS.iconst X0.here hx rfl (hb hby d1_43) kt) ?_
    refine OFin.to (s₁.setTop (mkF m 47 #[.val (.ref a), .val (.int (Int32.ofNat k)), .val (.int pp), .val (.int (3 : Int32)), .unset] [])) (fun _ kt => XS.icmpNo X0.here hx rfl (hb hby d1_44) rfl (XT.ii_ne_f (by decide)) kt) ?_
    refine OFin.to (s₁.setTop (mkF m 50 #[.val (.ref a), .val (.int (Int32.ofNat k)), .val (.int pp), .val (.int (3 : Int32)), .unset] [(.int (225 : Int32))])) (fun _ kt => XS.sipush X0.here hx rfl (hb hby d1_47) kt) ?_
    refine OFin.to (s₁.setTop (mkF m 51 #[.val (.ref a), .val (.int (Int32.ofNat k)), .val (.int pp), .val (.int (3 : Int32)), .unset] [(.int pp), (.int (225 : Int32))])) (fun _ kt => XS.iloadN X0.here hx rfl (hb hby d1_50) rfl kt) ?_
    refine OFin.to (s₁.setTop (mkF m 52 #[.val (.ref a), .val (.int (Int32.ofNat k)), .val (.int pp), .val (.int (3 : Int32)), .unset] [(.int (2 : Int32)), (.int pp), (.int (225 : Int32))])) (fun _ kt => XS.iconst X0.here hx rfl (hb hby d1_51) kt) ?_
    refine OFin.to (s₁.setTop (mkF m 53 #[.val (.ref a), .val (.int (Int32.ofNat k)), .val (.int pp), .val (.int (3 : Int32)), .unset] [(.int ((pp.toUInt32 >>> ((2 : Int32) &&& 31).toUInt32).toInt32)), (.int (225 : Int32))])) (fun _ kt => XS.iushr X0.here hx rfl (hb hby d1_52) rfl kt) ?_
    refine OFin.to (s₁.setTop (mkF m 55 #[.val (.ref a), .val (.int (Int32.ofNat k)), .val (.int pp), .val (.int (3 : Int32)), .unset] [(.int (7 : Int32)), (.int ((pp.toUInt32 >>> ((2 : Int32) &&& 31).toUInt32).toInt32)), (.int (225 : Int32))])) (fun _ kt => XS.bipush X0.here hx rfl (hb hby d1_53) kt) ?_
    refine OFin.to (s₁.setTop (mkF m 56 #[.val (.ref a), .val (.int (Int32.ofNat k)), .val (.int pp), .val (.int (3 : Int32)), .unset] [(.int (((pp.toUInt32 >>> ((2 : Int32) &&& 31).toUInt32).toInt32) &&& (7 : Int32))), (.int (225 : Int32))])) (fun _ kt => XS.iand X0.here hx rfl (hb hby d1_55) rfl kt) ?_
    refine OFin.to (s₁.setTop (mkF m 57 #[.val (.ref a), .val (.int (Int32.ofNat k)), .val (.int pp), .val (.int (3 : Int32)), .unset] [(.int ((225 : Int32) + (((pp.toUInt32 >>> ((2 : Int32) &&& 31).toUInt32).toInt32) &&& (7 : Int32))))])) (fun _ kt => XS.iadd X0.here hx rfl (hb hby d1_56) rfl kt) ?_
    refine OFin.to (s₁.setTop (mkF m 59 #[.val (.ref a), .val (.int (Int32.ofNat k)), .val (.int pp), .val (.int (3 : Int32)), .val (.int ((225 : Int32) + (((pp.toUInt32 >>> ((2 : Int32) &&& 31).toUInt32).toInt32) &&& (7 : Int32))))] [])) (fun _ kt => XS.istore X0.here hx rfl (hb hby d1_57) rfl (l' := #[.val (.ref a), .val (.int (Int32.ofNat k)), .val (.int pp), .val (.int (3 : Int32)), .val (.int ((225 : Int32) + (((pp.toUInt32 >>> ((2 : Int32) &&& 31).toUInt32).toInt32) &&& (7 : Int32))))]) rfl kt) ?_
    refine OFin.to (s₁.setTop (mkF m 73 #[.val (.ref a), .val (.int (Int32.ofNat k)), .val (.int pp), .val (.int (3 : Int32)), .val (.int ((225 : Int32) + (((pp.toUInt32 >>> ((2 : Int32) &&& 31).toUInt32).toInt32) &&& (7 : Int32))))] [])) (fun _ kt => XS.goto X0.here hx rfl (pc0 := 59) (pc' := 73) rfl (hb hby d1_59) (by decide) (by decide) kt) ?_
    refine OFin.to (s₁.setTop (mkF m 74 #[.val (.ref a), .val (.int (Int32.ofNat k)), .val (.int pp), .val (.int (3 : Int32)), .val (.int ((225 : Int32) + (((pp.toUInt32 >>> ((2 : Int32) &&& 31).toUInt32).toInt32) &&& (7 : Int32))))] [(.ref a)])) (fun _ kt => XS.aloadN X0.here hx rfl (hb hby d1_73) rfl rfl kt) ?_
    refine OFin.to (s₁.setTop (mkF m 75 #[.val (.ref a), .val (.int (Int32.ofNat k)), .val (.int pp), .val (.int (3 : Int32)), .val (.int ((225 : Int32) + (((pp.toUInt32 >>> ((2 : Int32) &&& 31).toUInt32).toInt32) &&& (7 : Int32))))] [(.int (Int32.ofNat k)), (.ref a)])) (fun _ kt => XS.iloadN X0.here hx rfl (hb hby d1_74) rfl kt) ?_
    refine OFin.to (s₁.setTop (mkF m 77 #[.val (.ref a), .val (.int (Int32.ofNat k)), .val (.int pp), .val (.int (3 : Int32)), .val (.int ((225 : Int32) + (((pp.toUInt32 >>> ((2 : Int32) &&& 31).toUInt32).toInt32) &&& (7 : Int32))))] [(.int ((225 : Int32) + (((pp.toUInt32 >>> ((2 : Int32) &&& 31).toUInt32).toInt32) &&& (7 : Int32)))), (.int (Int32.ofNat k)), (.ref a)])) (fun _ kt => XS.iload X0.here hx rfl (hb hby d1_75) rfl kt) ?_
    refine OFin.to (s₁.setTop (mkF m 78 #[.val (.ref a), .val (.int (Int32.ofNat k)), .val (.int pp), .val (.int (3 : Int32)), .val (.int ((225 : Int32) + (((pp.toUInt32 >>> ((2 : Int32) &&& 31).toUInt32).toInt32) &&& (7 : Int32))))] [(.int (((225 : Int32) + (((pp.toUInt32 >>> ((2 : Int32) &&& 31).toUInt32).toInt32) &&& (7 : Int32))).toInt8.toInt32)), (.int (Int32.ofNat k)), (.ref a)])) (fun _ kt => XS.i2b X0.here hx rfl (hb hby d1_77) rfl kt) ?_
    obtain ⟨T301, h301, X301, e301, W301, -, st301⟩ := own_stB X0 hx hZ e0 V0 (k) (own_ix k (by omega)).1 (own_ix k (by omega)).2 (by rw [own_rlen]; omega) (g := (mkF m 78 #[.val (.ref a), .val (.int (Int32.ofNat k)), .val (.int pp), .val (.int (3 : Int32)), .val (.int ((225 : Int32) + (((pp.toUInt32 >>> ((2 : Int32) &&& 31).toUInt32).toInt32) &&& (7 : Int32))))] [(.int (((225 : Int32) + (((pp.toUInt32 >>> ((2 : Int32) &&& 31).toUInt32).toInt32) &&& (7 : Int32))).toInt8.toInt32)), (.int (Int32.ofNat k)), (.ref a)])) rfl rfl (hb hby d1_78)
    have V301 := OFn.set V0 W301
    have K301 := (Keep.refl h0 [a]).wr W301 (Or.inl (List.mem_singleton.mpr rfl))
    have N301 := Fr.snoc X301 (Fr.nil n0) g
    refine OFin.to (T301.setTop (mkF m 79 #[.val (.ref a), .val (.int (Int32.ofNat k)), .val (.int pp), .val (.int (3 : Int32)), .val (.int ((225 : Int32) + (((pp.toUInt32 >>> ((2 : Int32) &&& 31).toUInt32).toInt32) &&& (7 : Int32))))] [])) st301 ?_
    refine OFin.to (T301.setTop (mkF m 80 #[.val (.ref a), .val (.int (Int32.ofNat k)), .val (.int pp), .val (.int (3 : Int32)), .val (.int ((225 : Int32) + (((pp.toUInt32 >>> ((2 : Int32) &&& 31).toUInt32).toInt32) &&& (7 : Int32))))] [(.int (3 : Int32))])) (fun _ kt => XS.iloadN X301.here hx rfl (hb hby d1_79) rfl kt) ?_
    refine OFin.to (T301.setTop (mkF m 81 #[.val (.ref a), .val (.int (Int32.ofNat k)), .val (.int pp), .val (.int (3 : Int32)), .val (.int ((225 : Int32) + (((pp.toUInt32 >>> ((2 : Int32) &&& 31).toUInt32).toInt32) &&& (7 : Int32))))] [(.int (2 : Int32)), (.int (3 : Int32))])) (fun _ kt => XS.iconst X301.here hx rfl (hb hby d1_80) kt) ?_
    refine OFin.to (T301.setTop (mkF m 84 #[.val (.ref a), .val (.int (Int32.ofNat k)), .val (.int pp), .val (.int (3 : Int32)), .val (.int ((225 : Int32) + (((pp.toUInt32 >>> ((2 : Int32) &&& 31).toUInt32).toInt32) &&& (7 : Int32))))] [])) (fun _ kt => XS.icmpNo X301.here hx rfl (hb hby d1_81) rfl (XT.ii_lt_f (by decide)) kt) ?_
    refine OFin.to (T301.setTop (mkF m 85 #[.val (.ref a), .val (.int (Int32.ofNat k)), .val (.int pp), .val (.int (3 : Int32)), .val (.int ((225 : Int32) + (((pp.toUInt32 >>> ((2 : Int32) &&& 31).toUInt32).toInt32) &&& (7 : Int32))))] [(.ref a)])) (fun _ kt => XS.aloadN X301.here hx rfl (hb hby d1_84) rfl rfl kt) ?_
    refine OFin.to (T301.setTop (mkF m 86 #[.val (.ref a), .val (.int (Int32.ofNat k)), .val (.int pp), .val (.int (3 : Int32)), .val (.int ((225 : Int32) + (((pp.toUInt32 >>> ((2 : Int32) &&& 31).toUInt32).toInt32) &&& (7 : Int32))))] [(.int (Int32.ofNat k)), (.ref a)])) (fun _ kt => XS.iloadN X301.here hx rfl (hb hby d1_85) rfl kt) ?_
    refine OFin.to (T301.setTop (mkF m 87 #[.val (.ref a), .val (.int (Int32.ofNat k)), .val (.int pp), .val (.int (3 : Int32)), .val (.int ((225 : Int32) + (((pp.toUInt32 >>> ((2 : Int32) &&& 31).toUInt32).toInt32) &&& (7 : Int32))))] [(.int (1 : Int32)), (.int (Int32.ofNat k)), (.ref a)])) (fun _ kt => XS.iconst X301.here hx rfl (hb hby d1_86) kt) ?_
    refine OFin.to (T301.setTop (mkF m 88 #[.val (.ref a), .val (.int (Int32.ofNat k)), .val (.int pp), .val (.int (3 : Int32)), .val (.int ((225 : Int32) + (((pp.toUInt32 >>> ((2 : Int32) &&& 31).toUInt32).toInt32) &&& (7 : Int32))))] [(.int ((Int32.ofNat k) + (1 : Int32))), (.ref a)])) (fun _ kt => XS.iadd X301.here hx rfl (hb hby d1_87) rfl kt) ?_
    refine OFin.to (T301.setTop (mkF m 91 #[.val (.ref a), .val (.int (Int32.ofNat k)), .val (.int pp), .val (.int (3 : Int32)), .val (.int ((225 : Int32) + (((pp.toUInt32 >>> ((2 : Int32) &&& 31).toUInt32).toInt32) &&& (7 : Int32))))] [(.int (128 : Int32)), (.int ((Int32.ofNat k) + (1 : Int32))), (.ref a)])) (fun _ kt => XS.sipush X301.here hx rfl (hb hby d1_88) kt) ?_
    refine OFin.to (T301.setTop (mkF m 92 #[.val (.ref a), .val (.int (Int32.ofNat k)), .val (.int pp), .val (.int (3 : Int32)), .val (.int ((225 : Int32) + (((pp.toUInt32 >>> ((2 : Int32) &&& 31).toUInt32).toInt32) &&& (7 : Int32))))] [(.int pp), (.int (128 : Int32)), (.int ((Int32.ofNat k) + (1 : Int32))), (.ref a)])) (fun _ kt => XS.iloadN X301.here hx rfl (hb hby d1_91) rfl kt) ?_
    refine OFin.to (T301.setTop (mkF m 94 #[.val (.ref a), .val (.int (Int32.ofNat k)), .val (.int pp), .val (.int (3 : Int32)), .val (.int ((225 : Int32) + (((pp.toUInt32 >>> ((2 : Int32) &&& 31).toUInt32).toInt32) &&& (7 : Int32))))] [(.int (7 : Int32)), (.int pp), (.int (128 : Int32)), (.int ((Int32.ofNat k) + (1 : Int32))), (.ref a)])) (fun _ kt => XS.bipush X301.here hx rfl (hb hby d1_92) kt) ?_
    refine OFin.to (T301.setTop (mkF m 95 #[.val (.ref a), .val (.int (Int32.ofNat k)), .val (.int pp), .val (.int (3 : Int32)), .val (.int ((225 : Int32) + (((pp.toUInt32 >>> ((2 : Int32) &&& 31).toUInt32).toInt32) &&& (7 : Int32))))] [(.int ((pp.toUInt32 >>> ((7 : Int32) &&& 31).toUInt32).toInt32)), (.int (128 : Int32)), (.int ((Int32.ofNat k) + (1 : Int32))), (.ref a)])) (fun _ kt => XS.iushr X301.here hx rfl (hb hby d1_94) rfl kt) ?_
    refine OFin.to (T301.setTop (mkF m 97 #[.val (.ref a), .val (.int (Int32.ofNat k)), .val (.int pp), .val (.int (3 : Int32)), .val (.int ((225 : Int32) + (((pp.toUInt32 >>> ((2 : Int32) &&& 31).toUInt32).toInt32) &&& (7 : Int32))))] [(.int (63 : Int32)), (.int ((pp.toUInt32 >>> ((7 : Int32) &&& 31).toUInt32).toInt32)), (.int (128 : Int32)), (.int ((Int32.ofNat k) + (1 : Int32))), (.ref a)])) (fun _ kt => XS.bipush X301.here hx rfl (hb hby d1_95) kt) ?_
    refine OFin.to (T301.setTop (mkF m 98 #[.val (.ref a), .val (.int (Int32.ofNat k)), .val (.int pp), .val (.int (3 : Int32)), .val (.int ((225 : Int32) + (((pp.toUInt32 >>> ((2 : Int32) &&& 31).toUInt32).toInt32) &&& (7 : Int32))))] [(.int (((pp.toUInt32 >>> ((7 : Int32) &&& 31).toUInt32).toInt32) &&& (63 : Int32))), (.int (128 : Int32)), (.int ((Int32.ofNat k) + (1 : Int32))), (.ref a)])) (fun _ kt => XS.iand X301.here hx rfl (hb hby d1_97) rfl kt) ?_
    refine OFin.to (T301.setTop (mkF m 99 #[.val (.ref a), .val (.int (Int32.ofNat k)), .val (.int pp), .val (.int (3 : Int32)), .val (.int ((225 : Int32) + (((pp.toUInt32 >>> ((2 : Int32) &&& 31).toUInt32).toInt32) &&& (7 : Int32))))] [(.int ((128 : Int32) ||| (((pp.toUInt32 >>> ((7 : Int32) &&& 31).toUInt32).toInt32) &&& (63 : Int32)))), (.int ((Int32.ofNat k) + (1 : Int32))), (.ref a)])) (fun _ kt => XS.ior X301.here hx rfl (hb hby d1_98) rfl kt) ?_
    refine OFin.to (T301.setTop (mkF m 100 #[.val (.ref a), .val (.int (Int32.ofNat k)), .val (.int pp), .val (.int (3 : Int32)), .val (.int ((225 : Int32) + (((pp.toUInt32 >>> ((2 : Int32) &&& 31).toUInt32).toInt32) &&& (7 : Int32))))] [(.int (((128 : Int32) ||| (((pp.toUInt32 >>> ((7 : Int32) &&& 31).toUInt32).toInt32) &&& (63 : Int32))).toInt8.toInt32)), (.int ((Int32.ofNat k) + (1 : Int32))), (.ref a)])) (fun _ kt => XS.i2b X301.here hx rfl (hb hby d1_99) rfl kt) ?_
    have ix1 : ¬ (Int32.ofNat k + (1 : Int32)) < 0 ∧ (Int32.ofNat k + (1 : Int32)).toNatClampNeg = k + 1 := own_ixA k 1 (by omega) (by decide)
    obtain ⟨T302, h302, X302, e302, W302, -, st302⟩ := own_stB X301 hx hZ e301 V301 (k + 1) (ix1).1 (ix1).2 (by rw [own_rlen]; omega) (g := (mkF m 100 #[.val (.ref a), .val (.int (Int32.ofNat k)), .val (.int pp), .val (.int (3 : Int32)), .val (.int ((225 : Int32) + (((pp.toUInt32 >>> ((2 : Int32) &&& 31).toUInt32).toInt32) &&& (7 : Int32))))] [(.int (((128 : Int32) ||| (((pp.toUInt32 >>> ((7 : Int32) &&& 31).toUInt32).toInt32) &&& (63 : Int32))).toInt8.toInt32)), (.int ((Int32.ofNat k) + (1 : Int32))), (.ref a)])) rfl rfl (hb hby d1_100)
    have V302 := OFn.set V301 W302
    have K302 := K301.wr W302 (Or.inl (List.mem_singleton.mpr rfl))
    have N302 := Fr.snoc X302 N301 g
    refine OFin.to (T302.setTop (mkF m 101 #[.val (.ref a), .val (.int (Int32.ofNat k)), .val (.int pp), .val (.int (3 : Int32)), .val (.int ((225 : Int32) + (((pp.toUInt32 >>> ((2 : Int32) &&& 31).toUInt32).toInt32) &&& (7 : Int32))))] [])) st302 ?_
    refine OFin.to (T302.setTop (mkF m 102 #[.val (.ref a), .val (.int (Int32.ofNat k)), .val (.int pp), .val (.int (3 : Int32)), .val (.int ((225 : Int32) + (((pp.toUInt32 >>> ((2 : Int32) &&& 31).toUInt32).toInt32) &&& (7 : Int32))))] [(.int (3 : Int32))])) (fun _ kt => XS.iloadN X302.here hx rfl (hb hby d1_101) rfl kt) ?_
    refine OFin.to (T302.setTop (mkF m 103 #[.val (.ref a), .val (.int (Int32.ofNat k)), .val (.int pp), .val (.int (3 : Int32)), .val (.int ((225 : Int32) + (((pp.toUInt32 >>> ((2 : Int32) &&& 31).toUInt32).toInt32) &&& (7 : Int32))))] [(.int (3 : Int32)), (.int (3 : Int32))])) (fun _ kt => XS.iconst X302.here hx rfl (hb hby d1_102) kt) ?_
    refine OFin.to (T302.setTop (mkF m 106 #[.val (.ref a), .val (.int (Int32.ofNat k)), .val (.int pp), .val (.int (3 : Int32)), .val (.int ((225 : Int32) + (((pp.toUInt32 >>> ((2 : Int32) &&& 31).toUInt32).toInt32) &&& (7 : Int32))))] [])) (fun _ kt => XS.icmpNo X302.here hx rfl (hb hby d1_103) rfl (XT.ii_lt_f (by decide)) kt) ?_
    refine OFin.to (T302.setTop (mkF m 107 #[.val (.ref a), .val (.int (Int32.ofNat k)), .val (.int pp), .val (.int (3 : Int32)), .val (.int ((225 : Int32) + (((pp.toUInt32 >>> ((2 : Int32) &&& 31).toUInt32).toInt32) &&& (7 : Int32))))] [(.ref a)])) (fun _ kt => XS.aloadN X302.here hx rfl (hb hby d1_106) rfl rfl kt) ?_
    refine OFin.to (T302.setTop (mkF m 108 #[.val (.ref a), .val (.int (Int32.ofNat k)), .val (.int pp), .val (.int (3 : Int32)), .val (.int ((225 : Int32) + (((pp.toUInt32 >>> ((2 : Int32) &&& 31).toUInt32).toInt32) &&& (7 : Int32))))] [(.int (Int32.ofNat k)), (.ref a)])) (fun _ kt => XS.iloadN X302.here hx rfl (hb hby d1_107) rfl kt) ?_
    refine OFin.to (T302.setTop (mkF m 109 #[.val (.ref a), .val (.int (Int32.ofNat k)), .val (.int pp), .val (.int (3 : Int32)), .val (.int ((225 : Int32) + (((pp.toUInt32 >>> ((2 : Int32) &&& 31).toUInt32).toInt32) &&& (7 : Int32))))] [(.int (2 : Int32)), (.int (Int32.ofNat k)), (.ref a)])) (fun _ kt => XS.iconst X302.here hx rfl (hb hby d1_108) kt) ?_
    refine OFin.to (T302.setTop (mkF m 110 #[.val (.ref a), .val (.int (Int32.ofNat k)), .val (.int pp), .val (.int (3 : Int32)), .val (.int ((225 : Int32) + (((pp.toUInt32 >>> ((2 : Int32) &&& 31).toUInt32).toInt32) &&& (7 : Int32))))] [(.int ((Int32.ofNat k) + (2 : Int32))), (.ref a)])) (fun _ kt => XS.iadd X302.here hx rfl (hb hby d1_109) rfl kt) ?_
    refine OFin.to (T302.setTop (mkF m 113 #[.val (.ref a), .val (.int (Int32.ofNat k)), .val (.int pp), .val (.int (3 : Int32)), .val (.int ((225 : Int32) + (((pp.toUInt32 >>> ((2 : Int32) &&& 31).toUInt32).toInt32) &&& (7 : Int32))))] [(.int (128 : Int32)), (.int ((Int32.ofNat k) + (2 : Int32))), (.ref a)])) (fun _ kt => XS.sipush X302.here hx rfl (hb hby d1_110) kt) ?_
    refine OFin.to (T302.setTop (mkF m 114 #[.val (.ref a), .val (.int (Int32.ofNat k)), .val (.int pp), .val (.int (3 : Int32)), .val (.int ((225 : Int32) + (((pp.toUInt32 >>> ((2 : Int32) &&& 31).toUInt32).toInt32) &&& (7 : Int32))))] [(.int pp), (.int (128 : Int32)), (.int ((Int32.ofNat k) + (2 : Int32))), (.ref a)])) (fun _ kt => XS.iloadN X302.here hx rfl (hb hby d1_113) rfl kt) ?_
    refine OFin.to (T302.setTop (mkF m 116 #[.val (.ref a), .val (.int (Int32.ofNat k)), .val (.int pp), .val (.int (3 : Int32)), .val (.int ((225 : Int32) + (((pp.toUInt32 >>> ((2 : Int32) &&& 31).toUInt32).toInt32) &&& (7 : Int32))))] [(.int (13 : Int32)), (.int pp), (.int (128 : Int32)), (.int ((Int32.ofNat k) + (2 : Int32))), (.ref a)])) (fun _ kt => XS.bipush X302.here hx rfl (hb hby d1_114) kt) ?_
    refine OFin.to (T302.setTop (mkF m 117 #[.val (.ref a), .val (.int (Int32.ofNat k)), .val (.int pp), .val (.int (3 : Int32)), .val (.int ((225 : Int32) + (((pp.toUInt32 >>> ((2 : Int32) &&& 31).toUInt32).toInt32) &&& (7 : Int32))))] [(.int ((pp.toUInt32 >>> ((13 : Int32) &&& 31).toUInt32).toInt32)), (.int (128 : Int32)), (.int ((Int32.ofNat k) + (2 : Int32))), (.ref a)])) (fun _ kt => XS.iushr X302.here hx rfl (hb hby d1_116) rfl kt) ?_
    refine OFin.to (T302.setTop (mkF m 119 #[.val (.ref a), .val (.int (Int32.ofNat k)), .val (.int pp), .val (.int (3 : Int32)), .val (.int ((225 : Int32) + (((pp.toUInt32 >>> ((2 : Int32) &&& 31).toUInt32).toInt32) &&& (7 : Int32))))] [(.int (63 : Int32)), (.int ((pp.toUInt32 >>> ((13 : Int32) &&& 31).toUInt32).toInt32)), (.int (128 : Int32)), (.int ((Int32.ofNat k) + (2 : Int32))), (.ref a)])) (fun _ kt => XS.bipush X302.here hx rfl (hb hby d1_117) kt) ?_
    refine OFin.to (T302.setTop (mkF m 120 #[.val (.ref a), .val (.int (Int32.ofNat k)), .val (.int pp), .val (.int (3 : Int32)), .val (.int ((225 : Int32) + (((pp.toUInt32 >>> ((2 : Int32) &&& 31).toUInt32).toInt32) &&& (7 : Int32))))] [(.int (((pp.toUInt32 >>> ((13 : Int32) &&& 31).toUInt32).toInt32) &&& (63 : Int32))), (.int (128 : Int32)), (.int ((Int32.ofNat k) + (2 : Int32))), (.ref a)])) (fun _ kt => XS.iand X302.here hx rfl (hb hby d1_119) rfl kt) ?_
    refine OFin.to (T302.setTop (mkF m 121 #[.val (.ref a), .val (.int (Int32.ofNat k)), .val (.int pp), .val (.int (3 : Int32)), .val (.int ((225 : Int32) + (((pp.toUInt32 >>> ((2 : Int32) &&& 31).toUInt32).toInt32) &&& (7 : Int32))))] [(.int ((128 : Int32) ||| (((pp.toUInt32 >>> ((13 : Int32) &&& 31).toUInt32).toInt32) &&& (63 : Int32)))), (.int ((Int32.ofNat k) + (2 : Int32))), (.ref a)])) (fun _ kt => XS.ior X302.here hx rfl (hb hby d1_120) rfl kt) ?_
    refine OFin.to (T302.setTop (mkF m 122 #[.val (.ref a), .val (.int (Int32.ofNat k)), .val (.int pp), .val (.int (3 : Int32)), .val (.int ((225 : Int32) + (((pp.toUInt32 >>> ((2 : Int32) &&& 31).toUInt32).toInt32) &&& (7 : Int32))))] [(.int (((128 : Int32) ||| (((pp.toUInt32 >>> ((13 : Int32) &&& 31).toUInt32).toInt32) &&& (63 : Int32))).toInt8.toInt32)), (.int ((Int32.ofNat k) + (2 : Int32))), (.ref a)])) (fun _ kt => XS.i2b X302.here hx rfl (hb hby d1_121) rfl kt) ?_
    have ix2 : ¬ (Int32.ofNat k + (2 : Int32)) < 0 ∧ (Int32.ofNat k + (2 : Int32)).toNatClampNeg = k + 2 := own_ixA k 2 (by omega) (by decide)
    obtain ⟨T303, h303, X303, e303, W303, -, st303⟩ := own_stB X302 hx hZ e302 V302 (k + 2) (ix2).1 (ix2).2 (by rw [own_rlen]; omega) (g := (mkF m 122 #[.val (.ref a), .val (.int (Int32.ofNat k)), .val (.int pp), .val (.int (3 : Int32)), .val (.int ((225 : Int32) + (((pp.toUInt32 >>> ((2 : Int32) &&& 31).toUInt32).toInt32) &&& (7 : Int32))))] [(.int (((128 : Int32) ||| (((pp.toUInt32 >>> ((13 : Int32) &&& 31).toUInt32).toInt32) &&& (63 : Int32))).toInt8.toInt32)), (.int ((Int32.ofNat k) + (2 : Int32))), (.ref a)])) rfl rfl (hb hby d1_122)
    have V303 := OFn.set V302 W303
    have K303 := K302.wr W303 (Or.inl (List.mem_singleton.mpr rfl))
    have N303 := Fr.snoc X303 N302 g
    refine OFin.to (T303.setTop (mkF m 123 #[.val (.ref a), .val (.int (Int32.ofNat k)), .val (.int pp), .val (.int (3 : Int32)), .val (.int ((225 : Int32) + (((pp.toUInt32 >>> ((2 : Int32) &&& 31).toUInt32).toInt32) &&& (7 : Int32))))] [])) st303 ?_
    refine OFin.to (T303.setTop (mkF m 124 #[.val (.ref a), .val (.int (Int32.ofNat k)), .val (.int pp), .val (.int (3 : Int32)), .val (.int ((225 : Int32) + (((pp.toUInt32 >>> ((2 : Int32) &&& 31).toUInt32).toInt32) &&& (7 : Int32))))] [(.int (3 : Int32))])) (fun _ kt => XS.iloadN X303.here hx rfl (hb hby d1_123) rfl kt) ?_
    refine OFin.to (T303.setTop (mkF m 125 #[.val (.ref a), .val (.int (Int32.ofNat k)), .val (.int pp), .val (.int (3 : Int32)), .val (.int ((225 : Int32) + (((pp.toUInt32 >>> ((2 : Int32) &&& 31).toUInt32).toInt32) &&& (7 : Int32))))] [(.int (4 : Int32)), (.int (3 : Int32))])) (fun _ kt => XS.iconst X303.here hx rfl (hb hby d1_124) kt) ?_
    refine OFin.to (T303.setTop (mkF m 145 #[.val (.ref a), .val (.int (Int32.ofNat k)), .val (.int pp), .val (.int (3 : Int32)), .val (.int ((225 : Int32) + (((pp.toUInt32 >>> ((2 : Int32) &&& 31).toUInt32).toInt32) &&& (7 : Int32))))] [])) (fun _ kt => XS.icmpYes X303.here hx rfl (pc0 := 125) (pc' := 145) rfl (hb hby d1_125) rfl (XT.ii_lt_t (by decide)) (by decide) (by decide) kt) ?_
    refine OFin.to (T303.setTop (mkF m 146 #[.val (.ref a), .val (.int (Int32.ofNat k)), .val (.int pp), .val (.int (3 : Int32)), .val (.int ((225 : Int32) + (((pp.toUInt32 >>> ((2 : Int32) &&& 31).toUInt32).toInt32) &&& (7 : Int32))))] [(.int (3 : Int32))])) (fun _ kt => XS.iloadN X303.here hx rfl (hb hby d1_145) rfl kt) ?_
    refine OFin.retI X303 hx hret hlk (hb hby d1_146) (Nat.zero_le _) (Nat.zero_le _) ⟨3, _, rfl, by decide, by decide, (show OFn Z T303.heap a .byte 12 _ from by rw [e303]; exact V303), ?_, ?_, ?_, (by rw [e303]; exact K303), N303⟩
    · intro j hj
      rw [if_neg (show ¬ j = k + 2 by omega), if_neg (show ¬ j = k + 1 by omega), if_neg (show ¬ j = k by omega)]
    · exact ⟨_, (by rw [if_neg (show ¬ k = k + 2 by omega), if_neg (show ¬ k = k + 1 by omega), if_pos rfl]), own_lead3 pp⟩
    · intro j h1 h2
      obtain rfl | rfl : j = k + 1 ∨ j = k + 2 := by omega
      · exact ⟨_, (by rw [if_neg (show ¬ k + 1 = k + 2 by omega), if_pos rfl]), own_contv pp 7⟩
      · exact ⟨_, (by rw [if_pos rfl]), own_contv pp 13⟩
  · refine OFin.to (s₁.setTop (mkF m 1 #[.val (.ref a), .val (.int (Int32.ofNat k)), .val (.int pp), .unset, .unset] [(.int pp)])) (fun _ kt => XS.iloadN X0.here hx rfl (hb hby d1_0) rfl kt) ?_
    refine OFin.to (s₁.setTop (mkF m 2 #[.val (.ref a), .val (.int (Int32.ofNat k)), .val (.int pp), .unset, .unset] [(.int (3 : Int32)), (.int pp)])) (fun _ kt => XS.iconst X0.here hx rfl (hb hby d1_1) kt) ?_
    refine OFin.to (s₁.setTop (mkF m 3 #[.val (.ref a), .val (.int (Int32.ofNat k)), .val (.int pp), .unset, .unset] [(.int (pp &&& (3 : Int32)))])) (fun _ kt => XS.iand X0.here hx rfl (hb hby d1_2) rfl kt) ?_
    refine OFin.to (s₁.setTop (mkF m 4 #[.val (.ref a), .val (.int (Int32.ofNat k)), .val (.int pp), .unset, .unset] [(.int (1 : Int32)), (.int (pp &&& (3 : Int32)))])) (fun _ kt => XS.iconst X0.here hx rfl (hb hby d1_3) kt) ?_
    refine OFin.to (s₁.setTop (mkF m 5 #[.val (.ref a), .val (.int (Int32.ofNat k)), .val (.int pp), .unset, .unset] [(.int ((pp &&& (3 : Int32)) + (1 : Int32)))])) (fun _ kt => XS.iadd X0.here hx rfl (hb hby d1_4) rfl kt) ?_
    rw [show (pp &&& (3 : Int32)) + (1 : Int32) = (4 : Int32) from by rw [hn]; decide]
    refine OFin.to (s₁.setTop (mkF m 6 #[.val (.ref a), .val (.int (Int32.ofNat k)), .val (.int pp), .val (.int (4 : Int32)), .unset] [])) (fun _ kt => XS.istoreN X0.here hx rfl (hb hby d1_5) rfl (l' := #[.val (.ref a), .val (.int (Int32.ofNat k)), .val (.int pp), .val (.int (4 : Int32)), .unset]) rfl kt) ?_
    refine OFin.to (s₁.setTop (mkF m 7 #[.val (.ref a), .val (.int (Int32.ofNat k)), .val (.int pp), .val (.int (4 : Int32)), .unset] [(.int (4 : Int32))])) (fun _ kt => XS.iloadN X0.here hx rfl (hb hby d1_6) rfl kt) ?_
    refine OFin.to (s₁.setTop (mkF m 8 #[.val (.ref a), .val (.int (Int32.ofNat k)), .val (.int pp), .val (.int (4 : Int32)), .unset] [(.int (1 : Int32)), (.int (4 : Int32))])) (fun _ kt => XS.iconst X0.here hx rfl (hb hby d1_7) kt) ?_
    refine OFin.to (s₁.setTop (mkF m 22 #[.val (.ref a), .val (.int (Int32.ofNat k)), .val (.int pp), .val (.int (4 : Int32)), .unset] [])) (fun _ kt => XS.icmpYes X0.here hx rfl (pc0 := 8) (pc' := 22) rfl (hb hby d1_8) rfl (XT.ii_ne_t (by decide)) (by decide) (by decide) kt) ?_
    refine OFin.to (s₁.setTop (mkF m 23 #[.val (.ref a), .val (.int (Int32.ofNat k)), .val (.int pp), .val (.int (4 : Int32)), .unset] [(.int (4 : Int32))])) (fun _ kt => XS.iloadN X0.here hx rfl (hb hby d1_22) rfl kt) ?_
    refine OFin.to (s₁.setTop (mkF m 24 #[.val (.ref a), .val (.int (Int32.ofNat k)), .val (.int pp), .val (.int (4 : Int32)), .unset] [(.int (2 : Int32)), (.int (4 : Int32))])) (fun _ kt => XS.iconst X0.here hx rfl (hb hby d1_23) kt) ?_
    refine OFin.to (s₁.setTop (mkF m 42 #[.val (.ref a), .val (.int (Int32.ofNat k)), .val (.int pp), .val (.int (4 : Int32)), .unset] [])) (fun _ kt => XS.icmpYes X0.here hx rfl (pc0 := 24) (pc' := 42) rfl (hb hby d1_24) rfl (XT.ii_ne_t (by decide)) (by decide) (by decide) kt) ?_
    refine OFin.to (s₁.setTop (mkF m 43 #[.val (.ref a), .val (.int (Int32.ofNat k)), .val (.int pp), .val (.int (4 : Int32)), .unset] [(.int (4 : Int32))])) (fun _ kt => XS.iloadN X0.here hx rfl (hb hby d1_42) rfl kt) ?_
    refine OFin.to (s₁.setTop (mkF m 44 #[.val (.ref a), .val (.int (Int32.ofNat k)), .val (.int pp), .val (.int (4 : Int32)), .unset] [(.int (3 : Int32)), (.int (4 : Int32))])) (fun _ kt => XS.iconst X0.here hx rfl (hb hby d1_43) kt) ?_
    refine OFin.to (s₁.setTop (mkF m 62 #[.val (.ref a), .val (.int (Int32.ofNat k)), .val (.int pp), .val (.int (4 : Int32)), .unset] [])) (fun _ kt => XS.icmpYes X0.here hx rfl (pc0 := 44) (pc' := 62) rfl (hb hby d1_44) rfl (XT.ii_ne_t (by decide)) (by decide) (by decide) kt) ?_
    refine OFin.to (s₁.setTop (mkF m 65 #[.val (.ref a), .val (.int (Int32.ofNat k)), .val (.int pp), .val (.int (4 : Int32)), .unset] [(.int (241 : Int32))])) (fun _ kt => XS.sipush X0.here hx rfl (hb hby d1_62) kt) ?_
    refine OFin.to (s₁.setTop (mkF m 66 #[.val (.ref a), .val (.int (Int32.ofNat k)), .val (.int pp), .val (.int (4 : Int32)), .unset] [(.int pp), (.int (241 : Int32))])) (fun _ kt => XS.iloadN X0.here hx rfl (hb hby d1_65) rfl kt) ?_
    refine OFin.to (s₁.setTop (mkF m 67 #[.val (.ref a), .val (.int (Int32.ofNat k)), .val (.int pp), .val (.int (4 : Int32)), .unset] [(.int (2 : Int32)), (.int pp), (.int (241 : Int32))])) (fun _ kt => XS.iconst X0.here hx rfl (hb hby d1_66) kt) ?_
    refine OFin.to (s₁.setTop (mkF m 68 #[.val (.ref a), .val (.int (Int32.ofNat k)), .val (.int pp), .val (.int (4 : Int32)), .unset] [(.int ((pp.toUInt32 >>> ((2 : Int32) &&& 31).toUInt32).toInt32)), (.int (241 : Int32))])) (fun _ kt => XS.iushr X0.here hx rfl (hb hby d1_67) rfl kt) ?_
    refine OFin.to (s₁.setTop (mkF m 69 #[.val (.ref a), .val (.int (Int32.ofNat k)), .val (.int pp), .val (.int (4 : Int32)), .unset] [(.int (1 : Int32)), (.int ((pp.toUInt32 >>> ((2 : Int32) &&& 31).toUInt32).toInt32)), (.int (241 : Int32))])) (fun _ kt => XS.iconst X0.here hx rfl (hb hby d1_68) kt) ?_
    refine OFin.to (s₁.setTop (mkF m 70 #[.val (.ref a), .val (.int (Int32.ofNat k)), .val (.int pp), .val (.int (4 : Int32)), .unset] [(.int (((pp.toUInt32 >>> ((2 : Int32) &&& 31).toUInt32).toInt32) &&& (1 : Int32))), (.int (241 : Int32))])) (fun _ kt => XS.iand X0.here hx rfl (hb hby d1_69) rfl kt) ?_
    refine OFin.to (s₁.setTop (mkF m 71 #[.val (.ref a), .val (.int (Int32.ofNat k)), .val (.int pp), .val (.int (4 : Int32)), .unset] [(.int ((241 : Int32) + (((pp.toUInt32 >>> ((2 : Int32) &&& 31).toUInt32).toInt32) &&& (1 : Int32))))])) (fun _ kt => XS.iadd X0.here hx rfl (hb hby d1_70) rfl kt) ?_
    refine OFin.to (s₁.setTop (mkF m 73 #[.val (.ref a), .val (.int (Int32.ofNat k)), .val (.int pp), .val (.int (4 : Int32)), .val (.int ((241 : Int32) + (((pp.toUInt32 >>> ((2 : Int32) &&& 31).toUInt32).toInt32) &&& (1 : Int32))))] [])) (fun _ kt => XS.istore X0.here hx rfl (hb hby d1_71) rfl (l' := #[.val (.ref a), .val (.int (Int32.ofNat k)), .val (.int pp), .val (.int (4 : Int32)), .val (.int ((241 : Int32) + (((pp.toUInt32 >>> ((2 : Int32) &&& 31).toUInt32).toInt32) &&& (1 : Int32))))]) rfl kt) ?_
    refine OFin.to (s₁.setTop (mkF m 74 #[.val (.ref a), .val (.int (Int32.ofNat k)), .val (.int pp), .val (.int (4 : Int32)), .val (.int ((241 : Int32) + (((pp.toUInt32 >>> ((2 : Int32) &&& 31).toUInt32).toInt32) &&& (1 : Int32))))] [(.ref a)])) (fun _ kt => XS.aloadN X0.here hx rfl (hb hby d1_73) rfl rfl kt) ?_
    refine OFin.to (s₁.setTop (mkF m 75 #[.val (.ref a), .val (.int (Int32.ofNat k)), .val (.int pp), .val (.int (4 : Int32)), .val (.int ((241 : Int32) + (((pp.toUInt32 >>> ((2 : Int32) &&& 31).toUInt32).toInt32) &&& (1 : Int32))))] [(.int (Int32.ofNat k)), (.ref a)])) (fun _ kt => XS.iloadN X0.here hx rfl (hb hby d1_74) rfl kt) ?_
    refine OFin.to (s₁.setTop (mkF m 77 #[.val (.ref a), .val (.int (Int32.ofNat k)), .val (.int pp), .val (.int (4 : Int32)), .val (.int ((241 : Int32) + (((pp.toUInt32 >>> ((2 : Int32) &&& 31).toUInt32).toInt32) &&& (1 : Int32))))] [(.int ((241 : Int32) + (((pp.toUInt32 >>> ((2 : Int32) &&& 31).toUInt32).toInt32) &&& (1 : Int32)))), (.int (Int32.ofNat k)), (.ref a)])) (fun _ kt => XS.iload X0.here hx rfl (hb hby d1_75) rfl kt) ?_
    refine OFin.to (s₁.setTop (mkF m 78 #[.val (.ref a), .val (.int (Int32.ofNat k)), .val (.int pp), .val (.int (4 : Int32)), .val (.int ((241 : Int32) + (((pp.toUInt32 >>> ((2 : Int32) &&& 31).toUInt32).toInt32) &&& (1 : Int32))))] [(.int (((241 : Int32) + (((pp.toUInt32 >>> ((2 : Int32) &&& 31).toUInt32).toInt32) &&& (1 : Int32))).toInt8.toInt32)), (.int (Int32.ofNat k)), (.ref a)])) (fun _ kt => XS.i2b X0.here hx rfl (hb hby d1_77) rfl kt) ?_
    obtain ⟨T401, h401, X401, e401, W401, -, st401⟩ := own_stB X0 hx hZ e0 V0 (k) (own_ix k (by omega)).1 (own_ix k (by omega)).2 (by rw [own_rlen]; omega) (g := (mkF m 78 #[.val (.ref a), .val (.int (Int32.ofNat k)), .val (.int pp), .val (.int (4 : Int32)), .val (.int ((241 : Int32) + (((pp.toUInt32 >>> ((2 : Int32) &&& 31).toUInt32).toInt32) &&& (1 : Int32))))] [(.int (((241 : Int32) + (((pp.toUInt32 >>> ((2 : Int32) &&& 31).toUInt32).toInt32) &&& (1 : Int32))).toInt8.toInt32)), (.int (Int32.ofNat k)), (.ref a)])) rfl rfl (hb hby d1_78)
    have V401 := OFn.set V0 W401
    have K401 := (Keep.refl h0 [a]).wr W401 (Or.inl (List.mem_singleton.mpr rfl))
    have N401 := Fr.snoc X401 (Fr.nil n0) g
    refine OFin.to (T401.setTop (mkF m 79 #[.val (.ref a), .val (.int (Int32.ofNat k)), .val (.int pp), .val (.int (4 : Int32)), .val (.int ((241 : Int32) + (((pp.toUInt32 >>> ((2 : Int32) &&& 31).toUInt32).toInt32) &&& (1 : Int32))))] [])) st401 ?_
    refine OFin.to (T401.setTop (mkF m 80 #[.val (.ref a), .val (.int (Int32.ofNat k)), .val (.int pp), .val (.int (4 : Int32)), .val (.int ((241 : Int32) + (((pp.toUInt32 >>> ((2 : Int32) &&& 31).toUInt32).toInt32) &&& (1 : Int32))))] [(.int (4 : Int32))])) (fun _ kt => XS.iloadN X401.here hx rfl (hb hby d1_79) rfl kt) ?_
    refine OFin.to (T401.setTop (mkF m 81 #[.val (.ref a), .val (.int (Int32.ofNat k)), .val (.int pp), .val (.int (4 : Int32)), .val (.int ((241 : Int32) + (((pp.toUInt32 >>> ((2 : Int32) &&& 31).toUInt32).toInt32) &&& (1 : Int32))))] [(.int (2 : Int32)), (.int (4 : Int32))])) (fun _ kt => XS.iconst X401.here hx rfl (hb hby d1_80) kt) ?_
    refine OFin.to (T401.setTop (mkF m 84 #[.val (.ref a), .val (.int (Int32.ofNat k)), .val (.int pp), .val (.int (4 : Int32)), .val (.int ((241 : Int32) + (((pp.toUInt32 >>> ((2 : Int32) &&& 31).toUInt32).toInt32) &&& (1 : Int32))))] [])) (fun _ kt => XS.icmpNo X401.here hx rfl (hb hby d1_81) rfl (XT.ii_lt_f (by decide)) kt) ?_
    refine OFin.to (T401.setTop (mkF m 85 #[.val (.ref a), .val (.int (Int32.ofNat k)), .val (.int pp), .val (.int (4 : Int32)), .val (.int ((241 : Int32) + (((pp.toUInt32 >>> ((2 : Int32) &&& 31).toUInt32).toInt32) &&& (1 : Int32))))] [(.ref a)])) (fun _ kt => XS.aloadN X401.here hx rfl (hb hby d1_84) rfl rfl kt) ?_
    refine OFin.to (T401.setTop (mkF m 86 #[.val (.ref a), .val (.int (Int32.ofNat k)), .val (.int pp), .val (.int (4 : Int32)), .val (.int ((241 : Int32) + (((pp.toUInt32 >>> ((2 : Int32) &&& 31).toUInt32).toInt32) &&& (1 : Int32))))] [(.int (Int32.ofNat k)), (.ref a)])) (fun _ kt => XS.iloadN X401.here hx rfl (hb hby d1_85) rfl kt) ?_
    refine OFin.to (T401.setTop (mkF m 87 #[.val (.ref a), .val (.int (Int32.ofNat k)), .val (.int pp), .val (.int (4 : Int32)), .val (.int ((241 : Int32) + (((pp.toUInt32 >>> ((2 : Int32) &&& 31).toUInt32).toInt32) &&& (1 : Int32))))] [(.int (1 : Int32)), (.int (Int32.ofNat k)), (.ref a)])) (fun _ kt => XS.iconst X401.here hx rfl (hb hby d1_86) kt) ?_
    refine OFin.to (T401.setTop (mkF m 88 #[.val (.ref a), .val (.int (Int32.ofNat k)), .val (.int pp), .val (.int (4 : Int32)), .val (.int ((241 : Int32) + (((pp.toUInt32 >>> ((2 : Int32) &&& 31).toUInt32).toInt32) &&& (1 : Int32))))] [(.int ((Int32.ofNat k) + (1 : Int32))), (.ref a)])) (fun _ kt => XS.iadd X401.here hx rfl (hb hby d1_87) rfl kt) ?_
    refine OFin.to (T401.setTop (mkF m 91 #[.val (.ref a), .val (.int (Int32.ofNat k)), .val (.int pp), .val (.int (4 : Int32)), .val (.int ((241 : Int32) + (((pp.toUInt32 >>> ((2 : Int32) &&& 31).toUInt32).toInt32) &&& (1 : Int32))))] [(.int (128 : Int32)), (.int ((Int32.ofNat k) + (1 : Int32))), (.ref a)])) (fun _ kt => XS.sipush X401.here hx rfl (hb hby d1_88) kt) ?_
    refine OFin.to (T401.setTop (mkF m 92 #[.val (.ref a), .val (.int (Int32.ofNat k)), .val (.int pp), .val (.int (4 : Int32)), .val (.int ((241 : Int32) + (((pp.toUInt32 >>> ((2 : Int32) &&& 31).toUInt32).toInt32) &&& (1 : Int32))))] [(.int pp), (.int (128 : Int32)), (.int ((Int32.ofNat k) + (1 : Int32))), (.ref a)])) (fun _ kt => XS.iloadN X401.here hx rfl (hb hby d1_91) rfl kt) ?_
    refine OFin.to (T401.setTop (mkF m 94 #[.val (.ref a), .val (.int (Int32.ofNat k)), .val (.int pp), .val (.int (4 : Int32)), .val (.int ((241 : Int32) + (((pp.toUInt32 >>> ((2 : Int32) &&& 31).toUInt32).toInt32) &&& (1 : Int32))))] [(.int (7 : Int32)), (.int pp), (.int (128 : Int32)), (.int ((Int32.ofNat k) + (1 : Int32))), (.ref a)])) (fun _ kt => XS.bipush X401.here hx rfl (hb hby d1_92) kt) ?_
    refine OFin.to (T401.setTop (mkF m 95 #[.val (.ref a), .val (.int (Int32.ofNat k)), .val (.int pp), .val (.int (4 : Int32)), .val (.int ((241 : Int32) + (((pp.toUInt32 >>> ((2 : Int32) &&& 31).toUInt32).toInt32) &&& (1 : Int32))))] [(.int ((pp.toUInt32 >>> ((7 : Int32) &&& 31).toUInt32).toInt32)), (.int (128 : Int32)), (.int ((Int32.ofNat k) + (1 : Int32))), (.ref a)])) (fun _ kt => XS.iushr X401.here hx rfl (hb hby d1_94) rfl kt) ?_
    refine OFin.to (T401.setTop (mkF m 97 #[.val (.ref a), .val (.int (Int32.ofNat k)), .val (.int pp), .val (.int (4 : Int32)), .val (.int ((241 : Int32) + (((pp.toUInt32 >>> ((2 : Int32) &&& 31).toUInt32).toInt32) &&& (1 : Int32))))] [(.int (63 : Int32)), (.int ((pp.toUInt32 >>> ((7 : Int32) &&& 31).toUInt32).toInt32)), (.int (128 : Int32)), (.int ((Int32.ofNat k) + (1 : Int32))), (.ref a)])) (fun _ kt => XS.bipush X401.here hx rfl (hb hby d1_95) kt) ?_
    refine OFin.to (T401.setTop (mkF m 98 #[.val (.ref a), .val (.int (Int32.ofNat k)), .val (.int pp), .val (.int (4 : Int32)), .val (.int ((241 : Int32) + (((pp.toUInt32 >>> ((2 : Int32) &&& 31).toUInt32).toInt32) &&& (1 : Int32))))] [(.int (((pp.toUInt32 >>> ((7 : Int32) &&& 31).toUInt32).toInt32) &&& (63 : Int32))), (.int (128 : Int32)), (.int ((Int32.ofNat k) + (1 : Int32))), (.ref a)])) (fun _ kt => XS.iand X401.here hx rfl (hb hby d1_97) rfl kt) ?_
    refine OFin.to (T401.setTop (mkF m 99 #[.val (.ref a), .val (.int (Int32.ofNat k)), .val (.int pp), .val (.int (4 : Int32)), .val (.int ((241 : Int32) + (((pp.toUInt32 >>> ((2 : Int32) &&& 31).toUInt32).toInt32) &&& (1 : Int32))))] [(.int ((128 : Int32) ||| (((pp.toUInt32 >>> ((7 : Int32) &&& 31).toUInt32).toInt32) &&& (63 : Int32)))), (.int ((Int32.ofNat k) + (1 : Int32))), (.ref a)])) (fun _ kt => XS.ior X401.here hx rfl (hb hby d1_98) rfl kt) ?_
    refine OFin.to (T401.setTop (mkF m 100 #[.val (.ref a), .val (.int (Int32.ofNat k)), .val (.int pp), .val (.int (4 : Int32)), .val (.int ((241 : Int32) + (((pp.toUInt32 >>> ((2 : Int32) &&& 31).toUInt32).toInt32) &&& (1 : Int32))))] [(.int (((128 : Int32) ||| (((pp.toUInt32 >>> ((7 : Int32) &&& 31).toUInt32).toInt32) &&& (63 : Int32))).toInt8.toInt32)), (.int ((Int32.ofNat k) + (1 : Int32))), (.ref a)])) (fun _ kt => XS.i2b X401.here hx rfl (hb hby d1_99) rfl kt) ?_
    have ix1 : ¬ (Int32.ofNat k + (1 : Int32)) < 0 ∧ (Int32.ofNat k + (1 : Int32)).toNatClampNeg = k + 1 := own_ixA k 1 (by omega) (by decide)
    obtain ⟨T402, h402, X402, e402, W402, -, st402⟩ := own_stB X401 hx hZ e401 V401 (k + 1) (ix1).1 (ix1).2 (by rw [own_rlen]; omega) (g := (mkF m 100 #[.val (.ref a), .val (.int (Int32.ofNat k)), .val (.int pp), .val (.int (4 : Int32)), .val (.int ((241 : Int32) + (((pp.toUInt32 >>> ((2 : Int32) &&& 31).toUInt32).toInt32) &&& (1 : Int32))))] [(.int (((128 : Int32) ||| (((pp.toUInt32 >>> ((7 : Int32) &&& 31).toUInt32).toInt32) &&& (63 : Int32))).toInt8.toInt32)), (.int ((Int32.ofNat k) + (1 : Int32))), (.ref a)])) rfl rfl (hb hby d1_100)
    have V402 := OFn.set V401 W402
    have K402 := K401.wr W402 (Or.inl (List.mem_singleton.mpr rfl))
    have N402 := Fr.snoc X402 N401 g
    refine OFin.to (T402.setTop (mkF m 101 #[.val (.ref a), .val (.int (Int32.ofNat k)), .val (.int pp), .val (.int (4 : Int32)), .val (.int ((241 : Int32) + (((pp.toUInt32 >>> ((2 : Int32) &&& 31).toUInt32).toInt32) &&& (1 : Int32))))] [])) st402 ?_
    refine OFin.to (T402.setTop (mkF m 102 #[.val (.ref a), .val (.int (Int32.ofNat k)), .val (.int pp), .val (.int (4 : Int32)), .val (.int ((241 : Int32) + (((pp.toUInt32 >>> ((2 : Int32) &&& 31).toUInt32).toInt32) &&& (1 : Int32))))] [(.int (4 : Int32))])) (fun _ kt => XS.iloadN X402.here hx rfl (hb hby d1_101) rfl kt) ?_
    refine OFin.to (T402.setTop (mkF m 103 #[.val (.ref a), .val (.int (Int32.ofNat k)), .val (.int pp), .val (.int (4 : Int32)), .val (.int ((241 : Int32) + (((pp.toUInt32 >>> ((2 : Int32) &&& 31).toUInt32).toInt32) &&& (1 : Int32))))] [(.int (3 : Int32)), (.int (4 : Int32))])) (fun _ kt => XS.iconst X402.here hx rfl (hb hby d1_102) kt) ?_
    refine OFin.to (T402.setTop (mkF m 106 #[.val (.ref a), .val (.int (Int32.ofNat k)), .val (.int pp), .val (.int (4 : Int32)), .val (.int ((241 : Int32) + (((pp.toUInt32 >>> ((2 : Int32) &&& 31).toUInt32).toInt32) &&& (1 : Int32))))] [])) (fun _ kt => XS.icmpNo X402.here hx rfl (hb hby d1_103) rfl (XT.ii_lt_f (by decide)) kt) ?_
    refine OFin.to (T402.setTop (mkF m 107 #[.val (.ref a), .val (.int (Int32.ofNat k)), .val (.int pp), .val (.int (4 : Int32)), .val (.int ((241 : Int32) + (((pp.toUInt32 >>> ((2 : Int32) &&& 31).toUInt32).toInt32) &&& (1 : Int32))))] [(.ref a)])) (fun _ kt => XS.aloadN X402.here hx rfl (hb hby d1_106) rfl rfl kt) ?_
    refine OFin.to (T402.setTop (mkF m 108 #[.val (.ref a), .val (.int (Int32.ofNat k)), .val (.int pp), .val (.int (4 : Int32)), .val (.int ((241 : Int32) + (((pp.toUInt32 >>> ((2 : Int32) &&& 31).toUInt32).toInt32) &&& (1 : Int32))))] [(.int (Int32.ofNat k)), (.ref a)])) (fun _ kt => XS.iloadN X402.here hx rfl (hb hby d1_107) rfl kt) ?_
    refine OFin.to (T402.setTop (mkF m 109 #[.val (.ref a), .val (.int (Int32.ofNat k)), .val (.int pp), .val (.int (4 : Int32)), .val (.int ((241 : Int32) + (((pp.toUInt32 >>> ((2 : Int32) &&& 31).toUInt32).toInt32) &&& (1 : Int32))))] [(.int (2 : Int32)), (.int (Int32.ofNat k)), (.ref a)])) (fun _ kt => XS.iconst X402.here hx rfl (hb hby d1_108) kt) ?_
    refine OFin.to (T402.setTop (mkF m 110 #[.val (.ref a), .val (.int (Int32.ofNat k)), .val (.int pp), .val (.int (4 : Int32)), .val (.int ((241 : Int32) + (((pp.toUInt32 >>> ((2 : Int32) &&& 31).toUInt32).toInt32) &&& (1 : Int32))))] [(.int ((Int32.ofNat k) + (2 : Int32))), (.ref a)])) (fun _ kt => XS.iadd X402.here hx rfl (hb hby d1_109) rfl kt) ?_
    refine OFin.to (T402.setTop (mkF m 113 #[.val (.ref a), .val (.int (Int32.ofNat k)), .val (.int pp), .val (.int (4 : Int32)), .val (.int ((241 : Int32) + (((pp.toUInt32 >>> ((2 : Int32) &&& 31).toUInt32).toInt32) &&& (1 : Int32))))] [(.int (128 : Int32)), (.int ((Int32.ofNat k) + (2 : Int32))), (.ref a)])) (fun _ kt => XS.sipush X402.here hx rfl (hb hby d1_110) kt) ?_
    refine OFin.to (T402.setTop (mkF m 114 #[.val (.ref a), .val (.int (Int32.ofNat k)), .val (.int pp), .val (.int (4 : Int32)), .val (.int ((241 : Int32) + (((pp.toUInt32 >>> ((2 : Int32) &&& 31).toUInt32).toInt32) &&& (1 : Int32))))] [(.int pp), (.int (128 : Int32)), (.int ((Int32.ofNat k) + (2 : Int32))), (.ref a)])) (fun _ kt => XS.iloadN X402.here hx rfl (hb hby d1_113) rfl kt) ?_
    refine OFin.to (T402.setTop (mkF m 116 #[.val (.ref a), .val (.int (Int32.ofNat k)), .val (.int pp), .val (.int (4 : Int32)), .val (.int ((241 : Int32) + (((pp.toUInt32 >>> ((2 : Int32) &&& 31).toUInt32).toInt32) &&& (1 : Int32))))] [(.int (13 : Int32)), (.int pp), (.int (128 : Int32)), (.int ((Int32.ofNat k) + (2 : Int32))), (.ref a)])) (fun _ kt => XS.bipush X402.here hx rfl (hb hby d1_114) kt) ?_
    refine OFin.to (T402.setTop (mkF m 117 #[.val (.ref a), .val (.int (Int32.ofNat k)), .val (.int pp), .val (.int (4 : Int32)), .val (.int ((241 : Int32) + (((pp.toUInt32 >>> ((2 : Int32) &&& 31).toUInt32).toInt32) &&& (1 : Int32))))] [(.int ((pp.toUInt32 >>> ((13 : Int32) &&& 31).toUInt32).toInt32)), (.int (128 : Int32)), (.int ((Int32.ofNat k) + (2 : Int32))), (.ref a)])) (fun _ kt => XS.iushr X402.here hx rfl (hb hby d1_116) rfl kt) ?_
    refine OFin.to (T402.setTop (mkF m 119 #[.val (.ref a), .val (.int (Int32.ofNat k)), .val (.int pp), .val (.int (4 : Int32)), .val (.int ((241 : Int32) + (((pp.toUInt32 >>> ((2 : Int32) &&& 31).toUInt32).toInt32) &&& (1 : Int32))))] [(.int (63 : Int32)), (.int ((pp.toUInt32 >>> ((13 : Int32) &&& 31).toUInt32).toInt32)), (.int (128 : Int32)), (.int ((Int32.ofNat k) + (2 : Int32))), (.ref a)])) (fun _ kt => XS.bipush X402.here hx rfl (hb hby d1_117) kt) ?_
    refine OFin.to (T402.setTop (mkF m 120 #[.val (.ref a), .val (.int (Int32.ofNat k)), .val (.int pp), .val (.int (4 : Int32)), .val (.int ((241 : Int32) + (((pp.toUInt32 >>> ((2 : Int32) &&& 31).toUInt32).toInt32) &&& (1 : Int32))))] [(.int (((pp.toUInt32 >>> ((13 : Int32) &&& 31).toUInt32).toInt32) &&& (63 : Int32))), (.int (128 : Int32)), (.int ((Int32.ofNat k) + (2 : Int32))), (.ref a)])) (fun _ kt => XS.iand X402.here hx rfl (hb hby d1_119) rfl kt) ?_
    refine OFin.to (T402.setTop (mkF m 121 #[.val (.ref a), .val (.int (Int32.ofNat k)), .val (.int pp), .val (.int (4 : Int32)), .val (.int ((241 : Int32) + (((pp.toUInt32 >>> ((2 : Int32) &&& 31).toUInt32).toInt32) &&& (1 : Int32))))] [(.int ((128 : Int32) ||| (((pp.toUInt32 >>> ((13 : Int32) &&& 31).toUInt32).toInt32) &&& (63 : Int32)))), (.int ((Int32.ofNat k) + (2 : Int32))), (.ref a)])) (fun _ kt => XS.ior X402.here hx rfl (hb hby d1_120) rfl kt) ?_
    refine OFin.to (T402.setTop (mkF m 122 #[.val (.ref a), .val (.int (Int32.ofNat k)), .val (.int pp), .val (.int (4 : Int32)), .val (.int ((241 : Int32) + (((pp.toUInt32 >>> ((2 : Int32) &&& 31).toUInt32).toInt32) &&& (1 : Int32))))] [(.int (((128 : Int32) ||| (((pp.toUInt32 >>> ((13 : Int32) &&& 31).toUInt32).toInt32) &&& (63 : Int32))).toInt8.toInt32)), (.int ((Int32.ofNat k) + (2 : Int32))), (.ref a)])) (fun _ kt => XS.i2b X402.here hx rfl (hb hby d1_121) rfl kt) ?_
    have ix2 : ¬ (Int32.ofNat k + (2 : Int32)) < 0 ∧ (Int32.ofNat k + (2 : Int32)).toNatClampNeg = k + 2 := own_ixA k 2 (by omega) (by decide)
    obtain ⟨T403, h403, X403, e403, W403, -, st403⟩ := own_stB X402 hx hZ e402 V402 (k + 2) (ix2).1 (ix2).2 (by rw [own_rlen]; omega) (g := (mkF m 122 #[.val (.ref a), .val (.int (Int32.ofNat k)), .val (.int pp), .val (.int (4 : Int32)), .val (.int ((241 : Int32) + (((pp.toUInt32 >>> ((2 : Int32) &&& 31).toUInt32).toInt32) &&& (1 : Int32))))] [(.int (((128 : Int32) ||| (((pp.toUInt32 >>> ((13 : Int32) &&& 31).toUInt32).toInt32) &&& (63 : Int32))).toInt8.toInt32)), (.int ((Int32.ofNat k) + (2 : Int32))), (.ref a)])) rfl rfl (hb hby d1_122)
    have V403 := OFn.set V402 W403
    have K403 := K402.wr W403 (Or.inl (List.mem_singleton.mpr rfl))
    have N403 := Fr.snoc X403 N402 g
    refine OFin.to (T403.setTop (mkF m 123 #[.val (.ref a), .val (.int (Int32.ofNat k)), .val (.int pp), .val (.int (4 : Int32)), .val (.int ((241 : Int32) + (((pp.toUInt32 >>> ((2 : Int32) &&& 31).toUInt32).toInt32) &&& (1 : Int32))))] [])) st403 ?_
    refine OFin.to (T403.setTop (mkF m 124 #[.val (.ref a), .val (.int (Int32.ofNat k)), .val (.int pp), .val (.int (4 : Int32)), .val (.int ((241 : Int32) + (((pp.toUInt32 >>> ((2 : Int32) &&& 31).toUInt32).toInt32) &&& (1 : Int32))))] [(.int (4 : Int32))])) (fun _ kt => XS.iloadN X403.here hx rfl (hb hby d1_123) rfl kt) ?_
    refine OFin.to (T403.setTop (mkF m 125 #[.val (.ref a), .val (.int (Int32.ofNat k)), .val (.int pp), .val (.int (4 : Int32)), .val (.int ((241 : Int32) + (((pp.toUInt32 >>> ((2 : Int32) &&& 31).toUInt32).toInt32) &&& (1 : Int32))))] [(.int (4 : Int32)), (.int (4 : Int32))])) (fun _ kt => XS.iconst X403.here hx rfl (hb hby d1_124) kt) ?_
    refine OFin.to (T403.setTop (mkF m 128 #[.val (.ref a), .val (.int (Int32.ofNat k)), .val (.int pp), .val (.int (4 : Int32)), .val (.int ((241 : Int32) + (((pp.toUInt32 >>> ((2 : Int32) &&& 31).toUInt32).toInt32) &&& (1 : Int32))))] [])) (fun _ kt => XS.icmpNo X403.here hx rfl (hb hby d1_125) rfl (XT.ii_lt_f (by decide)) kt) ?_
    refine OFin.to (T403.setTop (mkF m 129 #[.val (.ref a), .val (.int (Int32.ofNat k)), .val (.int pp), .val (.int (4 : Int32)), .val (.int ((241 : Int32) + (((pp.toUInt32 >>> ((2 : Int32) &&& 31).toUInt32).toInt32) &&& (1 : Int32))))] [(.ref a)])) (fun _ kt => XS.aloadN X403.here hx rfl (hb hby d1_128) rfl rfl kt) ?_
    refine OFin.to (T403.setTop (mkF m 130 #[.val (.ref a), .val (.int (Int32.ofNat k)), .val (.int pp), .val (.int (4 : Int32)), .val (.int ((241 : Int32) + (((pp.toUInt32 >>> ((2 : Int32) &&& 31).toUInt32).toInt32) &&& (1 : Int32))))] [(.int (Int32.ofNat k)), (.ref a)])) (fun _ kt => XS.iloadN X403.here hx rfl (hb hby d1_129) rfl kt) ?_
    refine OFin.to (T403.setTop (mkF m 131 #[.val (.ref a), .val (.int (Int32.ofNat k)), .val (.int pp), .val (.int (4 : Int32)), .val (.int ((241 : Int32) + (((pp.toUInt32 >>> ((2 : Int32) &&& 31).toUInt32).toInt32) &&& (1 : Int32))))] [(.int (3 : Int32)), (.int (Int32.ofNat k)), (.ref a)])) (fun _ kt => XS.iconst X403.here hx rfl (hb hby d1_130) kt) ?_
    refine OFin.to (T403.setTop (mkF m 132 #[.val (.ref a), .val (.int (Int32.ofNat k)), .val (.int pp), .val (.int (4 : Int32)), .val (.int ((241 : Int32) + (((pp.toUInt32 >>> ((2 : Int32) &&& 31).toUInt32).toInt32) &&& (1 : Int32))))] [(.int ((Int32.ofNat k) + (3 : Int32))), (.ref a)])) (fun _ kt => XS.iadd X403.here hx rfl (hb hby d1_131) rfl kt) ?_
    refine OFin.to (T403.setTop (mkF m 135 #[.val (.ref a), .val (.int (Int32.ofNat k)), .val (.int pp), .val (.int (4 : Int32)), .val (.int ((241 : Int32) + (((pp.toUInt32 >>> ((2 : Int32) &&& 31).toUInt32).toInt32) &&& (1 : Int32))))] [(.int (128 : Int32)), (.int ((Int32.ofNat k) + (3 : Int32))), (.ref a)])) (fun _ kt => XS.sipush X403.here hx rfl (hb hby d1_132) kt) ?_
    refine OFin.to (T403.setTop (mkF m 136 #[.val (.ref a), .val (.int (Int32.ofNat k)), .val (.int pp), .val (.int (4 : Int32)), .val (.int ((241 : Int32) + (((pp.toUInt32 >>> ((2 : Int32) &&& 31).toUInt32).toInt32) &&& (1 : Int32))))] [(.int pp), (.int (128 : Int32)), (.int ((Int32.ofNat k) + (3 : Int32))), (.ref a)])) (fun _ kt => XS.iloadN X403.here hx rfl (hb hby d1_135) rfl kt) ?_
    refine OFin.to (T403.setTop (mkF m 138 #[.val (.ref a), .val (.int (Int32.ofNat k)), .val (.int pp), .val (.int (4 : Int32)), .val (.int ((241 : Int32) + (((pp.toUInt32 >>> ((2 : Int32) &&& 31).toUInt32).toInt32) &&& (1 : Int32))))] [(.int (19 : Int32)), (.int pp), (.int (128 : Int32)), (.int ((Int32.ofNat k) + (3 : Int32))), (.ref a)])) (fun _ kt => XS.bipush X403.here hx rfl (hb hby d1_136) kt) ?_
    refine OFin.to (T403.setTop (mkF m 139 #[.val (.ref a), .val (.int (Int32.ofNat k)), .val (.int pp), .val (.int (4 : Int32)), .val (.int ((241 : Int32) + (((pp.toUInt32 >>> ((2 : Int32) &&& 31).toUInt32).toInt32) &&& (1 : Int32))))] [(.int ((pp.toUInt32 >>> ((19 : Int32) &&& 31).toUInt32).toInt32)), (.int (128 : Int32)), (.int ((Int32.ofNat k) + (3 : Int32))), (.ref a)])) (fun _ kt => XS.iushr X403.here hx rfl (hb hby d1_138) rfl kt) ?_
    refine OFin.to (T403.setTop (mkF m 141 #[.val (.ref a), .val (.int (Int32.ofNat k)), .val (.int pp), .val (.int (4 : Int32)), .val (.int ((241 : Int32) + (((pp.toUInt32 >>> ((2 : Int32) &&& 31).toUInt32).toInt32) &&& (1 : Int32))))] [(.int (63 : Int32)), (.int ((pp.toUInt32 >>> ((19 : Int32) &&& 31).toUInt32).toInt32)), (.int (128 : Int32)), (.int ((Int32.ofNat k) + (3 : Int32))), (.ref a)])) (fun _ kt => XS.bipush X403.here hx rfl (hb hby d1_139) kt) ?_
    refine OFin.to (T403.setTop (mkF m 142 #[.val (.ref a), .val (.int (Int32.ofNat k)), .val (.int pp), .val (.int (4 : Int32)), .val (.int ((241 : Int32) + (((pp.toUInt32 >>> ((2 : Int32) &&& 31).toUInt32).toInt32) &&& (1 : Int32))))] [(.int (((pp.toUInt32 >>> ((19 : Int32) &&& 31).toUInt32).toInt32) &&& (63 : Int32))), (.int (128 : Int32)), (.int ((Int32.ofNat k) + (3 : Int32))), (.ref a)])) (fun _ kt => XS.iand X403.here hx rfl (hb hby d1_141) rfl kt) ?_
    refine OFin.to (T403.setTop (mkF m 143 #[.val (.ref a), .val (.int (Int32.ofNat k)), .val (.int pp), .val (.int (4 : Int32)), .val (.int ((241 : Int32) + (((pp.toUInt32 >>> ((2 : Int32) &&& 31).toUInt32).toInt32) &&& (1 : Int32))))] [(.int ((128 : Int32) ||| (((pp.toUInt32 >>> ((19 : Int32) &&& 31).toUInt32).toInt32) &&& (63 : Int32)))), (.int ((Int32.ofNat k) + (3 : Int32))), (.ref a)])) (fun _ kt => XS.ior X403.here hx rfl (hb hby d1_142) rfl kt) ?_
    refine OFin.to (T403.setTop (mkF m 144 #[.val (.ref a), .val (.int (Int32.ofNat k)), .val (.int pp), .val (.int (4 : Int32)), .val (.int ((241 : Int32) + (((pp.toUInt32 >>> ((2 : Int32) &&& 31).toUInt32).toInt32) &&& (1 : Int32))))] [(.int (((128 : Int32) ||| (((pp.toUInt32 >>> ((19 : Int32) &&& 31).toUInt32).toInt32) &&& (63 : Int32))).toInt8.toInt32)), (.int ((Int32.ofNat k) + (3 : Int32))), (.ref a)])) (fun _ kt => XS.i2b X403.here hx rfl (hb hby d1_143) rfl kt) ?_
    have ix3 : ¬ (Int32.ofNat k + (3 : Int32)) < 0 ∧ (Int32.ofNat k + (3 : Int32)).toNatClampNeg = k + 3 := own_ixA k 3 (by omega) (by decide)
    obtain ⟨T404, h404, X404, e404, W404, -, st404⟩ := own_stB X403 hx hZ e403 V403 (k + 3) (ix3).1 (ix3).2 (by rw [own_rlen]; omega) (g := (mkF m 144 #[.val (.ref a), .val (.int (Int32.ofNat k)), .val (.int pp), .val (.int (4 : Int32)), .val (.int ((241 : Int32) + (((pp.toUInt32 >>> ((2 : Int32) &&& 31).toUInt32).toInt32) &&& (1 : Int32))))] [(.int (((128 : Int32) ||| (((pp.toUInt32 >>> ((19 : Int32) &&& 31).toUInt32).toInt32) &&& (63 : Int32))).toInt8.toInt32)), (.int ((Int32.ofNat k) + (3 : Int32))), (.ref a)])) rfl rfl (hb hby d1_144)
    have V404 := OFn.set V403 W404
    have K404 := K403.wr W404 (Or.inl (List.mem_singleton.mpr rfl))
    have N404 := Fr.snoc X404 N403 g
    refine OFin.to (T404.setTop (mkF m 145 #[.val (.ref a), .val (.int (Int32.ofNat k)), .val (.int pp), .val (.int (4 : Int32)), .val (.int ((241 : Int32) + (((pp.toUInt32 >>> ((2 : Int32) &&& 31).toUInt32).toInt32) &&& (1 : Int32))))] [])) st404 ?_
    refine OFin.to (T404.setTop (mkF m 146 #[.val (.ref a), .val (.int (Int32.ofNat k)), .val (.int pp), .val (.int (4 : Int32)), .val (.int ((241 : Int32) + (((pp.toUInt32 >>> ((2 : Int32) &&& 31).toUInt32).toInt32) &&& (1 : Int32))))] [(.int (4 : Int32))])) (fun _ kt => XS.iloadN X404.here hx rfl (hb hby d1_145) rfl kt) ?_
    refine OFin.retI X404 hx hret hlk (hb hby d1_146) (Nat.zero_le _) (Nat.zero_le _) ⟨4, _, rfl, by decide, by decide, (show OFn Z T404.heap a .byte 12 _ from by rw [e404]; exact V404), ?_, ?_, ?_, (by rw [e404]; exact K404), N404⟩
    · intro j hj
      rw [if_neg (show ¬ j = k + 3 by omega), if_neg (show ¬ j = k + 2 by omega), if_neg (show ¬ j = k + 1 by omega), if_neg (show ¬ j = k by omega)]
    · exact ⟨_, (by rw [if_neg (show ¬ k = k + 3 by omega), if_neg (show ¬ k = k + 2 by omega), if_neg (show ¬ k = k + 1 by omega), if_pos rfl]), own_lead4 pp⟩
    · intro j h1 h2
      obtain rfl | rfl | rfl : j = k + 1 ∨ j = k + 2 ∨ j = k + 3 := by omega
      · exact ⟨_, (by rw [if_neg (show ¬ k + 1 = k + 3 by omega), if_neg (show ¬ k + 1 = k + 2 by omega), if_pos rfl]), own_contv pp 7⟩
      · exact ⟨_, (by rw [if_neg (show ¬ k + 2 = k + 3 by omega), if_pos rfl]), own_contv pp 13⟩
      · exact ⟨_, (by rw [if_pos rfl]), own_contv pp 19⟩
theorem d5_0 : decode prog_130_method_32_code 0 = .ok (.iload_n 0, 1) := by decide +kernel
theorem d5_1 : decode prog_130_method_32_code 1 = .ok (.bipush 32, 2) := by decide +kernel
theorem d5_3 : decode prog_130_method_32_code 3 = .ok (.if_icmp .eq 9, 3) := by decide +kernel
theorem d5_6 : decode prog_130_method_32_code 6 = .ok (.iload_n 0, 1) := by decide +kernel
theorem d5_7 : decode prog_130_method_32_code 7 = .ok (.bipush 9, 2) := by decide +kernel
theorem d5_9 : decode prog_130_method_32_code 9 = .ok (.if_icmp .ne 7, 3) := by decide +kernel
theorem d5_12 : decode prog_130_method_32_code 12 = .ok (.iconst 1, 1) := by decide +kernel
theorem d5_13 : decode prog_130_method_32_code 13 = .ok (.goto 4, 3) := by decide +kernel
theorem d5_16 : decode prog_130_method_32_code 16 = .ok (.iconst 0, 1) := by decide +kernel
theorem d5_17 : decode prog_130_method_32_code 17 = .ok (.ireturn, 1) := by decide +kernel
def f5_17 (i0 : Int32) (t0 : Int32) : Int32 := (nar .boolean t0)
def f5_12 (i0 : Int32) : Int32 := (f5_17 i0 (1 : Int32))
def f5_0 (p0 : Int32) : Int32 := (if p0 = (32 : Int32) then (f5_12 p0) else (if p0 = (9 : Int32) then (f5_12 p0) else (f5_17 p0 (0 : Int32))))
set_option maxRecDepth 65536 in
set_option maxHeartbeats 40000000 in
theorem ro5_0 {p : Program} {l : Launch} {e : Env} {s : State} {m : MethodId} {args : Array Value} {below : List Frame} {meth : Method} {c : Code} {T : State} {locs : List Loc} {cells slots : Nat} {Z : State} {a0 : Array Value} {h : Heap} {ce sl : Nat} {Q : Option Value → Heap → List Loc → Prop} (p0 : Int32)
    (X : Stand p l e ({ frames := 0, cells := 0, slots := 0, locals := 0 } : Room) s m args below meth c T locs cells slots) (hx : p.tables.exec = Jvm.exec) (hZ : Z.Warmed39 s.vm) (hw : ∀ d ∈ tables_1, d.before a0 Z = true) (hby : c.code = prog_130_method_32_code) (hml : c.maxLocals = 1) (hown : s.vm.findClass "com/example/fixpoint_checker/fixpointchecker/text/LineCursor" = some m.cls) (hret : meth.sig.returnType = some .boolean) (hlk : meth.locks = false) (eT : T.heap = h) (hc : cells ≤ ce) (hs : slots ≤ sl) (hcR : cells ≤ (({ frames := 0, cells := 0, slots := 0, locals := 0 } : Room)).cells) (hsR : slots ≤ (({ frames := 0, cells := 0, slots := 0, locals := 0 } : Room)).slots)
    (hQ : Q (some (.int (f5_0 p0))) h locs) : OFin p e below s ce sl Q (T.setTop (mkF m 0 #[.val (.int p0)] [])) := by
  obtain ⟨r, hr0⟩ : ∃ r, f5_0 p0 = r := ⟨_, rfl⟩
  rw [hr0] at hQ
  have B17 : ∀ (T : State) (i0 : Int32) (t0 : Int32), Stand p l e ({ frames := 0, cells := 0, slots := 0, locals := 0 } : Room) s m args below meth c T locs cells slots → T.heap = h → f5_17 i0 t0 = r → OFin p e below s ce sl Q (T.setTop (mkF m 17 #[.val (.int i0)] [(.int t0)])) := by
    intro T i0 t0 X eT hr
    exact OFin.retZ X hx (t := .boolean) hret (by simp) hlk (hb hby d5_17) hc hs (own_q (hr) eT hQ)
  have B12 : ∀ (T : State) (i0 : Int32), Stand p l e ({ frames := 0, cells := 0, slots := 0, locals := 0 } : Room) s m args below meth c T locs cells slots → T.heap = h → f5_12 i0 = r → OFin p e below s ce sl Q (T.setTop (mkF m 12 #[.val (.int i0)] [])) := by
    intro T i0 X eT hr
    refine OFin.to (T.setTop (mkF m 13 #[.val (.int i0)] [(.int (1 : Int32))])) (fun _ kt => XS.iconst X.here hx rfl (hb hby d5_12) kt) ?_
    refine OFin.to (T.setTop (mkF m 17 #[.val (.int i0)] [(.int (1 : Int32))])) (fun _ kt => XS.goto X.here hx rfl (pc0 := 13) (pc' := 17) rfl (hb hby d5_13) (by decide) (by decide) kt) ?_
    exact B17 T i0 (1 : Int32) X eT hr
  have B0 : ∀ (T : State) , Stand p l e ({ frames := 0, cells := 0, slots := 0, locals := 0 } : Room) s m args below meth c T locs cells slots → T.heap = h → f5_0 p0 = r → OFin p e below s ce sl Q (T.setTop (mkF m 0 #[.val (.int p0)] [])) := by
    intro T  X eT hr
    refine OFin.to (T.setTop (mkF m 1 #[.val (.int p0)] [(.int p0)])) (fun _ kt => XS.iloadN X.here hx rfl (hb hby d5_0) rfl kt) ?_
    refine OFin.to (T.setTop (mkF m 3 #[.val (.int p0)] [(.int (32 : Int32)), (.int p0)])) (fun _ kt => XS.bipush X.here hx rfl (hb hby d5_1) kt) ?_
    by_cases hc3 : p0 = (32 : Int32)
    · have hr := (if_pos hc3).symm.trans hr
      refine OFin.to (T.setTop (mkF m 12 #[.val (.int p0)] [])) (fun _ kt => XS.icmpYes X.here hx rfl (pc0 := 3) (pc' := 12) rfl (hb hby d5_3) rfl (XT.ii_eq_t hc3) (by decide) (by decide) kt) ?_
      exact B12 T p0 X eT hr
    · have hr := (if_neg hc3).symm.trans hr
      refine OFin.to (T.setTop (mkF m 6 #[.val (.int p0)] [])) (fun _ kt => XS.icmpNo X.here hx rfl (hb hby d5_3) rfl (XT.ii_eq_f hc3) kt) ?_
      refine OFin.to (T.setTop (mkF m 7 #[.val (.int p0)] [(.int p0)])) (fun _ kt => XS.iloadN X.here hx rfl (hb hby d5_6) rfl kt) ?_
      refine OFin.to (T.setTop (mkF m 9 #[.val (.int p0)] [(.int (9 : Int32)), (.int p0)])) (fun _ kt => XS.bipush X.here hx rfl (hb hby d5_7) kt) ?_
      by_cases hc9 : p0 = (9 : Int32)
      · have hr := (if_pos hc9).symm.trans hr
        refine OFin.to (T.setTop (mkF m 12 #[.val (.int p0)] [])) (fun _ kt => XS.icmpNo X.here hx rfl (hb hby d5_9) rfl (XT.ii_ne_f hc9) kt) ?_
        exact B12 T p0 X eT hr
      · have hr := (if_neg hc9).symm.trans hr
        refine OFin.to (T.setTop (mkF m 16 #[.val (.int p0)] [])) (fun _ kt => XS.icmpYes X.here hx rfl (pc0 := 9) (pc' := 16) rfl (hb hby d5_9) rfl (XT.ii_ne_t hc9) (by decide) (by decide) kt) ?_
        refine OFin.to (T.setTop (mkF m 17 #[.val (.int p0)] [(.int (0 : Int32))])) (fun _ kt => XS.iconst X.here hx rfl (hb hby d5_16) kt) ?_
        exact B17 T p0 (0 : Int32) X eT hr
  exact B0 T X eT hr0
theorem pn_5 : plainName "com/example/fixpoint_checker/fixpointchecker/text/LineCursor" = true := by first | (simp [plainName, overriddenIn]; done) | decide +kernel
theorem ef_5 (m : MethodId) (p0 : Int32) : entryFrame m #[(.int p0)] 1 = mkF m 0 #[.val (.int p0)] [] := by first | (simp [entryFrame, mkF, argsToLocals, Value.category]; done) | rfl
set_option maxRecDepth 65536 in
set_option maxHeartbeats 40000000 in
theorem rm5 (l : Launch) (Z : State) (a0 : Array Value) (hw : ∀ d ∈ tables_1, d.before a0 Z = true) (ws : List Jvm.Cond) (p0 : Int32) (h0 : Heap) :
    MetFree l (⟨"com/example/fixpoint_checker/fixpointchecker/text/LineCursor", "isBlank", "(B)Z"⟩ : MethodName) (head1 (Jvm.Cond.code (⟨"com/example/fixpoint_checker/fixpointchecker/text/LineCursor", "isBlank", "(B)Z"⟩ : MethodName) prog_130_method_32_code 1 (some .boolean) :: ws) ({ frames := 0, cells := 0, slots := 0, locals := 0 } : Room)) (fun a_ U => a_ = #[(.int p0)] ∧ Z.Warmed39 U.vm ∧ U.heap = h0) (fun _ _ _ _ _ => True) (fun _ U o_ U' => ∃ v L, o_ = .returned v ∧ OQ (fun v h L => v = some (.int (f5_0 p0)) ∧ h = h0 ∧ L = []) v U'.heap L ∧ FrameEnd U o_ U' L ({ frames := 0, cells := 0, slots := 0, locals := 0 } : Room).cells ({ frames := 0, cells := 0, slots := 0, locals := 0 } : Room).slots) := by
  refine MetFree.of_bodySF (plainFor_of_name pn_5) hisR ?_
  intro p e s m args below meth c s₁ Bd hml0 hP hK
  obtain ⟨rfl, hZ, hh⟩ := hP
  have hx := Bd.exec
  have hby := Bd.bytes
  have hml : c.maxLocals = 1 := hml0
  have hown : s.vm.findClass "com/example/fixpoint_checker/fixpointchecker/text/LineCursor" = some m.cls := findClass_of_methodNamed Bd.named
  have hnm := (name_of_methodNamed Bd.named Bd.method).1
  have hret := Bd.returns
  have hlk : meth.locks = false := Bd.notSynchronized
  have X0 : Stand p l e ({ frames := 0, cells := 0, slots := 0, locals := 0 } : Room) s m #[(.int p0)] below meth c s₁ [] 0 0 := Stand.of_body Bd
  have e0 : s₁.heap = h0 := by rw [← hh, Bd.state]; rfl
  refine OFin.start (Q := fun v h L => v = some (.int (f5_0 p0)) ∧ h = h0 ∧ L = []) (s := s) (fun t kt => castTop (ef_5 m p0) kt) ?_
  exact ro5_0 p0 X0 hx hZ hw hby hml hown hret hlk e0 (Nat.zero_le _) (Nat.zero_le _) (Nat.zero_le _) (Nat.zero_le _)  ⟨rfl, rfl, rfl⟩
theorem d4_0 : decode prog_130_method_27_code 0 = .ok (.iload_n 1, 1) := by decide +kernel
theorem d4_1 : decode prog_130_method_27_code 1 = .ok (.istore_n 2, 1) := by decide +kernel
theorem d4_2 : decode prog_130_method_27_code 2 = .ok (.iload_n 2, 1) := by decide +kernel
theorem d4_3 : decode prog_130_method_27_code 3 = .ok (.aload_n 0, 1) := by decide +kernel
theorem d4_4 : decode prog_130_method_27_code 4 = .ok (.getfield 31, 3) := by decide +kernel
theorem d4_7 : decode prog_130_method_27_code 7 = .ok (.if_icmp .ge 21, 3) := by decide +kernel
theorem d4_10 : decode prog_130_method_27_code 10 = .ok (.aload_n 0, 1) := by decide +kernel
theorem d4_11 : decode prog_130_method_27_code 11 = .ok (.getfield 27, 3) := by decide +kernel
theorem d4_14 : decode prog_130_method_27_code 14 = .ok (.iload_n 2, 1) := by decide +kernel
theorem d4_15 : decode prog_130_method_27_code 15 = .ok (.baload, 1) := by decide +kernel
theorem d4_16 : decode prog_130_method_27_code 16 = .ok (.invokestatic 83, 3) := by decide +kernel
theorem d4_19 : decode prog_130_method_27_code 19 = .ok (.ifCond .eq 9, 3) := by decide +kernel
theorem d4_22 : decode prog_130_method_27_code 22 = .ok (.iinc 2 1, 3) := by decide +kernel
theorem d4_25 : decode prog_130_method_27_code 25 = .ok (.goto (-23), 3) := by decide +kernel
theorem d4_28 : decode prog_130_method_27_code 28 = .ok (.aload_n 0, 1) := by decide +kernel
theorem d4_29 : decode prog_130_method_27_code 29 = .ok (.iload_n 2, 1) := by decide +kernel
theorem d4_30 : decode prog_130_method_27_code 30 = .ok (.putfield 42, 3) := by decide +kernel
theorem d4_33 : decode prog_130_method_27_code 33 = .ok (.return_, 1) := by decide +kernel
theorem pn_4 : plainName "com/example/fixpoint_checker/fixpointchecker/text/LineCursor" = true := by first | (simp [plainName, overriddenIn]; done) | decide +kernel
theorem ef_4 (m : MethodId) (a0 : Addr) (p1 : Int32) : entryFrame m #[(.ref a0), (.int p1)] 3 = mkF m 0 #[.val (.ref a0), .val (.int p1), .unset] [] := by first | (simp [entryFrame, mkF, argsToLocals, Value.category]; done) | rfl
set_option maxRecDepth 65536 in
set_option maxHeartbeats 40000000 in
theorem rm4 (l : Launch) (Z : State) (a0 : Array Value) (hw : ∀ d ∈ tables_1, d.before a0 Z = true) (ws : List Jvm.Cond) (o a : Addr) (len : Nat) (hl : len ≤ 12) (f : Nat → Value) (hb' : ∀ j, j < len → ∃ b, f j = .int b) (u : Value) (h0 : Heap) (n0 : Nat) (g_o : n0 ≤ o) (E_o : Exa Z h0 o "com/example/fixpoint_checker/fixpointchecker/text/LineCursor") (F_line : Fld Z h0 o "com/example/fixpoint_checker/fixpointchecker/text/LineCursor" "line" "[B" (.ref a)) (F_length : Fld Z h0 o "com/example/fixpoint_checker/fixpointchecker/text/LineCursor" "length" "I" (.int (Int32.ofNat len))) (F_position : Fld Z h0 o "com/example/fixpoint_checker/fixpointchecker/text/LineCursor" "position" "I" u) (V0 : OFn Z h0 a .byte 12 f) :
    MetFree l (⟨"com/example/fixpoint_checker/fixpointchecker/text/LineCursor", "skipBlanks", "(I)V"⟩ : MethodName) (head1 (Jvm.Cond.code (⟨"com/example/fixpoint_checker/fixpointchecker/text/LineCursor", "skipBlanks", "(I)V"⟩ : MethodName) prog_130_method_27_code 3 none :: ws) ({ frames := 1, cells := 0, slots := 0, locals := 12 } : Room)) (fun a_ U => a_ = #[(.ref o), (.int (0 : Int32))] ∧ Z.Warmed39 U.vm ∧ U.heap = h0) (fun _ _ _ _ _ => True) (fun _ U o_ U' => ∃ v L, o_ = .returned v ∧ OQ (fun v h L => v = none ∧ Keep h0 h [o] ∧ Fld Z h o "com/example/fixpoint_checker/fixpointchecker/text/LineCursor" "line" "[B" (.ref a) ∧ Fr n0 L) v U'.heap L ∧ FrameEnd U o_ U' L ({ frames := 1, cells := 0, slots := 0, locals := 12 } : Room).cells ({ frames := 1, cells := 0, slots := 0, locals := 12 } : Room).slots) := by
  refine MetFree.of_bodySF (plainFor_of_name pn_4) hisR ?_
  intro p e s m args below meth c s₁ Bd hml0 hP hK
  obtain ⟨rfl, hZ, hh⟩ := hP
  have hx := Bd.exec
  have hby := Bd.bytes
  have hml : c.maxLocals = 3 := hml0
  have hown : s.vm.findClass "com/example/fixpoint_checker/fixpointchecker/text/LineCursor" = some m.cls := findClass_of_methodNamed Bd.named
  have hnm := (name_of_methodNamed Bd.named Bd.method).1
  have hret := Bd.returns
  have hlk : meth.locks = false := Bd.notSynchronized
  have X0 : Stand p l e ({ frames := 1, cells := 0, slots := 0, locals := 12 } : Room) s m #[(.ref o), (.int (0 : Int32))] below meth c s₁ [] 0 0 := Stand.of_body Bd
  have e0 : s₁.heap = h0 := by rw [← hh, Bd.state]; rfl
  refine OFin.start (Q := fun v h L => v = none ∧ Keep h0 h [o] ∧ Fld Z h o "com/example/fixpoint_checker/fixpointchecker/text/LineCursor" "line" "[B" (.ref a) ∧ Fr n0 L) (s := s) (fun t kt => castTop (ef_4 m (o) ((0 : Int32))) kt) ?_
  have EX : ∀ (T : State) (i : Int32), Stand p l e ({ frames := 1, cells := 0, slots := 0, locals := 12 } : Room) s m #[(.ref o), (.int (0 : Int32))] below meth c T [] 0 0 → T.heap = h0 → OFin p e below s ({ frames := 1, cells := 0, slots := 0, locals := 12 } : Room).cells ({ frames := 1, cells := 0, slots := 0, locals := 12 } : Room).slots (fun v h L => v = none ∧ Keep h0 h [o] ∧ Fld Z h o "com/example/fixpoint_checker/fixpointchecker/text/LineCursor" "line" "[B" (.ref a) ∧ Fr n0 L) (T.setTop (mkF m 28 #[.val (.ref o), .val (.int (0 : Int32)), .val (.int i)] [])) := by
    intro T i X eT
    refine OFin.to (T.setTop (mkF m 29 #[.val (.ref o), .val (.int (0 : Int32)), .val (.int i)] [(.ref o)])) (fun _ kt => XS.aloadN X.here hx rfl (hb hby d4_28) rfl rfl kt) ?_
    refine OFin.to (T.setTop (mkF m 30 #[.val (.ref o), .val (.int (0 : Int32)), .val (.int i)] [(.int i), (.ref o)])) (fun _ kt => XS.iloadN X.here hx rfl (hb hby d4_29) rfl kt) ?_
    obtain ⟨T1, h1, X1, e1, W1, st1⟩ := putF X hx hZ hown (host := "") (Or.inl (hw _ (List.mem_of_getElem? (i := 27) rfl))) Via.refl eT F_position E_o (Or.inl (hw _ (List.mem_of_getElem? (i := 28) rfl))) (hw _ (List.mem_of_getElem? (i := 6) rfl)) (ty := .int) (by decide) rfl rfl (g := (mkF m 30 #[.val (.ref o), .val (.int (0 : Int32)), .val (.int i)] [(.int i), (.ref o)])) rfl rfl (hb hby d4_30)
    have E_o_1 := E_o.wr W1
    have F_line_1 := F_line.other W1 (Or.inr (slot_ne (Or.inr (hw _ (List.mem_of_getElem? (i := 15) rfl))) (Or.inl (hw _ (List.mem_of_getElem? (i := 28) rfl))) (by decide) (t := (.array .byte)) (t' := .int) (by decide) (by decide)))
    have F_position_1 := F_position.same W1
    have K1 := (Keep.refl h0 [o]).wr W1 (Or.inl (by simp))
    have N1 := Fr.snoc X1 (Fr.nil n0) g_o
    refine OFin.to (T1.setTop (mkF m 33 #[.val (.ref o), .val (.int (0 : Int32)), .val (.int i)] [])) st1 ?_
    exact OFin.retV X1 hx hret hlk (hb hby d4_33) (Nat.zero_le _) (Nat.zero_le _) ⟨rfl, (by rw [e1]; exact K1), (by rw [e1]; exact F_line_1), N1⟩
  have LP : ∀ (k i : Nat) (T : State), i + k = len → Stand p l e ({ frames := 1, cells := 0, slots := 0, locals := 12 } : Room) s m #[(.ref o), (.int (0 : Int32))] below meth c T [] 0 0 → T.heap = h0 → OFin p e below s ({ frames := 1, cells := 0, slots := 0, locals := 12 } : Room).cells ({ frames := 1, cells := 0, slots := 0, locals := 12 } : Room).slots (fun v h L => v = none ∧ Keep h0 h [o] ∧ Fld Z h o "com/example/fixpoint_checker/fixpointchecker/text/LineCursor" "line" "[B" (.ref a) ∧ Fr n0 L) (T.setTop (mkF m 2 #[.val (.ref o), .val (.int (0 : Int32)), .val (.int (Int32.ofNat i))] [])) := by
    intro k
    induction k with
    | zero =>
      intro i T hi X eT
      refine OFin.to (T.setTop (mkF m 3 #[.val (.ref o), .val (.int (0 : Int32)), .val (.int (Int32.ofNat i))] [(.int (Int32.ofNat i))])) (fun _ kt => XS.iloadN X.here hx rfl (hb hby d4_2) rfl kt) ?_
      refine OFin.to (T.setTop (mkF m 4 #[.val (.ref o), .val (.int (0 : Int32)), .val (.int (Int32.ofNat i))] [(.ref o), (.int (Int32.ofNat i))])) (fun _ kt => XS.aloadN X.here hx rfl (hb hby d4_3) rfl rfl kt) ?_
      obtain ⟨T2, X2, e2, st2⟩ := getF X hx hZ hown (host := "") (Or.inl (hw _ (List.mem_of_getElem? (i := 16) rfl))) Via.refl eT F_length (g := (mkF m 4 #[.val (.ref o), .val (.int (0 : Int32)), .val (.int (Int32.ofNat i))] [(.ref o), (.int (Int32.ofNat i))])) rfl rfl (hb hby d4_4)
      refine OFin.to (T2.setTop (mkF m 7 #[.val (.ref o), .val (.int (0 : Int32)), .val (.int (Int32.ofNat i))] [(.int (Int32.ofNat len)), (.int (Int32.ofNat i))])) st2 ?_
      refine OFin.to (T2.setTop (mkF m 28 #[.val (.ref o), .val (.int (0 : Int32)), .val (.int (Int32.ofNat i))] [])) (fun _ kt => XS.icmpYes X2.here hx rfl (pc0 := 7) (pc' := 28) rfl (hb hby d4_7) rfl (XT.ii_ge_t (fun q => absurd ((own_ofLt i len (by omega) (by omega)).mp q) (by omega))) (by decide) (by decide) kt) ?_
      exact EX T2 _ X2 e2
    | succ k ih =>
      intro i T hi X eT
      obtain ⟨b, hfb⟩ := hb' i (by omega)
      refine OFin.to (T.setTop (mkF m 3 #[.val (.ref o), .val (.int (0 : Int32)), .val (.int (Int32.ofNat i))] [(.int (Int32.ofNat i))])) (fun _ kt => XS.iloadN X.here hx rfl (hb hby d4_2) rfl kt) ?_
      refine OFin.to (T.setTop (mkF m 4 #[.val (.ref o), .val (.int (0 : Int32)), .val (.int (Int32.ofNat i))] [(.ref o), (.int (Int32.ofNat i))])) (fun _ kt => XS.aloadN X.here hx rfl (hb hby d4_3) rfl rfl kt) ?_
      obtain ⟨T3, X3, e3, st3⟩ := getF X hx hZ hown (host := "") (Or.inl (hw _ (List.mem_of_getElem? (i := 16) rfl))) Via.refl eT F_length (g := (mkF m 4 #[.val (.ref o), .val (.int (0 : Int32)), .val (.int (Int32.ofNat i))] [(.ref o), (.int (Int32.ofNat i))])) rfl rfl (hb hby d4_4)
      refine OFin.to (T3.setTop (mkF m 7 #[.val (.ref o), .val (.int (0 : Int32)), .val (.int (Int32.ofNat i))] [(.int (Int32.ofNat len)), (.int (Int32.ofNat i))])) st3 ?_
      refine OFin.to (T3.setTop (mkF m 10 #[.val (.ref o), .val (.int (0 : Int32)), .val (.int (Int32.ofNat i))] [])) (fun _ kt => XS.icmpNo X3.here hx rfl (hb hby d4_7) rfl (XT.ii_ge_f ((own_ofLt i len (by omega) (by omega)).mpr (by omega))) kt) ?_
      refine OFin.to (T3.setTop (mkF m 11 #[.val (.ref o), .val (.int (0 : Int32)), .val (.int (Int32.ofNat i))] [(.ref o)])) (fun _ kt => XS.aloadN X3.here hx rfl (hb hby d4_10) rfl rfl kt) ?_
      obtain ⟨T4, X4, e4, st4⟩ := getF X3 hx hZ hown (host := "") (Or.inl (hw _ (List.mem_of_getElem? (i := 14) rfl))) Via.refl e3 F_line (g := (mkF m 11 #[.val (.ref o), .val (.int (0 : Int32)), .val (.int (Int32.ofNat i))] [(.ref o)])) rfl rfl (hb hby d4_11)
      refine OFin.to (T4.setTop (mkF m 14 #[.val (.ref o), .val (.int (0 : Int32)), .val (.int (Int32.ofNat i))] [(.ref a)])) st4 ?_
      refine OFin.to (T4.setTop (mkF m 15 #[.val (.ref o), .val (.int (0 : Int32)), .val (.int (Int32.ofNat i))] [(.int (Int32.ofNat i)), (.ref a)])) (fun _ kt => XS.iloadN X4.here hx rfl (hb hby d4_14) rfl kt) ?_
      refine OFin.to (T4.setTop (mkF m 16 #[.val (.ref o), .val (.int (0 : Int32)), .val (.int (Int32.ofNat i))] [(.int b)])) (fun _ kt => own_ldB X4 hx hZ e4 V0 (j := Int32.ofNat i) (own_ix i (by omega)).1 (by rw [(own_ix i (by omega)).2, own_rat f (by omega), hfb]) (g := (mkF m 15 #[.val (.ref o), .val (.int (0 : Int32)), .val (.int (Int32.ofNat i))] [(.int (Int32.ofNat i)), (.ref a)])) rfl rfl (hb hby d4_15) _ kt) ?_
      obtain ⟨v5, T5, L5, hQ5, X5, st5⟩ := own_callS X4 hx hZ hown (hw _ (List.mem_of_getElem? (i := 24) rfl)) (hw _ (List.mem_of_getElem? (i := 25) rfl)) (hw _ (List.mem_of_getElem? (i := 7) rfl)) (hw _ (List.mem_of_getElem? (i := 26) rfl)) (by decide) e4 (rm5 l Z a0 hw [] b h0) 0 (by decide) (by decide) (by decide) (by decide) (g := (mkF m 16 #[.val (.ref o), .val (.int (0 : Int32)), .val (.int (Int32.ofNat i))] [(.int b)])) rfl (by rw [hml]; rfl) (rest := []) (lenOf pd_0 rfl) rfl (by show 2 * 0 + _ ≤ _; exact Nat.le_of_eq rfl) (hb hby d4_16)
      obtain ⟨rfl, e5, rfl⟩ := hQ5
      rw [List.append_nil] at X5
      refine OFin.to (T5.setTop (mkF m 19 #[.val (.ref o), .val (.int (0 : Int32)), .val (.int (Int32.ofNat i))] [(.int (f5_0 b))])) st5 ?_
      by_cases hc : (f5_0 b) = (0 : Int32)
      case pos =>
        refine OFin.to (T5.setTop (mkF m 28 #[.val (.ref o), .val (.int (0 : Int32)), .val (.int (Int32.ofNat i))] [])) (fun _ kt => XS.ifYes X5.here hx rfl (pc0 := 19) (pc' := 28) rfl (hb hby d4_19) rfl (XT.i0_eq_t hc) (by decide) (by decide) kt) ?_
        exact EX T5 _ X5 e5
      refine OFin.to (T5.setTop (mkF m 22 #[.val (.ref o), .val (.int (0 : Int32)), .val (.int (Int32.ofNat i))] [])) (fun _ kt => XS.ifNo X5.here hx rfl (hb hby d4_19) rfl (XT.i0_eq_f hc) kt) ?_
      refine OFin.to (T5.setTop (mkF m 25 #[.val (.ref o), .val (.int (0 : Int32)), .val (.int ((Int32.ofNat i) + (1 : Int32)))] [])) (fun _ kt => XS.iinc X5.here hx rfl (hb hby d4_22) rfl (l' := #[.val (.ref o), .val (.int (0 : Int32)), .val (.int ((Int32.ofNat i) + (1 : Int32)))]) rfl kt) ?_
      refine OFin.to (T5.setTop (mkF m 2 #[.val (.ref o), .val (.int (0 : Int32)), .val (.int ((Int32.ofNat i) + (1 : Int32)))] [])) (fun _ kt => XS.goto X5.here hx rfl (pc0 := 25) (pc' := 2) rfl (hb hby d4_25) (by decide) (by decide) kt) ?_
      rw [show Int32.ofNat i + (1 : Int32) = Int32.ofNat (i + 1) from own_ofAdd i 1]
      exact ih (i + 1) T5 (by omega) X5 e5
  refine OFin.to (s₁.setTop (mkF m 1 #[.val (.ref o), .val (.int (0 : Int32)), .unset] [(.int (0 : Int32))])) (fun _ kt => XS.iloadN X0.here hx rfl (hb hby d4_0) rfl kt) ?_
  refine OFin.to (s₁.setTop (mkF m 2 #[.val (.ref o), .val (.int (0 : Int32)), .val (.int (0 : Int32))] [])) (fun _ kt => XS.istoreN X0.here hx rfl (hb hby d4_1) rfl (l' := #[.val (.ref o), .val (.int (0 : Int32)), .val (.int (0 : Int32))]) rfl kt) ?_
  exact LP len 0 s₁ (by omega) X0 e0
theorem d2_0 : decode prog_130_method_3_code 0 = .ok (.aload_n 0, 1) := by decide +kernel
theorem d2_1 : decode prog_130_method_3_code 1 = .ok (.invokespecial 22, 3) := by decide +kernel
theorem d2_4 : decode prog_130_method_3_code 4 = .ok (.aload_n 0, 1) := by decide +kernel
theorem d2_5 : decode prog_130_method_3_code 5 = .ok (.aload_n 1, 1) := by decide +kernel
theorem d2_6 : decode prog_130_method_3_code 6 = .ok (.putfield 27, 3) := by decide +kernel
theorem d2_9 : decode prog_130_method_3_code 9 = .ok (.aload_n 0, 1) := by decide +kernel
theorem d2_10 : decode prog_130_method_3_code 10 = .ok (.iload_n 2, 1) := by decide +kernel
theorem d2_11 : decode prog_130_method_3_code 11 = .ok (.putfield 31, 3) := by decide +kernel
theorem d2_14 : decode prog_130_method_3_code 14 = .ok (.aload_n 0, 1) := by decide +kernel
theorem d2_15 : decode prog_130_method_3_code 15 = .ok (.iload_n 3, 1) := by decide +kernel
theorem d2_16 : decode prog_130_method_3_code 16 = .ok (.putfield 35, 3) := by decide +kernel
theorem d2_19 : decode prog_130_method_3_code 19 = .ok (.aload_n 0, 1) := by decide +kernel
theorem d2_20 : decode prog_130_method_3_code 20 = .ok (.iconst 0, 1) := by decide +kernel
theorem d2_21 : decode prog_130_method_3_code 21 = .ok (.invokevirtual 38, 3) := by decide +kernel
theorem d2_24 : decode prog_130_method_3_code 24 = .ok (.return_, 1) := by decide +kernel
theorem pn_2 : plainName "com/example/fixpoint_checker/fixpointchecker/text/LineCursor" = true := by first | (simp [plainName, overriddenIn]; done) | decide +kernel
theorem ef_2 (m : MethodId) (a0 : Addr) (a1 : Addr) (p2 : Int32) (p3 : Int32) : entryFrame m #[(.ref a0), (.ref a1), (.int p2), (.int p3)] 4 = mkF m 0 #[.val (.ref a0), .val (.ref a1), .val (.int p2), .val (.int p3)] [] := by first | (simp [entryFrame, mkF, argsToLocals, Value.category]; done) | rfl
set_option maxRecDepth 65536 in
set_option maxHeartbeats 40000000 in
theorem rm2 (l : Launch) (Z : State) (a0 : Array Value) (hw : ∀ d ∈ tables_1, d.before a0 Z = true) (ws : List Jvm.Cond) (o a : Addr) (len : Nat) (hl : len ≤ 12) (ln : Int32) (f : Nat → Value) (hb' : ∀ j, j < len → ∃ b, f j = .int b) (h0 : Heap) (n0 : Nat) (g_o : n0 ≤ o) (ne_a_o : a ≠ o) (E_o : Exa Z h0 o "com/example/fixpoint_checker/fixpointchecker/text/LineCursor") (F_line : Fld Z h0 o "com/example/fixpoint_checker/fixpointchecker/text/LineCursor" "line" "[B" .null) (F_length : Fld Z h0 o "com/example/fixpoint_checker/fixpointchecker/text/LineCursor" "length" "I" (.int (0 : Int32))) (F_lineNumber : Fld Z h0 o "com/example/fixpoint_checker/fixpointchecker/text/LineCursor" "lineNumber" "I" (.int (0 : Int32))) (F_position : Fld Z h0 o "com/example/fixpoint_checker/fixpointchecker/text/LineCursor" "position" "I" (.int (0 : Int32))) (V0 : OFn Z h0 a .byte 12 f) :
    MetFree l (⟨"com/example/fixpoint_checker/fixpointchecker/text/LineCursor", "<init>", "([BII)V"⟩ : MethodName) (head1 (Jvm.Cond.code (⟨"com/example/fixpoint_checker/fixpointchecker/text/LineCursor", "<init>", "([BII)V"⟩ : MethodName) prog_130_method_3_code 4 none :: ws) ({ frames := 2, cells := 0, slots := 0, locals := 26 } : Room)) (fun a_ U => a_ = #[(.ref o), (.ref a), (.int (Int32.ofNat len)), (.int ln)] ∧ Z.Warmed39 U.vm ∧ U.heap = h0) (fun _ _ _ _ _ => True) (fun _ U o_ U' => ∃ v L, o_ = .returned v ∧ OQ (fun v h L => v = none ∧ Keep h0 h [o] ∧ Fld Z h o "com/example/fixpoint_checker/fixpointchecker/text/LineCursor" "line" "[B" (.ref a) ∧ Fr n0 L) v U'.heap L ∧ FrameEnd U o_ U' L ({ frames := 2, cells := 0, slots := 0, locals := 26 } : Room).cells ({ frames := 2, cells := 0, slots := 0, locals := 26 } : Room).slots) := by
  refine MetFree.of_bodySF (plainFor_of_name pn_2) hisR ?_
  intro p e s m args below meth c s₁ Bd hml0 hP hK
  obtain ⟨rfl, hZ, hh⟩ := hP
  have hx := Bd.exec
  have hby := Bd.bytes
  have hml : c.maxLocals = 4 := hml0
  have hown : s.vm.findClass "com/example/fixpoint_checker/fixpointchecker/text/LineCursor" = some m.cls := findClass_of_methodNamed Bd.named
  have hnm := (name_of_methodNamed Bd.named Bd.method).1
  have hret := Bd.returns
  have hlk : meth.locks = false := Bd.notSynchronized
  have X0 : Stand p l e ({ frames := 2, cells := 0, slots := 0, locals := 26 } : Room) s m #[(.ref o), (.ref a), (.int (Int32.ofNat len)), (.int ln)] below meth c s₁ [] 0 0 := Stand.of_body Bd
  have e0 : s₁.heap = h0 := by rw [← hh, Bd.state]; rfl
  refine OFin.start (Q := fun v h L => v = none ∧ Keep h0 h [o] ∧ Fld Z h o "com/example/fixpoint_checker/fixpointchecker/text/LineCursor" "line" "[B" (.ref a) ∧ Fr n0 L) (s := s) (fun t kt => castTop (ef_2 m (o) (a) ((Int32.ofNat len)) (ln)) kt) ?_
  refine OFin.to (s₁.setTop (mkF m 1 #[.val (.ref o), .val (.ref a), .val (.int (Int32.ofNat len)), .val (.int ln)] [(.ref o)])) (fun _ kt => XS.aloadN X0.here hx rfl (hb hby d2_0) rfl rfl kt) ?_
  obtain ⟨T1, X1, e1, st1⟩ := initO X0 hx hZ hown (hw _ (List.mem_of_getElem? (i := 11) rfl)) (hw _ (List.mem_of_getElem? (i := 12) rfl)) (hw _ (List.mem_of_getElem? (i := 13) rfl)) e0 (g := (mkF m 1 #[.val (.ref o), .val (.ref a), .val (.int (Int32.ofNat len)), .val (.int ln)] [(.ref o)])) rfl (by rw [hml]; rfl) rfl (hb hby d2_1) (by decide) (W := 0) (by show 2 * 0 + _ ≤ _; exact Nat.le_of_eq rfl) (by decide)
  refine OFin.to (T1.setTop (mkF m 4 #[.val (.ref o), .val (.ref a), .val (.int (Int32.ofNat len)), .val (.int ln)] [])) st1 ?_
  refine OFin.to (T1.setTop (mkF m 5 #[.val (.ref o), .val (.ref a), .val (.int (Int32.ofNat len)), .val (.int ln)] [(.ref o)])) (fun _ kt => XS.aloadN X1.here hx rfl (hb hby d2_4) rfl rfl kt) ?_
  refine OFin.to (T1.setTop (mkF m 6 #[.val (.ref o), .val (.ref a), .val (.int (Int32.ofNat len)), .val (.int ln)] [(.ref a), (.ref o)])) (fun _ kt => XS.aloadN X1.here hx rfl (hb hby d2_5) rfl rfl kt) ?_
  obtain ⟨T2, h2, X2, e2, W2, st2⟩ := putF X1 hx hZ hown (host := "") (Or.inl (hw _ (List.mem_of_getElem? (i := 14) rfl))) Via.refl e1 F_line E_o (Or.inr ⟨(hw _ (List.mem_of_getElem? (i := 15) rfl)), rfl, hnm⟩) (hw _ (List.mem_of_getElem? (i := 6) rfl)) (ty := (.array .byte)) (by decide) rfl rfl (g := (mkF m 6 #[.val (.ref o), .val (.ref a), .val (.int (Int32.ofNat len)), .val (.int ln)] [(.ref a), (.ref o)])) rfl rfl (hb hby d2_6)
  have E_o_2 := E_o.wr W2
  have V0_2 := V0.other W2 ne_a_o
  have F_length_2 := F_length.other W2 (Or.inr (slot_ne (Or.inr (hw _ (List.mem_of_getElem? (i := 17) rfl))) (Or.inr (hw _ (List.mem_of_getElem? (i := 15) rfl))) (by decide) (t := .int) (t' := (.array .byte)) (by decide) (by decide)))
  have F_lineNumber_2 := F_lineNumber.other W2 (Or.inr (slot_ne (Or.inr (hw _ (List.mem_of_getElem? (i := 19) rfl))) (Or.inr (hw _ (List.mem_of_getElem? (i := 15) rfl))) (by decide) (t := .int) (t' := (.array .byte)) (by decide) (by decide)))
  have F_position_2 := F_position.other W2 (Or.inr (slot_ne (Or.inl (hw _ (List.mem_of_getElem? (i := 28) rfl))) (Or.inr (hw _ (List.mem_of_getElem? (i := 15) rfl))) (by decide) (t := .int) (t' := (.array .byte)) (by decide) (by decide)))
  have F_line_2 := F_line.same W2
  have K2 := (Keep.refl h0 [o]).wr W2 (Or.inl (by simp))
  have N2 := Fr.snoc X2 (Fr.nil n0) g_o
  refine OFin.to (T2.setTop (mkF m 9 #[.val (.ref o), .val (.ref a), .val (.int (Int32.ofNat len)), .val (.int ln)] [])) st2 ?_
  refine OFin.to (T2.setTop (mkF m 10 #[.val (.ref o), .val (.ref a), .val (.int (Int32.ofNat len)), .val (.int ln)] [(.ref o)])) (fun _ kt => XS.aloadN X2.here hx rfl (hb hby d2_9) rfl rfl kt) ?_
  refine OFin.to (T2.setTop (mkF m 11 #[.val (.ref o), .val (.ref a), .val (.int (Int32.ofNat len)), .val (.int ln)] [(.int (Int32.ofNat len)), (.ref o)])) (fun _ kt => XS.iloadN X2.here hx rfl (hb hby d2_10) rfl kt) ?_
  obtain ⟨T3, h3, X3, e3, W3, st3⟩ := putF X2 hx hZ hown (host := "") (Or.inl (hw _ (List.mem_of_getElem? (i := 16) rfl))) Via.refl e2 F_length_2 E_o_2 (Or.inr ⟨(hw _ (List.mem_of_getElem? (i := 17) rfl)), rfl, hnm⟩) (hw _ (List.mem_of_getElem? (i := 6) rfl)) (ty := .int) (by decide) rfl rfl (g := (mkF m 11 #[.val (.ref o), .val (.ref a), .val (.int (Int32.ofNat len)), .val (.int ln)] [(.int (Int32.ofNat len)), (.ref o)])) rfl rfl (hb hby d2_11)
  have E_o_3 := E_o_2.wr W3
  have V0_3 := V0_2.other W3 ne_a_o
  have F_line_3 := F_line_2.other W3 (Or.inr (slot_ne (Or.inr (hw _ (List.mem_of_getElem? (i := 15) rfl))) (Or.inr (hw _ (List.mem_of_getElem? (i := 17) rfl))) (by decide) (t := (.array .byte)) (t' := .int) (by decide) (by decide)))
  have F_lineNumber_3 := F_lineNumber_2.other W3 (Or.inr (slot_ne (Or.inr (hw _ (List.mem_of_getElem? (i := 19) rfl))) (Or.inr (hw _ (List.mem_of_getElem? (i := 17) rfl))) (by decide) (t := .int) (t' := .int) (by decide) (by decide)))
  have F_position_3 := F_position_2.other W3 (Or.inr (slot_ne (Or.inl (hw _ (List.mem_of_getElem? (i := 28) rfl))) (Or.inr (hw _ (List.mem_of_getElem? (i := 17) rfl))) (by decide) (t := .int) (t' := .int) (by decide) (by decide)))
  have F_length_3 := F_length_2.same W3
  have K3 := K2.wr W3 (Or.inl (by simp))
  have N3 := Fr.snoc X3 N2 g_o
  refine OFin.to (T3.setTop (mkF m 14 #[.val (.ref o), .val (.ref a), .val (.int (Int32.ofNat len)), .val (.int ln)] [])) st3 ?_
  refine OFin.to (T3.setTop (mkF m 15 #[.val (.ref o), .val (.ref a), .val (.int (Int32.ofNat len)), .val (.int ln)] [(.ref o)])) (fun _ kt => XS.aloadN X3.here hx rfl (hb hby d2_14) rfl rfl kt) ?_
  refine OFin.to (T3.setTop (mkF m 16 #[.val (.ref o), .val (.ref a), .val (.int (Int32.ofNat len)), .val (.int ln)] [(.int ln), (.ref o)])) (fun _ kt => XS.iloadN X3.here hx rfl (hb hby d2_15) rfl kt) ?_
  obtain ⟨T4, h4, X4, e4, W4, st4⟩ := putF X3 hx hZ hown (host := "") (Or.inl (hw _ (List.mem_of_getElem? (i := 18) rfl))) Via.refl e3 F_lineNumber_3 E_o_3 (Or.inr ⟨(hw _ (List.mem_of_getElem? (i := 19) rfl)), rfl, hnm⟩) (hw _ (List.mem_of_getElem? (i := 6) rfl)) (ty := .int) (by decide) rfl rfl (g := (mkF m 16 #[.val (.ref o), .val (.ref a), .val (.int (Int32.ofNat len)), .val (.int ln)] [(.int ln), (.ref o)])) rfl rfl (hb hby d2_16)
  have E_o_4 := E_o_3.wr W4
  have V0_4 := V0_3.other W4 ne_a_o
  have F_line_4 := F_line_3.other W4 (Or.inr (slot_ne (Or.inr (hw _ (List.mem_of_getElem? (i := 15) rfl))) (Or.inr (hw _ (List.mem_of_getElem? (i := 19) rfl))) (by decide) (t := (.array .byte)) (t' := .int) (by decide) (by decide)))
  have F_length_4 := F_length_3.other W4 (Or.inr (slot_ne (Or.inr (hw _ (List.mem_of_getElem? (i := 17) rfl))) (Or.inr (hw _ (List.mem_of_getElem? (i := 19) rfl))) (by decide) (t := .int) (t' := .int) (by decide) (by decide)))
  have F_position_4 := F_position_3.other W4 (Or.inr (slot_ne (Or.inl (hw _ (List.mem_of_getElem? (i := 28) rfl))) (Or.inr (hw _ (List.mem_of_getElem? (i := 19) rfl))) (by decide) (t := .int) (t' := .int) (by decide) (by decide)))
  have F_lineNumber_4 := F_lineNumber_3.same W4
  have K4 := K3.wr W4 (Or.inl (by simp))
  have N4 := Fr.snoc X4 N3 g_o
  refine OFin.to (T4.setTop (mkF m 19 #[.val (.ref o), .val (.ref a), .val (.int (Int32.ofNat len)), .val (.int ln)] [])) st4 ?_
  refine OFin.to (T4.setTop (mkF m 20 #[.val (.ref o), .val (.ref a), .val (.int (Int32.ofNat len)), .val (.int ln)] [(.ref o)])) (fun _ kt => XS.aloadN X4.here hx rfl (hb hby d2_19) rfl rfl kt) ?_
  refine OFin.to (T4.setTop (mkF m 21 #[.val (.ref o), .val (.ref a), .val (.int (Int32.ofNat len)), .val (.int ln)] [(.int (0 : Int32)), (.ref o)])) (fun _ kt => XS.iconst X4.here hx rfl (hb hby d2_20) kt) ?_
  obtain ⟨v5, T5, L5, hQ5, X5, st5⟩ := own_callP X4 hx hZ hown (hw _ (List.mem_of_getElem? (i := 20) rfl)) (own_selP hZ (hw _ (List.mem_of_getElem? (i := 32) rfl)) rfl (hw _ (List.mem_of_getElem? (i := 22) rfl)) (hw _ (List.mem_of_getElem? (i := 21) rfl)) (by decide)) (hw _ (List.mem_of_getElem? (i := 22) rfl)) (hw _ (List.mem_of_getElem? (i := 21) rfl)) (hw _ (List.mem_of_getElem? (i := 23) rfl)) (hw _ (List.mem_of_getElem? (i := 7) rfl)) (by decide) e4 E_o_4 (rm4 l Z a0 hw [] o a len hl f hb' _ h4 n0 g_o E_o_4 F_line_4 F_length_4 F_position_4 V0_4) 0 (by decide) (by decide) (by decide) (by decide) (g := (mkF m 21 #[.val (.ref o), .val (.ref a), .val (.int (Int32.ofNat len)), .val (.int ln)] [(.int (0 : Int32)), (.ref o)])) rfl (by rw [hml]; rfl) (rest := []) (lenOf pd_1 rfl) rfl (by show 2 * 0 + _ ≤ _; exact Nat.le_of_eq rfl) (hb hby d2_21)
  obtain ⟨rfl, KQ, FQ, NQ⟩ := hQ5
  refine OFin.to (T5.setTop (mkF m 24 #[.val (.ref o), .val (.ref a), .val (.int (Int32.ofNat len)), .val (.int ln)] [])) st5 ?_
  exact OFin.retV X5 hx hret hlk (hb hby d2_24) (Nat.zero_le _) (Nat.zero_le _) ⟨rfl, K4.trans KQ (fun x hx => Or.inl hx), FQ, Fr.app N4 NQ⟩
theorem d6_0 : decode prog_130_method_24_code 0 = .ok (.iconst 1, 1) := by decide +kernel
theorem d6_1 : decode prog_130_method_24_code 1 = .ok (.istore_n 2, 1) := by decide +kernel
theorem d6_2 : decode prog_130_method_24_code 2 = .ok (.iconst 0, 1) := by decide +kernel
theorem d6_3 : decode prog_130_method_24_code 3 = .ok (.istore_n 3, 1) := by decide +kernel
theorem d6_4 : decode prog_130_method_24_code 4 = .ok (.iload_n 3, 1) := by decide +kernel
theorem d6_5 : decode prog_130_method_24_code 5 = .ok (.iload_n 1, 1) := by decide +kernel
theorem d6_6 : decode prog_130_method_24_code 6 = .ok (.if_icmp .ge 28, 3) := by decide +kernel
theorem d6_9 : decode prog_130_method_24_code 9 = .ok (.aload_n 0, 1) := by decide +kernel
theorem d6_10 : decode prog_130_method_24_code 10 = .ok (.getfield 27, 3) := by decide +kernel
theorem d6_13 : decode prog_130_method_24_code 13 = .ok (.iload_n 3, 1) := by decide +kernel
theorem d6_14 : decode prog_130_method_24_code 14 = .ok (.baload, 1) := by decide +kernel
theorem d6_15 : decode prog_130_method_24_code 15 = .ok (.sipush 192, 3) := by decide +kernel
theorem d6_18 : decode prog_130_method_24_code 18 = .ok (.iand, 1) := by decide +kernel
theorem d6_19 : decode prog_130_method_24_code 19 = .ok (.sipush 128, 3) := by decide +kernel
theorem d6_22 : decode prog_130_method_24_code 22 = .ok (.if_icmp .eq 6, 3) := by decide +kernel
theorem d6_25 : decode prog_130_method_24_code 25 = .ok (.iinc 2 1, 3) := by decide +kernel
theorem d6_28 : decode prog_130_method_24_code 28 = .ok (.iinc 3 1, 3) := by decide +kernel
theorem d6_31 : decode prog_130_method_24_code 31 = .ok (.goto (-27), 3) := by decide +kernel
theorem d6_34 : decode prog_130_method_24_code 34 = .ok (.iload_n 2, 1) := by decide +kernel
theorem d6_35 : decode prog_130_method_24_code 35 = .ok (.ireturn, 1) := by decide +kernel
theorem pn_6 : plainName "com/example/fixpoint_checker/fixpointchecker/text/LineCursor" = true := by first | (simp [plainName, overriddenIn]; done) | decide +kernel
theorem ef_6 (m : MethodId) (a0 : Addr) (p1 : Int32) : entryFrame m #[(.ref a0), (.int p1)] 4 = mkF m 0 #[.val (.ref a0), .val (.int p1), .unset, .unset] [] := by first | (simp [entryFrame, mkF, argsToLocals, Value.category]; done) | rfl
set_option maxRecDepth 65536 in
set_option maxHeartbeats 40000000 in
theorem rm6 (l : Launch) (Z : State) (a0 : Array Value) (hw : ∀ d ∈ tables_1, d.before a0 Z = true) (ws : List Jvm.Cond) (o a : Addr) (n : Nat) (hn : n ≤ 12) (f : Nat → Value) (hb' : ∀ j, j < n → ∃ b, f j = .int b) (h0 : Heap) (F_line : Fld Z h0 o "com/example/fixpoint_checker/fixpointchecker/text/LineCursor" "line" "[B" (.ref a)) (V0 : OFn Z h0 a .byte 12 f) :
    MetFree l (⟨"com/example/fixpoint_checker/fixpointchecker/text/LineCursor", "getColumn", "(I)I"⟩ : MethodName) (head1 (Jvm.Cond.code (⟨"com/example/fixpoint_checker/fixpointchecker/text/LineCursor", "getColumn", "(I)I"⟩ : MethodName) prog_130_method_24_code 4 (some .int) :: ws) ({ frames := 0, cells := 0, slots := 0, locals := 0 } : Room)) (fun a_ U => a_ = #[(.ref o), (.int (Int32.ofNat n))] ∧ Z.Warmed39 U.vm ∧ U.heap = h0) (fun _ _ _ _ _ => True) (fun _ U o_ U' => ∃ v L, o_ = .returned v ∧ OQ (fun v h L => v = some (.int (Int32.ofNat (own_cnt f n + 1))) ∧ h = h0 ∧ L = []) v U'.heap L ∧ FrameEnd U o_ U' L ({ frames := 0, cells := 0, slots := 0, locals := 0 } : Room).cells ({ frames := 0, cells := 0, slots := 0, locals := 0 } : Room).slots) := by
  refine MetFree.of_bodySF (plainFor_of_name pn_6) hisR ?_
  intro p e s m args below meth c s₁ Bd hml0 hP hK
  obtain ⟨rfl, hZ, hh⟩ := hP
  have hx := Bd.exec
  have hby := Bd.bytes
  have hml : c.maxLocals = 4 := hml0
  have hown : s.vm.findClass "com/example/fixpoint_checker/fixpointchecker/text/LineCursor" = some m.cls := findClass_of_methodNamed Bd.named
  have hnm := (name_of_methodNamed Bd.named Bd.method).1
  have hret := Bd.returns
  have hlk : meth.locks = false := Bd.notSynchronized
  have X0 : Stand p l e ({ frames := 0, cells := 0, slots := 0, locals := 0 } : Room) s m #[(.ref o), (.int (Int32.ofNat n))] below meth c s₁ [] 0 0 := Stand.of_body Bd
  have e0 : s₁.heap = h0 := by rw [← hh, Bd.state]; rfl
  refine OFin.start (Q := fun v h L => v = some (.int (Int32.ofNat (own_cnt f n + 1))) ∧ h = h0 ∧ L = []) (s := s) (fun t kt => castTop (ef_6 m (o) ((Int32.ofNat n))) kt) ?_
  have LP : ∀ (k i : Nat) (T : State), i + k = n → Stand p l e ({ frames := 0, cells := 0, slots := 0, locals := 0 } : Room) s m #[(.ref o), (.int (Int32.ofNat n))] below meth c T [] 0 0 → T.heap = h0 → OFin p e below s ({ frames := 0, cells := 0, slots := 0, locals := 0 } : Room).cells ({ frames := 0, cells := 0, slots := 0, locals := 0 } : Room).slots (fun v h L => v = some (.int (Int32.ofNat (own_cnt f n + 1))) ∧ h = h0 ∧ L = []) (T.setTop (mkF m 4 #[.val (.ref o), .val (.int (Int32.ofNat n)), .val (.int (Int32.ofNat (own_cnt f i + 1))), .val (.int (Int32.ofNat i))] [])) := by
    intro k
    induction k with
    | zero =>
      intro i T hi X eT
      obtain rfl : i = n := by omega
      refine OFin.to (T.setTop (mkF m 5 #[.val (.ref o), .val (.int (Int32.ofNat i)), .val (.int (Int32.ofNat (own_cnt f i + 1))), .val (.int (Int32.ofNat i))] [(.int (Int32.ofNat i))])) (fun _ kt => XS.iloadN X.here hx rfl (hb hby d6_4) rfl kt) ?_
      refine OFin.to (T.setTop (mkF m 6 #[.val (.ref o), .val (.int (Int32.ofNat i)), .val (.int (Int32.ofNat (own_cnt f i + 1))), .val (.int (Int32.ofNat i))] [(.int (Int32.ofNat i)), (.int (Int32.ofNat i))])) (fun _ kt => XS.iloadN X.here hx rfl (hb hby d6_5) rfl kt) ?_
      refine OFin.to (T.setTop (mkF m 34 #[.val (.ref o), .val (.int (Int32.ofNat i)), .val (.int (Int32.ofNat (own_cnt f i + 1))), .val (.int (Int32.ofNat i))] [])) (fun _ kt => XS.icmpYes X.here hx rfl (pc0 := 6) (pc' := 34) rfl (hb hby d6_6) rfl (XT.ii_ge_t Int32.lt_irrefl) (by decide) (by decide) kt) ?_
      refine OFin.to (T.setTop (mkF m 35 #[.val (.ref o), .val (.int (Int32.ofNat i)), .val (.int (Int32.ofNat (own_cnt f i + 1))), .val (.int (Int32.ofNat i))] [(.int (Int32.ofNat (own_cnt f i + 1)))])) (fun _ kt => XS.iloadN X.here hx rfl (hb hby d6_34) rfl kt) ?_
      exact OFin.retI X hx hret hlk (hb hby d6_35) (Nat.zero_le _) (Nat.zero_le _) ⟨rfl, eT, rfl⟩
    | succ k ih =>
      intro i T hi X eT
      obtain ⟨b, hfb⟩ := hb' i (by omega)
      refine OFin.to (T.setTop (mkF m 5 #[.val (.ref o), .val (.int (Int32.ofNat n)), .val (.int (Int32.ofNat (own_cnt f i + 1))), .val (.int (Int32.ofNat i))] [(.int (Int32.ofNat i))])) (fun _ kt => XS.iloadN X.here hx rfl (hb hby d6_4) rfl kt) ?_
      refine OFin.to (T.setTop (mkF m 6 #[.val (.ref o), .val (.int (Int32.ofNat n)), .val (.int (Int32.ofNat (own_cnt f i + 1))), .val (.int (Int32.ofNat i))] [(.int (Int32.ofNat n)), (.int (Int32.ofNat i))])) (fun _ kt => XS.iloadN X.here hx rfl (hb hby d6_5) rfl kt) ?_
      refine OFin.to (T.setTop (mkF m 9 #[.val (.ref o), .val (.int (Int32.ofNat n)), .val (.int (Int32.ofNat (own_cnt f i + 1))), .val (.int (Int32.ofNat i))] [])) (fun _ kt => XS.icmpNo X.here hx rfl (hb hby d6_6) rfl (XT.ii_ge_f ((own_ofLt i n (by omega) (by omega)).mpr (by omega))) kt) ?_
      refine OFin.to (T.setTop (mkF m 10 #[.val (.ref o), .val (.int (Int32.ofNat n)), .val (.int (Int32.ofNat (own_cnt f i + 1))), .val (.int (Int32.ofNat i))] [(.ref o)])) (fun _ kt => XS.aloadN X.here hx rfl (hb hby d6_9) rfl rfl kt) ?_
      obtain ⟨T1, X1, e1, st1⟩ := getF X hx hZ hown (host := "") (Or.inl (hw _ (List.mem_of_getElem? (i := 14) rfl))) Via.refl eT F_line (g := (mkF m 10 #[.val (.ref o), .val (.int (Int32.ofNat n)), .val (.int (Int32.ofNat (own_cnt f i + 1))), .val (.int (Int32.ofNat i))] [(.ref o)])) rfl rfl (hb hby d6_10)
      refine OFin.to (T1.setTop (mkF m 13 #[.val (.ref o), .val (.int (Int32.ofNat n)), .val (.int (Int32.ofNat (own_cnt f i + 1))), .val (.int (Int32.ofNat i))] [(.ref a)])) st1 ?_
      refine OFin.to (T1.setTop (mkF m 14 #[.val (.ref o), .val (.int (Int32.ofNat n)), .val (.int (Int32.ofNat (own_cnt f i + 1))), .val (.int (Int32.ofNat i))] [(.int (Int32.ofNat i)), (.ref a)])) (fun _ kt => XS.iloadN X1.here hx rfl (hb hby d6_13) rfl kt) ?_
      refine OFin.to (T1.setTop (mkF m 15 #[.val (.ref o), .val (.int (Int32.ofNat n)), .val (.int (Int32.ofNat (own_cnt f i + 1))), .val (.int (Int32.ofNat i))] [(.int b)])) (fun _ kt => own_ldB X1 hx hZ e1 V0 (j := Int32.ofNat i) (own_ix i (by omega)).1 (by rw [(own_ix i (by omega)).2, own_rat f (by omega), hfb]) (g := (mkF m 14 #[.val (.ref o), .val (.int (Int32.ofNat n)), .val (.int (Int32.ofNat (own_cnt f i + 1))), .val (.int (Int32.ofNat i))] [(.int (Int32.ofNat i)), (.ref a)])) rfl rfl (hb hby d6_14) _ kt) ?_
      refine OFin.to (T1.setTop (mkF m 18 #[.val (.ref o), .val (.int (Int32.ofNat n)), .val (.int (Int32.ofNat (own_cnt f i + 1))), .val (.int (Int32.ofNat i))] [(.int (192 : Int32)), (.int b)])) (fun _ kt => XS.sipush X1.here hx rfl (hb hby d6_15) kt) ?_
      refine OFin.to (T1.setTop (mkF m 19 #[.val (.ref o), .val (.int (Int32.ofNat n)), .val (.int (Int32.ofNat (own_cnt f i + 1))), .val (.int (Int32.ofNat i))] [(.int (b &&& (192 : Int32)))])) (fun _ kt => XS.iand X1.here hx rfl (hb hby d6_18) rfl kt) ?_
      refine OFin.to (T1.setTop (mkF m 22 #[.val (.ref o), .val (.int (Int32.ofNat n)), .val (.int (Int32.ofNat (own_cnt f i + 1))), .val (.int (Int32.ofNat i))] [(.int (128 : Int32)), (.int (b &&& (192 : Int32)))])) (fun _ kt => XS.sipush X1.here hx rfl (hb hby d6_19) kt) ?_
      by_cases hc : (b &&& (192 : Int32)) = (128 : Int32)
      case pos =>
        refine OFin.to (T1.setTop (mkF m 28 #[.val (.ref o), .val (.int (Int32.ofNat n)), .val (.int (Int32.ofNat (own_cnt f i + 1))), .val (.int (Int32.ofNat i))] [])) (fun _ kt => XS.icmpYes X1.here hx rfl (pc0 := 22) (pc' := 28) rfl (hb hby d6_22) rfl (XT.ii_eq_t hc) (by decide) (by decide) kt) ?_
        refine OFin.to (T1.setTop (mkF m 31 #[.val (.ref o), .val (.int (Int32.ofNat n)), .val (.int (Int32.ofNat (own_cnt f i + 1))), .val (.int ((Int32.ofNat i) + (1 : Int32)))] [])) (fun _ kt => XS.iinc X1.here hx rfl (hb hby d6_28) rfl (l' := #[.val (.ref o), .val (.int (Int32.ofNat n)), .val (.int (Int32.ofNat (own_cnt f i + 1))), .val (.int ((Int32.ofNat i) + (1 : Int32)))]) rfl kt) ?_
        refine OFin.to (T1.setTop (mkF m 4 #[.val (.ref o), .val (.int (Int32.ofNat n)), .val (.int (Int32.ofNat (own_cnt f i + 1))), .val (.int ((Int32.ofNat i) + (1 : Int32)))] [])) (fun _ kt => XS.goto X1.here hx rfl (pc0 := 31) (pc' := 4) rfl (hb hby d6_31) (by decide) (by decide) kt) ?_
        rw [show Int32.ofNat i + (1 : Int32) = Int32.ofNat (i + 1) from own_ofAdd i 1, own_cntY f i b hfb hc]
        exact ih (i + 1) T1 (by omega) X1 e1
      refine OFin.to (T1.setTop (mkF m 25 #[.val (.ref o), .val (.int (Int32.ofNat n)), .val (.int (Int32.ofNat (own_cnt f i + 1))), .val (.int (Int32.ofNat i))] [])) (fun _ kt => XS.icmpNo X1.here hx rfl (hb hby d6_22) rfl (XT.ii_eq_f hc) kt) ?_
      refine OFin.to (T1.setTop (mkF m 28 #[.val (.ref o), .val (.int (Int32.ofNat n)), .val (.int ((Int32.ofNat (own_cnt f i + 1)) + (1 : Int32))), .val (.int (Int32.ofNat i))] [])) (fun _ kt => XS.iinc X1.here hx rfl (hb hby d6_25) rfl (l' := #[.val (.ref o), .val (.int (Int32.ofNat n)), .val (.int ((Int32.ofNat (own_cnt f i + 1)) + (1 : Int32))), .val (.int (Int32.ofNat i))]) rfl kt) ?_
      refine OFin.to (T1.setTop (mkF m 31 #[.val (.ref o), .val (.int (Int32.ofNat n)), .val (.int ((Int32.ofNat (own_cnt f i + 1)) + (1 : Int32))), .val (.int ((Int32.ofNat i) + (1 : Int32)))] [])) (fun _ kt => XS.iinc X1.here hx rfl (hb hby d6_28) rfl (l' := #[.val (.ref o), .val (.int (Int32.ofNat n)), .val (.int ((Int32.ofNat (own_cnt f i + 1)) + (1 : Int32))), .val (.int ((Int32.ofNat i) + (1 : Int32)))]) rfl kt) ?_
      refine OFin.to (T1.setTop (mkF m 4 #[.val (.ref o), .val (.int (Int32.ofNat n)), .val (.int ((Int32.ofNat (own_cnt f i + 1)) + (1 : Int32))), .val (.int ((Int32.ofNat i) + (1 : Int32)))] [])) (fun _ kt => XS.goto X1.here hx rfl (pc0 := 31) (pc' := 4) rfl (hb hby d6_31) (by decide) (by decide) kt) ?_
      rw [show Int32.ofNat i + (1 : Int32) = Int32.ofNat (i + 1) from own_ofAdd i 1, own_cntN f i b hfb hc]
      exact ih (i + 1) T1 (by omega) X1 e1
  refine OFin.to (s₁.setTop (mkF m 1 #[.val (.ref o), .val (.int (Int32.ofNat n)), .unset, .unset] [(.int (1 : Int32))])) (fun _ kt => XS.iconst X0.here hx rfl (hb hby d6_0) kt) ?_
  refine OFin.to (s₁.setTop (mkF m 2 #[.val (.ref o), .val (.int (Int32.ofNat n)), .val (.int (1 : Int32)), .unset] [])) (fun _ kt => XS.istoreN X0.here hx rfl (hb hby d6_1) rfl (l' := #[.val (.ref o), .val (.int (Int32.ofNat n)), .val (.int (1 : Int32)), .unset]) rfl kt) ?_
  refine OFin.to (s₁.setTop (mkF m 3 #[.val (.ref o), .val (.int (Int32.ofNat n)), .val (.int (1 : Int32)), .unset] [(.int (0 : Int32))])) (fun _ kt => XS.iconst X0.here hx rfl (hb hby d6_2) kt) ?_
  refine OFin.to (s₁.setTop (mkF m 4 #[.val (.ref o), .val (.int (Int32.ofNat n)), .val (.int (1 : Int32)), .val (.int (0 : Int32))] [])) (fun _ kt => XS.istoreN X0.here hx rfl (hb hby d6_3) rfl (l' := #[.val (.ref o), .val (.int (Int32.ofNat n)), .val (.int (1 : Int32)), .val (.int (0 : Int32))]) rfl kt) ?_
  exact LP n 0 s₁ (by omega) X0 e0
theorem pn_0 : plainName "com/example/fixpoint_checker/fixpointchecker/text/LineCursorGetColumnPinLaw" = true := by first | (simp [plainName, overriddenIn]; done) | decide +kernel
theorem ef_0 (m : MethodId) (p0 : Int32) (p1 : Int32) (p2 : Int32) (p3 : Int32) : entryFrame m #[(.int p0), (.int p1), (.int p2), (.int p3)] maxLocals = mkF m 0 #[.val (.int p0), .val (.int p1), .val (.int p2), .val (.int p3), .unset, .unset, .unset, .unset, .unset] [] := by first | (simp [entryFrame, mkF, argsToLocals, Value.category, maxLocals]; done) | rfl
set_option maxRecDepth 65536 in
set_option maxHeartbeats 40000000 in
theorem rm0 (l : Launch) (Z : State) (a0 : Array Value) (hw : ∀ d ∈ tables_1, d.before a0 Z = true) (ws : List Jvm.Cond) (p0 : Int32) (p1 : Int32) (p2 : Int32) (p3 : Int32) (h0 : Heap) :
    MetFree l x (head1 (Jvm.Cond.code x code maxLocals ret :: ws) (room_1)) (fun a_ U => a_ = #[(.int p0), (.int p1), (.int p2), (.int p3)] ∧ Z.Warmed39 U.vm ∧ U.heap = h0) (fun _ _ _ _ _ => True) (fun _ U o_ U' => ∃ v L, o_ = .returned v ∧ OQ (fun v h L => v = some (.int (1 : Int32)) ∧ Fr h0.size L) v U'.heap L ∧ FrameEnd U o_ U' L (room_1).cells (room_1).slots) := by
  refine MetFree.of_bodySF (plainFor_of_name pn_0) hisR ?_
  intro p e s m args below meth c s₁ Bd hml0 hP hK
  obtain ⟨rfl, hZ, hh⟩ := hP
  have hx := Bd.exec
  have hby := Bd.bytes
  have hml : c.maxLocals = 9 := hml0
  have hown : s.vm.findClass "com/example/fixpoint_checker/fixpointchecker/text/LineCursorGetColumnPinLaw" = some m.cls := findClass_of_methodNamed Bd.named
  have hnm := (name_of_methodNamed Bd.named Bd.method).1
  have hret := Bd.returns
  have hlk : meth.locks = false := Bd.notSynchronized
  have X0 : Stand p l e (room_1) s m #[(.int p0), (.int p1), (.int p2), (.int p3)] below meth c s₁ [] 0 0 := Stand.of_body Bd
  have e0 : s₁.heap = h0 := by rw [← hh, Bd.state]; rfl
  refine OFin.start (Q := fun v h L => v = some (.int (1 : Int32)) ∧ Fr h0.size L) (s := s) (fun t kt => castTop (ef_0 m p0 p1 p2 p3) kt) ?_
  have N0 := Fr.nil h0.size
  have Z0 : h0.size ≤ h0.size := Nat.le_refl _
  refine OFin.to (s₁.setTop (mkF m 2 #[.val (.int p0), .val (.int p1), .val (.int p2), .val (.int p3), .unset, .unset, .unset, .unset, .unset] [(.int (12 : Int32))])) (fun _ kt => XS.bipush X0.here hx rfl (hb hby at_0) kt) ?_
  obtain ⟨T1, h1, X1, e1, E1, V1, st1⟩ := own_newP X0 hx hZ (hw _ (List.mem_of_getElem? (i := 0) rfl)) e0 (g := (mkF m 2 #[.val (.int p0), .val (.int p1), .val (.int p2), .val (.int p3), .unset, .unset, .unset, .unset, .unset] [(.int (12 : Int32))])) rfl (hb hby at_2) rfl (by decide) 12 rfl (cap := 12) (Nat.le_refl _) (by decide) (by decide) (by decide)
  obtain ⟨b1, g1⟩ : ∃ z, z = h0.size := ⟨_, rfl⟩
  rw [← g1] at V1 st1
  have g_b1 : h0.size ≤ b1 := by rw [g1]; exact Z0
  have Z1 := Nat.le_trans Z0 E1.1
  have V_b1 : OArr Z h1 b1 .byte [(.int (0 : Int32)), (.int (0 : Int32)), (.int (0 : Int32)), (.int (0 : Int32)), (.int (0 : Int32)), (.int (0 : Int32)), (.int (0 : Int32)), (.int (0 : Int32)), (.int (0 : Int32)), (.int (0 : Int32)), (.int (0 : Int32)), (.int (0 : Int32))] := V1
  refine OFin.to (T1.setTop (mkF m 4 #[.val (.int p0), .val (.int p1), .val (.int p2), .val (.int p3), .unset, .unset, .unset, .unset, .unset] [(.ref b1)])) st1 ?_
  have V0 : OFn Z h1 b1 .byte 12 (fun _ => .int 0) := V_b1
  refine OFin.to (T1.setTop (mkF m 6 #[.val (.int p0), .val (.int p1), .val (.int p2), .val (.int p3), .val (.ref b1), .unset, .unset, .unset, .unset] [])) (fun _ kt => XS.astore X1.here hx rfl (hb hby at_4) rfl rfl (l' := #[.val (.int p0), .val (.int p1), .val (.int p2), .val (.int p3), .val (.ref b1), .unset, .unset, .unset, .unset]) rfl kt) ?_
  refine OFin.to (T1.setTop (mkF m 8 #[.val (.int p0), .val (.int p1), .val (.int p2), .val (.int p3), .val (.ref b1), .unset, .unset, .unset, .unset] [(.ref b1)])) (fun _ kt => XS.aload X1.here hx rfl (hb hby at_6) rfl rfl kt) ?_
  refine OFin.to (T1.setTop (mkF m 9 #[.val (.int p0), .val (.int p1), .val (.int p2), .val (.int p3), .val (.ref b1), .unset, .unset, .unset, .unset] [(.int (0 : Int32)), (.ref b1)])) (fun _ kt => XS.iconst X1.here hx rfl (hb hby at_8) kt) ?_
  refine OFin.to (T1.setTop (mkF m 10 #[.val (.int p0), .val (.int p1), .val (.int p2), .val (.int p3), .val (.ref b1), .unset, .unset, .unset, .unset] [(.int p0), (.int (0 : Int32)), (.ref b1)])) (fun _ kt => XS.iloadN X1.here hx rfl (hb hby at_9) rfl kt) ?_
  obtain ⟨v2, T2, L2, hQ2, X2, st2⟩ := own_callS X1 hx hZ hown (hw _ (List.mem_of_getElem? (i := 1) rfl)) (hw _ (List.mem_of_getElem? (i := 2) rfl)) (hw _ (List.mem_of_getElem? (i := 3) rfl)) (hw _ (List.mem_of_getElem? (i := 4) rfl)) (by decide) e1 (rm1 l Z a0 hw [] b1 0 (by decide) p0 _ h1 h0.size g_b1 V0) 0 (by decide) (by decide) (by decide) (by decide) (g := (mkF m 10 #[.val (.int p0), .val (.int p1), .val (.int p2), .val (.int p3), .val (.ref b1), .unset, .unset, .unset, .unset] [(.int p0), (.int (0 : Int32)), (.ref b1)])) rfl (by rw [hml]; rfl) (rest := []) (lenOf pd_2 rfl) rfl (by show 2 * 0 + _ ≤ _; exact Nat.le_of_eq rfl) (hb hby at_10)
  obtain ⟨na, fa, rfl, la, ua, Va, Aa, Ba, Ca, Ka, Ma⟩ := hQ2
  refine OFin.to (T2.setTop (mkF m 13 #[.val (.int p0), .val (.int p1), .val (.int p2), .val (.int p3), .val (.ref b1), .unset, .unset, .unset, .unset] [(.int (Int32.ofNat na))])) st2 ?_
  have Naq := Fr.app N0 Ma
  refine OFin.to (T2.setTop (mkF m 15 #[.val (.int p0), .val (.int p1), .val (.int p2), .val (.int p3), .val (.ref b1), .val (.int (Int32.ofNat na)), .unset, .unset, .unset] [])) (fun _ kt => XS.istore X2.here hx rfl (hb hby at_13) rfl (l' := #[.val (.int p0), .val (.int p1), .val (.int p2), .val (.int p3), .val (.ref b1), .val (.int (Int32.ofNat na)), .unset, .unset, .unset]) rfl kt) ?_
  refine OFin.to (T2.setTop (mkF m 17 #[.val (.int p0), .val (.int p1), .val (.int p2), .val (.int p3), .val (.ref b1), .val (.int (Int32.ofNat na)), .unset, .unset, .unset] [(.int (Int32.ofNat na))])) (fun _ kt => XS.iload X2.here hx rfl (hb hby at_15) rfl kt) ?_
  refine OFin.to (T2.setTop (mkF m 19 #[.val (.int p0), .val (.int p1), .val (.int p2), .val (.int p3), .val (.ref b1), .val (.int (Int32.ofNat na)), .unset, .unset, .unset] [(.ref b1), (.int (Int32.ofNat na))])) (fun _ kt => XS.aload X2.here hx rfl (hb hby at_17) rfl rfl kt) ?_
  refine OFin.to (T2.setTop (mkF m 21 #[.val (.int p0), .val (.int p1), .val (.int p2), .val (.int p3), .val (.ref b1), .val (.int (Int32.ofNat na)), .unset, .unset, .unset] [(.int (Int32.ofNat na)), (.ref b1), (.int (Int32.ofNat na))])) (fun _ kt => XS.iload X2.here hx rfl (hb hby at_19) rfl kt) ?_
  refine OFin.to (T2.setTop (mkF m 22 #[.val (.int p0), .val (.int p1), .val (.int p2), .val (.int p3), .val (.ref b1), .val (.int (Int32.ofNat na)), .unset, .unset, .unset] [(.int p1), (.int (Int32.ofNat na)), (.ref b1), (.int (Int32.ofNat na))])) (fun _ kt => XS.iloadN X2.here hx rfl (hb hby at_21) rfl kt) ?_
  obtain ⟨v3, T3, L3, hQ3, X3, st3⟩ := own_callS X2 hx hZ hown (hw _ (List.mem_of_getElem? (i := 1) rfl)) (hw _ (List.mem_of_getElem? (i := 2) rfl)) (hw _ (List.mem_of_getElem? (i := 3) rfl)) (hw _ (List.mem_of_getElem? (i := 4) rfl)) (by decide) rfl (rm1 l Z a0 hw [] b1 na (by omega) p1 _ T2.heap h0.size g_b1 Va) 1 (by decide) (by decide) (by decide) (by decide) (g := (mkF m 22 #[.val (.int p0), .val (.int p1), .val (.int p2), .val (.int p3), .val (.ref b1), .val (.int (Int32.ofNat na)), .unset, .unset, .unset] [(.int p1), (.int (Int32.ofNat na)), (.ref b1), (.int (Int32.ofNat na))])) rfl (by rw [hml]; rfl) (rest := [(.int (Int32.ofNat na))]) (lenOf pd_2 rfl) rfl (by show 2 * 0 + _ ≤ _; exact Nat.le_of_eq rfl) (hb hby at_22)
  obtain ⟨nb, fb, rfl, lb, ub, Vb, Ab, Bb, Cb, Kb, Mb⟩ := hQ3
  refine OFin.to (T3.setTop (mkF m 25 #[.val (.int p0), .val (.int p1), .val (.int p2), .val (.int p3), .val (.ref b1), .val (.int (Int32.ofNat na)), .unset, .unset, .unset] [(.int (Int32.ofNat nb)), (.int (Int32.ofNat na))])) st3 ?_
  have Nbq := Fr.app Naq Mb
  refine OFin.to (T3.setTop (mkF m 26 #[.val (.int p0), .val (.int p1), .val (.int p2), .val (.int p3), .val (.ref b1), .val (.int (Int32.ofNat na)), .unset, .unset, .unset] [(.int ((Int32.ofNat na) + (Int32.ofNat nb)))])) (fun _ kt => XS.iadd X3.here hx rfl (hb hby at_25) rfl kt) ?_
  rw [own_ofAdd]
  refine OFin.to (T3.setTop (mkF m 28 #[.val (.int p0), .val (.int p1), .val (.int p2), .val (.int p3), .val (.ref b1), .val (.int (Int32.ofNat na)), .val (.int (Int32.ofNat (na + nb))), .unset, .unset] [])) (fun _ kt => XS.istore X3.here hx rfl (hb hby at_26) rfl (l' := #[.val (.int p0), .val (.int p1), .val (.int p2), .val (.int p3), .val (.ref b1), .val (.int (Int32.ofNat na)), .val (.int (Int32.ofNat (na + nb))), .unset, .unset]) rfl kt) ?_
  refine OFin.to (T3.setTop (mkF m 30 #[.val (.int p0), .val (.int p1), .val (.int p2), .val (.int p3), .val (.ref b1), .val (.int (Int32.ofNat na)), .val (.int (Int32.ofNat (na + nb))), .unset, .unset] [(.int (Int32.ofNat (na + nb)))])) (fun _ kt => XS.iload X3.here hx rfl (hb hby at_28) rfl kt) ?_
  refine OFin.to (T3.setTop (mkF m 32 #[.val (.int p0), .val (.int p1), .val (.int p2), .val (.int p3), .val (.ref b1), .val (.int (Int32.ofNat na)), .val (.int (Int32.ofNat (na + nb))), .unset, .unset] [(.ref b1), (.int (Int32.ofNat (na + nb)))])) (fun _ kt => XS.aload X3.here hx rfl (hb hby at_30) rfl rfl kt) ?_
  refine OFin.to (T3.setTop (mkF m 34 #[.val (.int p0), .val (.int p1), .val (.int p2), .val (.int p3), .val (.ref b1), .val (.int (Int32.ofNat na)), .val (.int (Int32.ofNat (na + nb))), .unset, .unset] [(.int (Int32.ofNat (na + nb))), (.ref b1), (.int (Int32.ofNat (na + nb)))])) (fun _ kt => XS.iload X3.here hx rfl (hb hby at_32) rfl kt) ?_
  refine OFin.to (T3.setTop (mkF m 35 #[.val (.int p0), .val (.int p1), .val (.int p2), .val (.int p3), .val (.ref b1), .val (.int (Int32.ofNat na)), .val (.int (Int32.ofNat (na + nb))), .unset, .unset] [(.int p2), (.int (Int32.ofNat (na + nb))), (.ref b1), (.int (Int32.ofNat (na + nb)))])) (fun _ kt => XS.iloadN X3.here hx rfl (hb hby at_34) rfl kt) ?_
  obtain ⟨v4, T4, L4, hQ4, X4, st4⟩ := own_callS X3 hx hZ hown (hw _ (List.mem_of_getElem? (i := 1) rfl)) (hw _ (List.mem_of_getElem? (i := 2) rfl)) (hw _ (List.mem_of_getElem? (i := 3) rfl)) (hw _ (List.mem_of_getElem? (i := 4) rfl)) (by decide) rfl (rm1 l Z a0 hw [] b1 (na + nb) (by omega) p2 _ T3.heap h0.size g_b1 Vb) 1 (by decide) (by decide) (by decide) (by decide) (g := (mkF m 35 #[.val (.int p0), .val (.int p1), .val (.int p2), .val (.int p3), .val (.ref b1), .val (.int (Int32.ofNat na)), .val (.int (Int32.ofNat (na + nb))), .unset, .unset] [(.int p2), (.int (Int32.ofNat (na + nb))), (.ref b1), (.int (Int32.ofNat (na + nb)))])) rfl (by rw [hml]; rfl) (rest := [(.int (Int32.ofNat (na + nb)))]) (lenOf pd_2 rfl) rfl (by show 2 * 0 + _ ≤ _; exact Nat.le_of_eq rfl) (hb hby at_35)
  obtain ⟨nc, fc, rfl, lc, uc, Vc, Ac, Bc, Cc, Kc, Mc⟩ := hQ4
  refine OFin.to (T4.setTop (mkF m 38 #[.val (.int p0), .val (.int p1), .val (.int p2), .val (.int p3), .val (.ref b1), .val (.int (Int32.ofNat na)), .val (.int (Int32.ofNat (na + nb))), .unset, .unset] [(.int (Int32.ofNat nc)), (.int (Int32.ofNat (na + nb)))])) st4 ?_
  have Ncq := Fr.app Nbq Mc
  refine OFin.to (T4.setTop (mkF m 39 #[.val (.int p0), .val (.int p1), .val (.int p2), .val (.int p3), .val (.ref b1), .val (.int (Int32.ofNat na)), .val (.int (Int32.ofNat (na + nb))), .unset, .unset] [(.int ((Int32.ofNat (na + nb)) + (Int32.ofNat nc)))])) (fun _ kt => XS.iadd X4.here hx rfl (hb hby at_38) rfl kt) ?_
  rw [own_ofAdd]
  refine OFin.to (T4.setTop (mkF m 41 #[.val (.int p0), .val (.int p1), .val (.int p2), .val (.int p3), .val (.ref b1), .val (.int (Int32.ofNat na)), .val (.int (Int32.ofNat (na + nb))), .val (.int (Int32.ofNat (na + nb + nc))), .unset] [])) (fun _ kt => XS.istore X4.here hx rfl (hb hby at_39) rfl (l' := #[.val (.int p0), .val (.int p1), .val (.int p2), .val (.int p3), .val (.ref b1), .val (.int (Int32.ofNat na)), .val (.int (Int32.ofNat (na + nb))), .val (.int (Int32.ofNat (na + nb + nc))), .unset]) rfl kt) ?_
  have Zc : h0.size ≤ T4.heap.size := Nat.le_trans (Nat.le_trans (Nat.le_trans Z1 Ka.1) Kb.1) Kc.1
  obtain ⟨T5, h5, X5, e5, E5, A5, D5, -, st5⟩ := newO X4 hx hZ hown (hw _ (List.mem_of_getElem? (i := 5) rfl)) (hw _ (List.mem_of_getElem? (i := 6) rfl)) (hw _ (List.mem_of_getElem? (i := 7) rfl)) rfl (g := (mkF m 41 #[.val (.int p0), .val (.int p1), .val (.int p2), .val (.int p3), .val (.ref b1), .val (.int (Int32.ofNat na)), .val (.int (Int32.ofNat (na + nb))), .val (.int (Int32.ofNat (na + nb + nc))), .unset] [])) rfl (hb hby at_41) (by decide) (by decide)
  obtain ⟨b5, g5⟩ : ∃ z, z = T4.heap.size := ⟨_, rfl⟩
  rw [← g5] at A5 D5 st5
  have g_b5 : h0.size ≤ b5 := by rw [g5]; exact Zc
  have ne_b1_b5 : b1 ≠ b5 := by rw [g5]; exact Nat.ne_of_lt Vc.lt
  have Vc_5 := Vc.ext E5
  have Z5 := Nat.le_trans Zc E5.1
  have E_b5 := A5
  have F_line_b5 : Fld Z h5 b5 "com/example/fixpoint_checker/fixpointchecker/text/LineCursor" "line" "[B" .null := D5 (Or.inr (hw _ (List.mem_of_getElem? (i := 15) rfl))) (ty := (.array .byte)) (by decide)
  have F_length_b5 : Fld Z h5 b5 "com/example/fixpoint_checker/fixpointchecker/text/LineCursor" "length" "I" (.int (0 : Int32)) := D5 (Or.inr (hw _ (List.mem_of_getElem? (i := 17) rfl))) (ty := .int) (by decide)
  have F_lineNumber_b5 : Fld Z h5 b5 "com/example/fixpoint_checker/fixpointchecker/text/LineCursor" "lineNumber" "I" (.int (0 : Int32)) := D5 (Or.inr (hw _ (List.mem_of_getElem? (i := 19) rfl))) (ty := .int) (by decide)
  have F_position_b5 : Fld Z h5 b5 "com/example/fixpoint_checker/fixpointchecker/text/LineCursor" "position" "I" (.int (0 : Int32)) := D5 (Or.inl (hw _ (List.mem_of_getElem? (i := 28) rfl))) (ty := .int) (by decide)
  refine OFin.to (T5.setTop (mkF m 44 #[.val (.int p0), .val (.int p1), .val (.int p2), .val (.int p3), .val (.ref b1), .val (.int (Int32.ofNat na)), .val (.int (Int32.ofNat (na + nb))), .val (.int (Int32.ofNat (na + nb + nc))), .unset] [(.ref b5)])) st5 ?_
  have hb' : ∀ j, j < na + nb + nc → ∃ b, fc j = .int b := own_all _ _ _ na nb nc la lb lc Aa Ab Ac Ba Bb Bc Ca Cb Cc
  have hcn := own_counts _ fa fb fc na nb nc la lb lc Aa Ab Ac Ba Bb Bc Ca Cb Cc
  refine OFin.to (T5.setTop (mkF m 45 #[.val (.int p0), .val (.int p1), .val (.int p2), .val (.int p3), .val (.ref b1), .val (.int (Int32.ofNat na)), .val (.int (Int32.ofNat (na + nb))), .val (.int (Int32.ofNat (na + nb + nc))), .unset] [(.ref b5), (.ref b5)])) (fun _ kt => XS.dup X5.here hx rfl (hb hby at_44) rfl rfl kt) ?_
  refine OFin.to (T5.setTop (mkF m 47 #[.val (.int p0), .val (.int p1), .val (.int p2), .val (.int p3), .val (.ref b1), .val (.int (Int32.ofNat na)), .val (.int (Int32.ofNat (na + nb))), .val (.int (Int32.ofNat (na + nb + nc))), .unset] [(.ref b1), (.ref b5), (.ref b5)])) (fun _ kt => XS.aload X5.here hx rfl (hb hby at_45) rfl rfl kt) ?_
  refine OFin.to (T5.setTop (mkF m 49 #[.val (.int p0), .val (.int p1), .val (.int p2), .val (.int p3), .val (.ref b1), .val (.int (Int32.ofNat na)), .val (.int (Int32.ofNat (na + nb))), .val (.int (Int32.ofNat (na + nb + nc))), .unset] [(.int (Int32.ofNat (na + nb + nc))), (.ref b1), (.ref b5), (.ref b5)])) (fun _ kt => XS.iload X5.here hx rfl (hb hby at_47) rfl kt) ?_
  refine OFin.to (T5.setTop (mkF m 50 #[.val (.int p0), .val (.int p1), .val (.int p2), .val (.int p3), .val (.ref b1), .val (.int (Int32.ofNat na)), .val (.int (Int32.ofNat (na + nb))), .val (.int (Int32.ofNat (na + nb + nc))), .unset] [(.int p3), (.int (Int32.ofNat (na + nb + nc))), (.ref b1), (.ref b5), (.ref b5)])) (fun _ kt => XS.iloadN X5.here hx rfl (hb hby at_49) rfl kt) ?_
  obtain ⟨v6, T6, L6, hQ6, X6, st6⟩ := own_callN X5 hx hZ hown rfl (hw _ (List.mem_of_getElem? (i := 8) rfl)) (hw _ (List.mem_of_getElem? (i := 9) rfl)) (hw _ (List.mem_of_getElem? (i := 10) rfl)) (hw _ (List.mem_of_getElem? (i := 7) rfl)) (by decide) e5 (rm2 l Z a0 hw [] b5 b1 (na + nb + nc) (by omega) p3 fc hb' h5 h0.size g_b5 ne_b1_b5 E_b5 F_line_b5 F_length_b5 F_lineNumber_b5 F_position_b5 Vc_5) 1 (by decide) (by decide) (by decide) (by decide) (g := (mkF m 50 #[.val (.int p0), .val (.int p1), .val (.int p2), .val (.int p3), .val (.ref b1), .val (.int (Int32.ofNat na)), .val (.int (Int32.ofNat (na + nb))), .val (.int (Int32.ofNat (na + nb + nc))), .unset] [(.int p3), (.int (Int32.ofNat (na + nb + nc))), (.ref b1), (.ref b5), (.ref b5)])) rfl (by rw [hml]; rfl) (rest := [(.ref b5)]) (lenOf pd_3 rfl) rfl (by show 2 * 0 + _ ≤ _; exact Nat.le_of_eq rfl) (hb hby at_50)
  obtain ⟨rfl, Kd, Fd, Md⟩ := hQ6
  refine OFin.to (T6.setTop (mkF m 53 #[.val (.int p0), .val (.int p1), .val (.int p2), .val (.int p3), .val (.ref b1), .val (.int (Int32.ofNat na)), .val (.int (Int32.ofNat (na + nb))), .val (.int (Int32.ofNat (na + nb + nc))), .unset] [(.ref b5)])) st6 ?_
  have Nd := Fr.app Ncq Md
  have Vd := Vc_5.keep Kd (ninS ne_b1_b5 nin0)
  have Ed := E_b5.keep Kd
  refine OFin.to (T6.setTop (mkF m 55 #[.val (.int p0), .val (.int p1), .val (.int p2), .val (.int p3), .val (.ref b1), .val (.int (Int32.ofNat na)), .val (.int (Int32.ofNat (na + nb))), .val (.int (Int32.ofNat (na + nb + nc))), .val (.ref b5)] [])) (fun _ kt => XS.astore X6.here hx rfl (hb hby at_53) rfl rfl (l' := #[.val (.int p0), .val (.int p1), .val (.int p2), .val (.int p3), .val (.ref b1), .val (.int (Int32.ofNat na)), .val (.int (Int32.ofNat (na + nb))), .val (.int (Int32.ofNat (na + nb + nc))), .val (.ref b5)]) rfl kt) ?_
  refine OFin.to (T6.setTop (mkF m 57 #[.val (.int p0), .val (.int p1), .val (.int p2), .val (.int p3), .val (.ref b1), .val (.int (Int32.ofNat na)), .val (.int (Int32.ofNat (na + nb))), .val (.int (Int32.ofNat (na + nb + nc))), .val (.ref b5)] [(.ref b5)])) (fun _ kt => XS.aload X6.here hx rfl (hb hby at_55) rfl rfl kt) ?_
  refine OFin.to (T6.setTop (mkF m 58 #[.val (.int p0), .val (.int p1), .val (.int p2), .val (.int p3), .val (.ref b1), .val (.int (Int32.ofNat na)), .val (.int (Int32.ofNat (na + nb))), .val (.int (Int32.ofNat (na + nb + nc))), .val (.ref b5)] [(.int (0 : Int32)), (.ref b5)])) (fun _ kt => XS.iconst X6.here hx rfl (hb hby at_57) kt) ?_
  rw [show (0 : Int32) = Int32.ofNat 0 from rfl]
  obtain ⟨v7, T7, L7, hQ7, X7, st7⟩ := own_callV X6 hx hZ hown (hw _ (List.mem_of_getElem? (i := 29) rfl)) (hw _ (List.mem_of_getElem? (i := 30) rfl)) (hw _ (List.mem_of_getElem? (i := 32) rfl)) (hw _ (List.mem_of_getElem? (i := 31) rfl)) (hw _ (List.mem_of_getElem? (i := 33) rfl)) (hw _ (List.mem_of_getElem? (i := 7) rfl)) (by decide) rfl Ed (rm6 l Z a0 hw [] b5 b1 0 (by omega) fc (fun j hj => hb' j (by omega)) T6.heap Fd Vd) 0 (by decide) (by decide) (by decide) (by decide) (g := (mkF m 58 #[.val (.int p0), .val (.int p1), .val (.int p2), .val (.int p3), .val (.ref b1), .val (.int (Int32.ofNat na)), .val (.int (Int32.ofNat (na + nb))), .val (.int (Int32.ofNat (na + nb + nc))), .val (.ref b5)] [(.int (Int32.ofNat 0)), (.ref b5)])) rfl (by rw [hml]; rfl) (rest := []) (lenOf pd_4 rfl) rfl (by show 2 * 0 + _ ≤ _; exact Nat.le_of_eq rfl) (hb hby at_58)
  obtain ⟨rfl, e7, rfl⟩ := hQ7
  rw [List.append_nil] at X7
  refine OFin.to (T7.setTop (mkF m 61 #[.val (.int p0), .val (.int p1), .val (.int p2), .val (.int p3), .val (.ref b1), .val (.int (Int32.ofNat na)), .val (.int (Int32.ofNat (na + nb))), .val (.int (Int32.ofNat (na + nb + nc))), .val (.ref b5)] [(.int (Int32.ofNat (own_cnt fc 0 + 1)))])) st7 ?_
  refine OFin.to (T7.setTop (mkF m 62 #[.val (.int p0), .val (.int p1), .val (.int p2), .val (.int p3), .val (.ref b1), .val (.int (Int32.ofNat na)), .val (.int (Int32.ofNat (na + nb))), .val (.int (Int32.ofNat (na + nb + nc))), .val (.ref b5)] [(.int (1 : Int32)), (.int (Int32.ofNat (own_cnt fc 0 + 1)))])) (fun _ kt => XS.iconst X7.here hx rfl (hb hby at_61) kt) ?_
  refine OFin.to (T7.setTop (mkF m 65 #[.val (.int p0), .val (.int p1), .val (.int p2), .val (.int p3), .val (.ref b1), .val (.int (Int32.ofNat na)), .val (.int (Int32.ofNat (na + nb))), .val (.int (Int32.ofNat (na + nb + nc))), .val (.ref b5)] [])) (fun _ kt => XS.icmpNo X7.here hx rfl (hb hby at_62) rfl (XT.ii_ne_f (by rw [own_cnt0]; rfl)) kt) ?_
  refine OFin.to (T7.setTop (mkF m 67 #[.val (.int p0), .val (.int p1), .val (.int p2), .val (.int p3), .val (.ref b1), .val (.int (Int32.ofNat na)), .val (.int (Int32.ofNat (na + nb))), .val (.int (Int32.ofNat (na + nb + nc))), .val (.ref b5)] [(.ref b5)])) (fun _ kt => XS.aload X7.here hx rfl (hb hby at_65) rfl rfl kt) ?_
  refine OFin.to (T7.setTop (mkF m 69 #[.val (.int p0), .val (.int p1), .val (.int p2), .val (.int p3), .val (.ref b1), .val (.int (Int32.ofNat na)), .val (.int (Int32.ofNat (na + nb))), .val (.int (Int32.ofNat (na + nb + nc))), .val (.ref b5)] [(.int (Int32.ofNat na)), (.ref b5)])) (fun _ kt => XS.iload X7.here hx rfl (hb hby at_67) rfl kt) ?_
  obtain ⟨v8, T8, L8, hQ8, X8, st8⟩ := own_callV X7 hx hZ hown (hw _ (List.mem_of_getElem? (i := 29) rfl)) (hw _ (List.mem_of_getElem? (i := 30) rfl)) (hw _ (List.mem_of_getElem? (i := 32) rfl)) (hw _ (List.mem_of_getElem? (i := 31) rfl)) (hw _ (List.mem_of_getElem? (i := 33) rfl)) (hw _ (List.mem_of_getElem? (i := 7) rfl)) (by decide) e7 Ed (rm6 l Z a0 hw [] b5 b1 na (by omega) fc (fun j hj => hb' j (by omega)) T6.heap Fd Vd) 0 (by decide) (by decide) (by decide) (by decide) (g := (mkF m 69 #[.val (.int p0), .val (.int p1), .val (.int p2), .val (.int p3), .val (.ref b1), .val (.int (Int32.ofNat na)), .val (.int (Int32.ofNat (na + nb))), .val (.int (Int32.ofNat (na + nb + nc))), .val (.ref b5)] [(.int (Int32.ofNat na)), (.ref b5)])) rfl (by rw [hml]; rfl) (rest := []) (lenOf pd_4 rfl) rfl (by show 2 * 0 + _ ≤ _; exact Nat.le_of_eq rfl) (hb hby at_69)
  obtain ⟨rfl, e8, rfl⟩ := hQ8
  rw [List.append_nil] at X8
  refine OFin.to (T8.setTop (mkF m 72 #[.val (.int p0), .val (.int p1), .val (.int p2), .val (.int p3), .val (.ref b1), .val (.int (Int32.ofNat na)), .val (.int (Int32.ofNat (na + nb))), .val (.int (Int32.ofNat (na + nb + nc))), .val (.ref b5)] [(.int (Int32.ofNat (own_cnt fc na + 1)))])) st8 ?_
  refine OFin.to (T8.setTop (mkF m 73 #[.val (.int p0), .val (.int p1), .val (.int p2), .val (.int p3), .val (.ref b1), .val (.int (Int32.ofNat na)), .val (.int (Int32.ofNat (na + nb))), .val (.int (Int32.ofNat (na + nb + nc))), .val (.ref b5)] [(.int (2 : Int32)), (.int (Int32.ofNat (own_cnt fc na + 1)))])) (fun _ kt => XS.iconst X8.here hx rfl (hb hby at_72) kt) ?_
  refine OFin.to (T8.setTop (mkF m 76 #[.val (.int p0), .val (.int p1), .val (.int p2), .val (.int p3), .val (.ref b1), .val (.int (Int32.ofNat na)), .val (.int (Int32.ofNat (na + nb))), .val (.int (Int32.ofNat (na + nb + nc))), .val (.ref b5)] [])) (fun _ kt => XS.icmpNo X8.here hx rfl (hb hby at_73) rfl (XT.ii_ne_f (by rw [hcn.1]; rfl)) kt) ?_
  refine OFin.to (T8.setTop (mkF m 78 #[.val (.int p0), .val (.int p1), .val (.int p2), .val (.int p3), .val (.ref b1), .val (.int (Int32.ofNat na)), .val (.int (Int32.ofNat (na + nb))), .val (.int (Int32.ofNat (na + nb + nc))), .val (.ref b5)] [(.ref b5)])) (fun _ kt => XS.aload X8.here hx rfl (hb hby at_76) rfl rfl kt) ?_
  refine OFin.to (T8.setTop (mkF m 80 #[.val (.int p0), .val (.int p1), .val (.int p2), .val (.int p3), .val (.ref b1), .val (.int (Int32.ofNat na)), .val (.int (Int32.ofNat (na + nb))), .val (.int (Int32.ofNat (na + nb + nc))), .val (.ref b5)] [(.int (Int32.ofNat (na + nb))), (.ref b5)])) (fun _ kt => XS.iload X8.here hx rfl (hb hby at_78) rfl kt) ?_
  obtain ⟨v9, T9, L9, hQ9, X9, st9⟩ := own_callV X8 hx hZ hown (hw _ (List.mem_of_getElem? (i := 29) rfl)) (hw _ (List.mem_of_getElem? (i := 30) rfl)) (hw _ (List.mem_of_getElem? (i := 32) rfl)) (hw _ (List.mem_of_getElem? (i := 31) rfl)) (hw _ (List.mem_of_getElem? (i := 33) rfl)) (hw _ (List.mem_of_getElem? (i := 7) rfl)) (by decide) e8 Ed (rm6 l Z a0 hw [] b5 b1 (na + nb) (by omega) fc (fun j hj => hb' j (by omega)) T6.heap Fd Vd) 0 (by decide) (by decide) (by decide) (by decide) (g := (mkF m 80 #[.val (.int p0), .val (.int p1), .val (.int p2), .val (.int p3), .val (.ref b1), .val (.int (Int32.ofNat na)), .val (.int (Int32.ofNat (na + nb))), .val (.int (Int32.ofNat (na + nb + nc))), .val (.ref b5)] [(.int (Int32.ofNat (na + nb))), (.ref b5)])) rfl (by rw [hml]; rfl) (rest := []) (lenOf pd_4 rfl) rfl (by show 2 * 0 + _ ≤ _; exact Nat.le_of_eq rfl) (hb hby at_80)
  obtain ⟨rfl, e9, rfl⟩ := hQ9
  rw [List.append_nil] at X9
  refine OFin.to (T9.setTop (mkF m 83 #[.val (.int p0), .val (.int p1), .val (.int p2), .val (.int p3), .val (.ref b1), .val (.int (Int32.ofNat na)), .val (.int (Int32.ofNat (na + nb))), .val (.int (Int32.ofNat (na + nb + nc))), .val (.ref b5)] [(.int (Int32.ofNat (own_cnt fc (na + nb) + 1)))])) st9 ?_
  refine OFin.to (T9.setTop (mkF m 84 #[.val (.int p0), .val (.int p1), .val (.int p2), .val (.int p3), .val (.ref b1), .val (.int (Int32.ofNat na)), .val (.int (Int32.ofNat (na + nb))), .val (.int (Int32.ofNat (na + nb + nc))), .val (.ref b5)] [(.int (3 : Int32)), (.int (Int32.ofNat (own_cnt fc (na + nb) + 1)))])) (fun _ kt => XS.iconst X9.here hx rfl (hb hby at_83) kt) ?_
  refine OFin.to (T9.setTop (mkF m 87 #[.val (.int p0), .val (.int p1), .val (.int p2), .val (.int p3), .val (.ref b1), .val (.int (Int32.ofNat na)), .val (.int (Int32.ofNat (na + nb))), .val (.int (Int32.ofNat (na + nb + nc))), .val (.ref b5)] [])) (fun _ kt => XS.icmpNo X9.here hx rfl (hb hby at_84) rfl (XT.ii_ne_f (by rw [hcn.2.1]; rfl)) kt) ?_
  refine OFin.to (T9.setTop (mkF m 89 #[.val (.int p0), .val (.int p1), .val (.int p2), .val (.int p3), .val (.ref b1), .val (.int (Int32.ofNat na)), .val (.int (Int32.ofNat (na + nb))), .val (.int (Int32.ofNat (na + nb + nc))), .val (.ref b5)] [(.ref b5)])) (fun _ kt => XS.aload X9.here hx rfl (hb hby at_87) rfl rfl kt) ?_
  refine OFin.to (T9.setTop (mkF m 91 #[.val (.int p0), .val (.int p1), .val (.int p2), .val (.int p3), .val (.ref b1), .val (.int (Int32.ofNat na)), .val (.int (Int32.ofNat (na + nb))), .val (.int (Int32.ofNat (na + nb + nc))), .val (.ref b5)] [(.int (Int32.ofNat (na + nb + nc))), (.ref b5)])) (fun _ kt => XS.iload X9.here hx rfl (hb hby at_89) rfl kt) ?_
  obtain ⟨v10, T10, L10, hQ10, X10, st10⟩ := own_callV X9 hx hZ hown (hw _ (List.mem_of_getElem? (i := 29) rfl)) (hw _ (List.mem_of_getElem? (i := 30) rfl)) (hw _ (List.mem_of_getElem? (i := 32) rfl)) (hw _ (List.mem_of_getElem? (i := 31) rfl)) (hw _ (List.mem_of_getElem? (i := 33) rfl)) (hw _ (List.mem_of_getElem? (i := 7) rfl)) (by decide) e9 Ed (rm6 l Z a0 hw [] b5 b1 (na + nb + nc) (by omega) fc (fun j hj => hb' j (by omega)) T6.heap Fd Vd) 0 (by decide) (by decide) (by decide) (by decide) (g := (mkF m 91 #[.val (.int p0), .val (.int p1), .val (.int p2), .val (.int p3), .val (.ref b1), .val (.int (Int32.ofNat na)), .val (.int (Int32.ofNat (na + nb))), .val (.int (Int32.ofNat (na + nb + nc))), .val (.ref b5)] [(.int (Int32.ofNat (na + nb + nc))), (.ref b5)])) rfl (by rw [hml]; rfl) (rest := []) (lenOf pd_4 rfl) rfl (by show 2 * 0 + _ ≤ _; exact Nat.le_of_eq rfl) (hb hby at_91)
  obtain ⟨rfl, e10, rfl⟩ := hQ10
  rw [List.append_nil] at X10
  refine OFin.to (T10.setTop (mkF m 94 #[.val (.int p0), .val (.int p1), .val (.int p2), .val (.int p3), .val (.ref b1), .val (.int (Int32.ofNat na)), .val (.int (Int32.ofNat (na + nb))), .val (.int (Int32.ofNat (na + nb + nc))), .val (.ref b5)] [(.int (Int32.ofNat (own_cnt fc (na + nb + nc) + 1)))])) st10 ?_
  refine OFin.to (T10.setTop (mkF m 95 #[.val (.int p0), .val (.int p1), .val (.int p2), .val (.int p3), .val (.ref b1), .val (.int (Int32.ofNat na)), .val (.int (Int32.ofNat (na + nb))), .val (.int (Int32.ofNat (na + nb + nc))), .val (.ref b5)] [(.int (4 : Int32)), (.int (Int32.ofNat (own_cnt fc (na + nb + nc) + 1)))])) (fun _ kt => XS.iconst X10.here hx rfl (hb hby at_94) kt) ?_
  refine OFin.to (T10.setTop (mkF m 98 #[.val (.int p0), .val (.int p1), .val (.int p2), .val (.int p3), .val (.ref b1), .val (.int (Int32.ofNat na)), .val (.int (Int32.ofNat (na + nb))), .val (.int (Int32.ofNat (na + nb + nc))), .val (.ref b5)] [])) (fun _ kt => XS.icmpNo X10.here hx rfl (hb hby at_95) rfl (XT.ii_ne_f (by rw [hcn.2.2]; rfl)) kt) ?_
  refine OFin.to (T10.setTop (mkF m 99 #[.val (.int p0), .val (.int p1), .val (.int p2), .val (.int p3), .val (.ref b1), .val (.int (Int32.ofNat na)), .val (.int (Int32.ofNat (na + nb))), .val (.int (Int32.ofNat (na + nb + nc))), .val (.ref b5)] [(.int (1 : Int32))])) (fun _ kt => XS.iconst X10.here hx rfl (hb hby at_98) kt) ?_
  refine OFin.to (T10.setTop (mkF m 103 #[.val (.int p0), .val (.int p1), .val (.int p2), .val (.int p3), .val (.ref b1), .val (.int (Int32.ofNat na)), .val (.int (Int32.ofNat (na + nb))), .val (.int (Int32.ofNat (na + nb + nc))), .val (.ref b5)] [(.int (1 : Int32))])) (fun _ kt => XS.goto X10.here hx rfl (pc0 := 99) (pc' := 103) rfl (hb hby at_99) (by decide) (by decide) kt) ?_
  exact OFin.retZ X10 hx (t := .boolean) hret (by simp) hlk (hb hby at_103) (by decide) (by decide) ⟨by rw [own_nar1], Nd⟩
set_option maxRecDepth 65536 in
set_option maxHeartbeats 40000000 in
theorem comes_1 {Post : Tables → Env → Array Value → State → Outcome → State → Prop} (hpost : ∀ tb e args s v u, (limb_1_1.after args s (.returned v) u = true ∧ limb_1_2.after args s (.returned v) u = true ∧ True) → FrameEnd s (.returned v) u (Jvm.fieldLocs frame_1_writes args s ++ Jvm.arrayLocs frame_1_arrays args s ++ Jvm.staticLocs frame_1_statics s) 16 128 → Post tb e args s (.returned v) u) :
    ArmFor flags0 classFile x code maxLocals ret World_1 tables_1 room_1 Calls_1 rest_1 Pre_1 Post := by
  intro l hfl _ _ p e ha hc hk s m args below hf hA hF happ hP
  obtain ⟨hcalls, hrest, hpre⟩ := hP
  obtain ⟨-, -, -, hnamed, -, -, -, hat⟩ := (Spec.applies_iff hf).mp happ
  obtain ⟨hg, hn⟩ := and_e (Cond.before_iff.mp (show (Jvm.Cond.and given_1 narrow_1).before args s = true from hpre))
  obtain ⟨hcnt, g0⟩ := and_e hg
  obtain ⟨k0, g1⟩ := and_e g0
  obtain ⟨k1, g2⟩ := and_e g1
  obtain ⟨k2, g3⟩ := and_e g2
  obtain ⟨w0, w1, w2, w3, rfl⟩ : ∃ w0 w1 w2 w3 : Value, args = #[w0, w1, w2, w3] := by
    have hs : args.size = 4 := by simpa [Cond.value, given_1] using hcnt
    obtain ⟨L⟩ := args
    match L, hs with
    | [w0, w1, w2, w3], _ => exact ⟨w0, w1, w2, w3, rfl⟩
  have hw := fun d (hd : d ∈ tables_1) => atoms_spec (ws := Jvm.Cond.code x code maxLocals ret :: tables_1) hat d (List.mem_cons_of_mem _ hd)
  have hfit : Fit s := fun {y c} hc i hi => by
    obtain ⟨ha, rfl⟩ := Array.getElem?_eq_some_iff.mp hc
    have q := List.all_eq_true.mp ((Array.all_eq_true_iff_forall_mem.mp hF) _ (Array.getElem_mem ha)) i (List.mem_range.mpr hi)
    simpa [Array.getElem?_eq_getElem hi] using q
  obtain ⟨v0, ev0⟩ := is_v k0
  obtain rfl : w0 = (.int v0) := Option.some.inj ev0
  obtain ⟨v1, ev1⟩ := is_v k1
  obtain rfl : w1 = (.int v1) := Option.some.inj ev1
  obtain ⟨v2, ev2⟩ := is_v k2
  obtain rfl : w2 = (.int v2) := Option.some.inj ev2
  obtain ⟨v3, ev3⟩ := is_v g3
  obtain rfl : w3 = (.int v3) := Option.some.inj ev3
  obtain ⟨n, o, h1, h2, h3, _, L, rfl, ⟨rfl, N⟩, hq⟩ := rm0 l s _ hw tables_1 v0 v1 v2 v3 s.heap p e ha hc hk s m _ below hf ((Spec.applies_iff_loose hf).mp happ).1 ⟨rfl, State.Warmed39.refl s, rfl⟩ trivial
  refine ⟨n, _, h1, h2, h3, hpost _ _ _ _ _ _ ⟨Cond.after_iff.mpr rfl, Cond.after_iff.mpr (eq_i res_at (Term.int_eval (1)) rfl), trivial⟩ ⟨hq.1, hq.2.1, (hq.2.2.sift fun y hy => Or.inr (N y hy)).mono (by decide) (by decide)⟩⟩
theorem main_1_1 : Claimed_1_1 := comes_1 fun _ _ _ _ _ _ h hF => ⟨h.1, hF⟩
theorem main_1_2 : Claimed_1_2 := comes_1 fun _ _ _ _ _ _ h hF => ⟨h.2.1, hF⟩
end Jvm.Pilot.@@N@@
namespace Jvm.Pilot.@@N@@
open Jvm Jvm.ClassFile Sem Op Lib Jvm.Free Jvm.Stand Jvm.Pilot.@@N@@.Jvm.D
/-! MADE BY PROGRAM (witnessworld.py) out of the Statement's table words and the real class files: 9 classes; the members and pool entries that the words name. The judged class is class 1, her method 2. -/
namespace start1
open Jvm.ClassFile
def u (s : String) : CpInfo := .utf8 (stringToUtf16 s)
/-- a pool by its gaps: so many unusable entries, then the entry; so many at the end -/
def gap : Nat → List CpInfo → List CpInfo
  | 0, r => r
  | n + 1, r => .unusable :: gap n r
def poolList (es : List (Nat × CpInfo)) (last : Nat) : List CpInfo := es.foldr (fun e r => gap e.1 (e.2 :: r)) (gap last [])
def pool (es : List (Nat × CpInfo)) (last : Nat) : Array CpInfo := ⟨poolList es last⟩
def fileOf (pool : Array CpInfo) (this : Nat) (attrs : Array Attribute := #[]) (ms : Array MethodInfo := #[]) (fl : Nat := 33) (sup : Nat := 0) (ifs : Array Nat := #[]) (fds : Array FieldInfo := #[]) : ClassFile where
  minorVersion := 0
  majorVersion := 65
  constantPool := pool
  accessFlags := fl
  thisClass := this
  superClass := sup
  interfaces := ifs
  fields := fds
  methods := ms
  attributes := attrs
def plain (name : String) (sup : Option ClassId) : Class where
  name := name
  kind := .ordinary
  loader := none
  accessFlags := 33
  super := sup
  interfaces := #[]
  cf := none
  fields := #[]
  methods := #[]
  instanceTypes := #[]
  staticTypes := #[]
  resolved := #[]
  callSites := []
  init := .initialized
  statics := none
  mirror := none

def pool0 : Array CpInfo := pool [(5, u "<init>"), (0, u "()V"), (1, .class_ 10), (1, u "java/lang/Object")] 113

def k0c0 : Code := { maxStack := 0, maxLocals := 1, code := object_method_1_code, exceptionTable := #[], attributes := #[] }
def k0m0 : Method := { name := "<init>", desc := "()V", sig := { parameters := [], returnType := none }, accessFlags := 1, code := some k0c0 }
/-- java/lang/Object -/
def k0 : Class := { plain "java/lang/Object" none with
  accessFlags := 33
  interfaces := #[]
  cf := some (fileOf pool0 8 #[] #[{ accessFlags := 1, nameIndex := 5, descriptorIndex := 6, attributes := #[] }] 33 0 #[] #[])
  fields := #[]
  methods := #[k0m0]
  instanceTypes := #[]
  staticTypes := #[]
  resolved := Array.replicate 124 none
  statics := none }

def pool1 : Array CpInfo := pool [(2, .class_ 4), (1, u "java/lang/Object"), (0, u "<init>"), (0, u "()V"), (0, .methodref 8 9), (0, .class_ 10), (0, .nameAndType 11 12), (0, u "com/example/fixpoint_checker/fixpointchecker/text/LineCursorGetColumnPinLaw"), (0, u "put"), (0, u "([BII)I"), (0, .class_ 14), (0, u "com/example/fixpoint_checker/fixpointchecker/text/LineCursor"), (0, .methodref 13 16), (0, .nameAndType 5 17), (0, u "([BII)V"), (0, .methodref 13 19), (0, .nameAndType 20 21), (0, u "getColumn"), (0, u "(I)I"), (3, u "law"), (0, u "(IIII)Z")] 4

def k1m0 : Method := { name := "<init>", desc := "()V", sig := { parameters := [], returnType := none }, accessFlags := 1, code := none }
def k1c1 : Code := { maxStack := 5, maxLocals := 5, code := method_2_code, exceptionTable := #[], attributes := #[] }
def k1m1 : Method := { name := "put", desc := "([BII)I", sig := { parameters := [(.array .byte), .int, .int], returnType := some .int }, accessFlags := 10, code := some k1c1 }
def k1c2 : Code := { maxStack := 5, maxLocals := 9, code := code, exceptionTable := #[], attributes := #[] }
def k1m2 : Method := { name := "law", desc := "(IIII)Z", sig := { parameters := [.int, .int, .int, .int], returnType := some .boolean }, accessFlags := 9, code := some k1c2 }
/-- com/example/fixpoint_checker/fixpointchecker/text/LineCursorGetColumnPinLaw -/
def k1 : Class := { plain "com/example/fixpoint_checker/fixpointchecker/text/LineCursorGetColumnPinLaw" (some 0) with
  accessFlags := 49
  interfaces := #[]
  cf := some (fileOf pool1 8 #[] #[{ accessFlags := 1, nameIndex := 5, descriptorIndex := 6, attributes := #[] }, { accessFlags := 10, nameIndex := 11, descriptorIndex := 12, attributes := #[] }, { accessFlags := 9, nameIndex := 25, descriptorIndex := 26, attributes := #[] }] 49 2 #[] #[])
  fields := #[]
  methods := #[k1m0, k1m1, k1m2]
  instanceTypes := #[]
  staticTypes := #[]
  resolved := Array.replicate 31 none
  statics := none }

def pool2 : Array CpInfo := pool [(14, .class_ 16), (1, u "com/example/fixpoint_checker/fixpointchecker/text/LineCursor"), (0, u "<init>"), (3, u "([BII)V"), (0, .methodref 23 24), (0, .class_ 25), (0, .nameAndType 17 26), (0, u "java/lang/Object"), (0, u "()V"), (0, .fieldref 14 28), (0, .nameAndType 29 30), (0, u "line"), (0, u "[B"), (0, .fieldref 14 32), (0, .nameAndType 33 34), (0, u "length"), (0, u "I"), (0, .fieldref 14 36), (0, .nameAndType 37 34), (0, u "lineNumber"), (0, .methodref 14 39), (0, .nameAndType 40 41), (0, u "skipBlanks"), (0, u "(I)V"), (0, .fieldref 14 43), (0, .nameAndType 44 34), (0, u "position"), (24, u "(B)Z"), (13, .methodref 14 84), (0, .nameAndType 85 69), (0, u "isBlank"), (40, u "(I)I"), (24, u "getColumn")] 73

def k2c0 : Code := { maxStack := 2, maxLocals := 4, code := prog_130_method_3_code, exceptionTable := #[], attributes := #[] }
def k2m0 : Method := { name := "<init>", desc := "([BII)V", sig := { parameters := [(.array .byte), .int, .int], returnType := none }, accessFlags := 0, code := some k2c0 }
def k2c1 : Code := { maxStack := 2, maxLocals := 4, code := prog_130_method_24_code, exceptionTable := #[], attributes := #[] }
def k2m1 : Method := { name := "getColumn", desc := "(I)I", sig := { parameters := [.int], returnType := some .int }, accessFlags := 1, code := some k2c1 }
def k2c2 : Code := { maxStack := 2, maxLocals := 3, code := prog_130_method_27_code, exceptionTable := #[], attributes := #[] }
def k2m2 : Method := { name := "skipBlanks", desc := "(I)V", sig := { parameters := [.int], returnType := none }, accessFlags := 2, code := some k2c2 }
def k2c3 : Code := { maxStack := 2, maxLocals := 1, code := prog_130_method_32_code, exceptionTable := #[], attributes := #[] }
def k2m3 : Method := { name := "isBlank", desc := "(B)Z", sig := { parameters := [.byte], returnType := some .boolean }, accessFlags := 10, code := some k2c3 }
/-- com/example/fixpoint_checker/fixpointchecker/text/LineCursor -/
def k2 : Class := { plain "com/example/fixpoint_checker/fixpointchecker/text/LineCursor" (some 0) with
  accessFlags := 33
  interfaces := #[]
  cf := some (fileOf pool2 14 #[] #[{ accessFlags := 0, nameIndex := 17, descriptorIndex := 21, attributes := #[] }, { accessFlags := 1, nameIndex := 151, descriptorIndex := 126, attributes := #[] }, { accessFlags := 2, nameIndex := 40, descriptorIndex := 41, attributes := #[] }, { accessFlags := 10, nameIndex := 85, descriptorIndex := 69, attributes := #[] }] 33 23 #[] #[{ accessFlags := 18, nameIndex := 29, descriptorIndex := 30, attributes := #[] }, { accessFlags := 18, nameIndex := 33, descriptorIndex := 34, attributes := #[] }, { accessFlags := 18, nameIndex := 37, descriptorIndex := 34, attributes := #[] }, { accessFlags := 2, nameIndex := 44, descriptorIndex := 34, attributes := #[] }])
  fields := #[{ name := "line", type := (.array .byte), accessFlags := 18, slot := 0, constantValue := 0 }, { name := "length", type := .int, accessFlags := 18, slot := 1, constantValue := 0 }, { name := "lineNumber", type := .int, accessFlags := 18, slot := 2, constantValue := 0 }, { name := "position", type := .int, accessFlags := 2, slot := 3, constantValue := 0 }]
  methods := #[k2m0, k2m1, k2m2, k2m3]
  instanceTypes := #[(.array .byte), .int, .int, .int]
  staticTypes := #[]
  resolved := Array.replicate 225 none
  statics := none }

def pool3 : Array CpInfo := pool [(1, u "java/lang/Cloneable"), (0, .class_ 1), (0, u "java/lang/Object"), (0, .class_ 3)] 3

/-- java/lang/Cloneable -/
def k3 : Class := { plain "java/lang/Cloneable" (some 0) with
  accessFlags := 1537
  interfaces := #[]
  cf := some (fileOf pool3 2 #[] #[] 1537 4 #[] #[])
  fields := #[]
  methods := #[]
  instanceTypes := #[]
  staticTypes := #[]
  resolved := Array.replicate 8 none
  statics := none }

def pool4 : Array CpInfo := pool [(1, u "java/io/Serializable"), (0, .class_ 1), (0, u "java/lang/Object"), (0, .class_ 3)] 3

/-- java/io/Serializable -/
def k4 : Class := { plain "java/io/Serializable" (some 0) with
  accessFlags := 1537
  interfaces := #[]
  cf := some (fileOf pool4 2 #[] #[] 1537 4 #[] #[])
  fields := #[]
  methods := #[]
  instanceTypes := #[]
  staticTypes := #[]
  resolved := Array.replicate 8 none
  statics := none }

/-- the primitive byte -/
def k5 : Class := { plain "byte" none with kind := .primitive 'B', accessFlags := 0x411 }
/-- [B -/
def k6 : Class := { plain "[B" (some 0) with kind := .array 5 .byte, interfaces := #[3, 4], accessFlags := 1041 }

/-- the primitive int -/
def k7 : Class := { plain "int" none with kind := .primitive 'I', accessFlags := 0x411 }
/-- [I -/
def k8 : Class := { plain "[I" (some 0) with kind := .array 7 .int, interfaces := #[3, 4], accessFlags := 1041 }

def heap : Heap := #[]
def classes : Array Class := #[k0, k1, k2, k3, k4, k5, k6, k7, k8]
def interned : List (Array UInt16 × Addr) := []
def slotsUsed : Nat := 0
def theMethod : MethodId := ⟨1, 2⟩
def args0 : Array Value := #[.int 5, .int 3, .int 7, .int 9]
def aboutOver (below : List Frame) : State where
  vm := { classes := classes, interned := interned.toArray }
  heap := heap
  slotsUsed := slotsUsed
  threads := #[{ frames := .invoking theMethod args0 :: below }]
def below0 : List Frame := [.native { method := ⟨0, 0⟩, args := #[] }]
def about1 : State := aboutOver below0
def p0 : Program := .bare "" "" ""
def e0 : Env := launch0.env 0 0 0
theorem w_frames : about1.frames = Frame.invoking theMethod args0 :: below0 := rfl
set_option maxRecDepth 65536 in
theorem w_args : argsFit about1.vm theMethod args0 = true := by decide +kernel
set_option maxRecDepth 65536 in
theorem w_heap : heapFits about1 = true := by decide +kernel
set_option maxRecDepth 65536 in
theorem w_runnable : about1.curStatus? = some .runnable := by decide +kernel
set_option maxRecDepth 65536 in
theorem w_alone : about1.alone = true := by decide +kernel
set_option maxRecDepth 65536 in
theorem w_named : about1.methodNamed? x = some theMethod := by decide +kernel
set_option maxRecDepth 65536 in
theorem w_hears : about1.hears theMethod below0 = true := by decide +kernel
set_option maxRecDepth 65536 in
theorem w_ripe : about1.ripe theMethod args0 below0 = true := by decide +kernel
theorem w_running : about1.status = .running := rfl
set_option maxRecDepth 65536 in
theorem w_room : about1.hasRoom e0.platform room_1 = true :=
  launch0.hasRoom_least _ room_1 (by decide +kernel) (by decide +kernel) (by decide +kernel) (by decide +kernel) (by decide +kernel) (by decide +kernel)
theorem allAtoms_all (ts : List Jvm.Cond) (a : Array Jvm.Value) (st : Jvm.State) : (allAtoms ts).before a st = ts.all (fun c => c.before a st) := by
  induction ts with
  | nil => rfl
  | cons c t ih =>
    show (Jvm.Cond.and c (allAtoms t)).before a st = _
    rw [Jvm.Cond.before_and, ih, List.all_cons]
def words1 : List Jvm.Cond := Jvm.Cond.code x code maxLocals ret :: tables_1
/-- a 'code' word, met by the world's own term for the bytes: nothing is compared byte by byte -/
theorem code_word {y : MethodName} {bytes : ByteArray} {mx : Nat} {rt : Option FieldType} {a : Array Value} {s : State} {m : MethodId} {meth : Method} {c : Code} (h1 : s.methodNamed? y = some m) (h2 : s.vm.method? m = some meth) (h3 : meth.code = some c) (h4 : c.code = bytes)
    (h5 : (c.maxLocals == mx && c.exceptionTable.isEmpty && decide (c.maxStack ≤ mostOperands) && decide (meth.sig.returnType = rt) && !meth.locks && decide (parseMethodDescriptor y.desc = some meth.sig)) = true) : (Jvm.Cond.code y bytes mx rt).before a s = true := by
  simp only [Bool.and_eq_true, beq_iff_eq, Bool.not_eq_true', decide_eq_true_eq] at h5
  obtain ⟨⟨⟨⟨⟨g1, g2⟩, g3⟩, g4⟩, g5⟩, g6⟩ := h5
  simp [Cond.before, Cond.holds, Cond.value, h1, h2, h3, h4, g1, g2, g3, g4, g5, g6]
def isCode : Jvm.Cond → Bool
  | .code _ _ _ _ => true
  | _ => false
theorem all_split {L : List Jvm.Cond} {P : Jvm.Cond → Bool} (h1 : L.all (fun c => isCode c || P c) = true) (h2 : ∀ c ∈ L.filter isCode, P c = true) : L.all P = true := by
  refine List.all_eq_true.mpr fun c hc => ?_
  have h := List.all_eq_true.mp h1 c hc
  rcases Bool.eq_false_or_eq_true (isCode c) with hi | hi
  · exact h2 c (List.mem_filter.mpr ⟨hc, hi⟩)
  · simpa [hi] using h
set_option maxRecDepth 65536 in
theorem w_c0 : (Jvm.Cond.code x code maxLocals ret).before args0 about1 = true := code_word (m := ⟨1, 2⟩) (meth := k1m2) (c := k1c2) (by decide +kernel) rfl rfl rfl (by decide +kernel)
set_option maxRecDepth 65536 in
theorem w_c1 : (Jvm.Cond.code ({ cls := "com/example/fixpoint_checker/fixpointchecker/text/LineCursorGetColumnPinLaw", name := "put", desc := "([BII)I" } : Jvm.MethodName) method_2_code (5 : Nat) (Option.some Jvm.ClassFile.FieldType.int)).before args0 about1 = true := code_word (m := ⟨1, 1⟩) (meth := k1m1) (c := k1c1) (by decide +kernel) rfl rfl rfl (by decide +kernel)
set_option maxRecDepth 65536 in
theorem w_c2 : (Jvm.Cond.code ({ cls := "com/example/fixpoint_checker/fixpointchecker/text/LineCursor", name := "<init>", desc := "([BII)V" } : Jvm.MethodName) prog_130_method_3_code (4 : Nat) (Option.none : Option Jvm.ClassFile.FieldType)).before args0 about1 = true := code_word (m := ⟨2, 0⟩) (meth := k2m0) (c := k2c0) (by decide +kernel) rfl rfl rfl (by decide +kernel)
set_option maxRecDepth 65536 in
theorem w_c3 : (Jvm.Cond.code ({ cls := "java/lang/Object", name := "<init>", desc := "()V" } : Jvm.MethodName) object_method_1_code (1 : Nat) (Option.none : Option Jvm.ClassFile.FieldType)).before args0 about1 = true := code_word (m := ⟨0, 0⟩) (meth := k0m0) (c := k0c0) (by decide +kernel) rfl rfl rfl (by decide +kernel)
set_option maxRecDepth 65536 in
theorem w_c4 : (Jvm.Cond.code ({ cls := "com/example/fixpoint_checker/fixpointchecker/text/LineCursor", name := "skipBlanks", desc := "(I)V" } : Jvm.MethodName) prog_130_method_27_code (3 : Nat) (Option.none : Option Jvm.ClassFile.FieldType)).before args0 about1 = true := code_word (m := ⟨2, 2⟩) (meth := k2m2) (c := k2c2) (by decide +kernel) rfl rfl rfl (by decide +kernel)
set_option maxRecDepth 65536 in
theorem w_c5 : (Jvm.Cond.code ({ cls := "com/example/fixpoint_checker/fixpointchecker/text/LineCursor", name := "isBlank", desc := "(B)Z" } : Jvm.MethodName) prog_130_method_32_code (1 : Nat) (Option.some Jvm.ClassFile.FieldType.boolean)).before args0 about1 = true := code_word (m := ⟨2, 3⟩) (meth := k2m3) (c := k2c3) (by decide +kernel) rfl rfl rfl (by decide +kernel)
set_option maxRecDepth 65536 in
theorem w_c6 : (Jvm.Cond.code ({ cls := "com/example/fixpoint_checker/fixpointchecker/text/LineCursor", name := "getColumn", desc := "(I)I" } : Jvm.MethodName) prog_130_method_24_code (4 : Nat) (Option.some Jvm.ClassFile.FieldType.int)).before args0 about1 = true := code_word (m := ⟨2, 1⟩) (meth := k2m1) (c := k2c1) (by decide +kernel) rfl rfl rfl (by decide +kernel)
def codes1 : List Jvm.Cond := [Jvm.Cond.code x code maxLocals ret, Jvm.Cond.code ({ cls := "com/example/fixpoint_checker/fixpointchecker/text/LineCursorGetColumnPinLaw", name := "put", desc := "([BII)I" } : Jvm.MethodName) method_2_code (5 : Nat) (Option.some Jvm.ClassFile.FieldType.int), Jvm.Cond.code ({ cls := "com/example/fixpoint_checker/fixpointchecker/text/LineCursor", name := "<init>", desc := "([BII)V" } : Jvm.MethodName) prog_130_method_3_code (4 : Nat) (Option.none : Option Jvm.ClassFile.FieldType), Jvm.Cond.code ({ cls := "java/lang/Object", name := "<init>", desc := "()V" } : Jvm.MethodName) object_method_1_code (1 : Nat) (Option.none : Option Jvm.ClassFile.FieldType), Jvm.Cond.code ({ cls := "com/example/fixpoint_checker/fixpointchecker/text/LineCursor", name := "skipBlanks", desc := "(I)V" } : Jvm.MethodName) prog_130_method_27_code (3 : Nat) (Option.none : Option Jvm.ClassFile.FieldType), Jvm.Cond.code ({ cls := "com/example/fixpoint_checker/fixpointchecker/text/LineCursor", name := "isBlank", desc := "(B)Z" } : Jvm.MethodName) prog_130_method_32_code (1 : Nat) (Option.some Jvm.ClassFile.FieldType.boolean), Jvm.Cond.code ({ cls := "com/example/fixpoint_checker/fixpointchecker/text/LineCursor", name := "getColumn", desc := "(I)I" } : Jvm.MethodName) prog_130_method_24_code (4 : Nat) (Option.some Jvm.ClassFile.FieldType.int)]
set_option maxRecDepth 65536 in
theorem codes_eq : words1.filter isCode = codes1 := rfl
theorem w_codes : ∀ c ∈ words1.filter isCode, c.before args0 about1 = true := by
  rw [codes_eq]
  intro c hc
  simp only [codes1, List.mem_cons, List.not_mem_nil, or_false] at hc
  rcases hc with rfl | rfl | rfl | rfl | rfl | rfl | rfl
  · exact w_c0
  · exact w_c1
  · exact w_c2
  · exact w_c3
  · exact w_c4
  · exact w_c5
  · exact w_c6
set_option maxRecDepth 65536 in
theorem w_t1 : (words1.take 24).all (fun c => isCode c || c.before args0 about1) = true := by decide +kernel
set_option maxRecDepth 65536 in
theorem w_t2 : (words1.drop 24).all (fun c => isCode c || c.before args0 about1) = true := by decide +kernel
theorem w_tables : (allAtoms (Jvm.Cond.code x code maxLocals ret :: tables_1)).before args0 about1 = true := by
  rw [allAtoms_all]
  show words1.all (fun c => c.before args0 about1) = true
  refine all_split ?_ w_codes
  rw [← List.take_append_drop 24 words1, List.all_append, w_t1, w_t2]
  rfl
set_option maxRecDepth 65536 in
theorem w_case : (Jvm.Cond.and given_1 narrow_1).before args0 about1 = true := by decide +kernel
theorem w_applies : (headSpec (Jvm.Cond.code x code maxLocals ret :: tables_1) room_1).applies x e0.platform about1 = true :=
  (Spec.applies_iff w_frames).mpr ⟨w_running, w_runnable, w_alone, w_named, w_hears, w_ripe, w_room, w_tables⟩
theorem atStart : AtStart classFile x code maxLocals ret World_1 tables_1 room_1 Calls_1 rest_1 Pre_1 launch0 p0 e0 about1 theMethod args0 below0 :=
  ⟨lists_1, trivial, launch0.admits_env _ _ _, launch0.least_env, fairChoices_fair.cas, fairChoices_fair.clock, w_frames, w_args, w_heap, w_applies, trivial, trivial, w_case⟩
end start1
theorem witness_1 : WitnessClaimed_1 := ⟨start1.p0, start1.e0, start1.about1, start1.theMethod, start1.args0, start1.below0, start1.atStart⟩
end Jvm.Pilot.@@N@@
