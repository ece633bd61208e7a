import JvmDerived
import JvmDerived.Pilot.@@N@@Statement
import JvmDerived.Pilot.@@N@@Code
set_option linter.unusedVariables false
set_option linter.unusedSimpArgs false
namespace Jvm.Pilot.@@N@@
open Jvm Jvm.ClassFile Sem Op Lib Jvm.Free Jvm.Stand Jvm.LawKit Jvm.RoadKit Bundle Jvm.Pilot.@@N@@.Jvm.D
section OwnKit
variable {p : Program} {l : Launch} {e : Env} {R : Room} {s : State} {m : MethodId} {args : Array Value} {below : List Frame} {meth : Method} {c : Code} {T : State} {locs : List Loc} {cells slots : Nat} {Z : State} {a0 : Array Value} {h : Heap} {ce sl : Nat} {Q : Option Value → Heap → List Loc → Prop} {S : State}
/-- a contract's last word, under a name of its own -/
def OQ (Q : Option Value → Heap → List Loc → Prop) (v : Option Value) (h : Heap) (L : List Loc) : Prop := Q v h L
theorem own_q {z r : Int32} (hr : z = r) (eT : T.heap = h) (hQ : Q (some (.int r)) h locs) : Q (some (.int z)) T.heap locs := by subst hr; rw [eT]; exact hQ
theorem own_qJ {z r : Int64} (hr : z = r) (eT : T.heap = h) (hQ : Q (some (.long r)) h locs) : Q (some (.long z)) T.heap locs := by subst hr; rw [eT]; exact hQ
/-- from S the body runs to its return, and leaves what Q says -/
def OFin (p : Program) (e : Env) (below : List Frame) (s : State) (ce sl : Nat) (Q : Option Value → Heap → List Loc → Prop) (S : State) : Prop :=
  ∃ (t : State) (o : Outcome), Steps p.tables e below S t ∧ t.status = .running ∧ Ended t below o ∧ ∃ v L, o = .returned v ∧ Q v t.heap L ∧ FrameEnd s o t L ce sl
theorem OFin.start {S' : State} (st : ∀ target, Steps p.tables e below S' target → Steps p.tables e below S target) (k : OFin p e below s ce sl Q S') :
    ∃ (t : State) (o : Outcome), Steps p.tables e below S t ∧ t.status = .running ∧ Ended t below o ∧ ∃ v L, o = .returned v ∧ Q v t.heap L ∧ FrameEnd s o t L ce sl := by
  obtain ⟨t, o, h, r⟩ := k
  exact ⟨t, o, st _ h, r⟩
theorem OFin.to (S' : State) (st : ∀ target, Steps p.tables e below S' target → Steps p.tables e below S target) (k : OFin p e below s ce sl Q S') : OFin p e below s ce sl Q S := OFin.start st k
theorem OFin.via (S' : State) (st : Steps p.tables e below S S') (k : OFin p e below s ce sl Q S') : OFin p e below s ce sl Q S := OFin.start (fun _ h => st.trans h) k
theorem OFin.mono {Q' : Option Value → Heap → List Loc → Prop} (k : OFin p e below s ce sl Q' S) (h : ∀ v h L, Q' v h L → Q v h L) : OFin p e below s ce sl Q S := by
  obtain ⟨t, o, h1, h2, h3, v, L, h4, h5, h6⟩ := k
  exact ⟨t, o, h1, h2, h3, v, L, h4, h _ _ _ h5, h6⟩
theorem OFin.retZ (X : Stand p l e R s m args below meth c T locs cells slots) (hx : p.tables.exec = Jvm.exec) {t : FieldType} (hret : meth.sig.returnType = some t) (ht : t = .boolean ∨ t = .byte ∨ t = .char ∨ t = .short) (hlk : meth.locks = false) {pc : Nat} {Ls : Array Slot} {z : Int32} {rest : List Value}
    (hd : decode c.code pc = .ok (.ireturn, 1)) (hc : cells ≤ ce) (hs : slots ≤ sl) (hQ : Q (some (.int (nar t z))) T.heap locs) : OFin p e below s ce sl Q (T.setTop (mkF m pc Ls (.int z :: rest))) := by
  obtain ⟨fs, hr, hrun, hended, hW, hsame⟩ := X.leave (v := some (.int (nar t z))) (fun h => by rw [hret] at h; cases h) hlk
  exact ⟨_, _, retN X hx hret ht hd hr, hrun, hended, _, _, rfl, hQ, ⟨_, rfl⟩, hW, hsame.mono hc hs⟩
theorem OFin.retI (X : Stand p l e R s m args below meth c T locs cells slots) (hx : p.tables.exec = Jvm.exec) (hret : meth.sig.returnType = some .int) (hlk : meth.locks = false) {pc : Nat} {Ls : Array Slot} {z : Int32} {rest : List Value}
    (hd : decode c.code pc = .ok (.ireturn, 1)) (hc : cells ≤ ce) (hs : slots ≤ sl) (hQ : Q (some (.int z)) T.heap locs) : OFin p e below s ce sl Q (T.setTop (mkF m pc Ls (.int z :: rest))) := by
  obtain ⟨fs, hr, hrun, hended, hW, hsame⟩ := X.leave (v := some (.int z)) (fun h => by rw [hret] at h; cases h) hlk
  refine ⟨_, _, ?_, hrun, hended, _, _, rfl, hQ, ⟨_, rfl⟩, hW, hsame.mono hc hs⟩
  have hm' : T.vm.method? m = some meth := X.method'
  have hn : narrow .int (.int z) = .int z := rfl
  show Steps p.tables e below (T.setTop { method := m, pc := pc, locals := Ls, stack := _ :: rest, locked := none }) _
  jvm_step X.here [X.here.top, hx, hd, hm', hret, hn]
  first | (intro acts; rw [hr _ acts rfl rfl rfl]) | rw [hr _ _ rfl rfl rfl]
  exact Steps.refl _
theorem OFin.retJ (X : Stand p l e R s m args below meth c T locs cells slots) (hx : p.tables.exec = Jvm.exec) (hret : meth.sig.returnType = some .long) (hlk : meth.locks = false) {pc : Nat} {Ls : Array Slot} {z : Int64} {rest : List Value}
    (hd : decode c.code pc = .ok (.lreturn, 1)) (hc : cells ≤ ce) (hs : slots ≤ sl) (hQ : Q (some (.long z)) T.heap locs) : OFin p e below s ce sl Q (T.setTop (mkF m pc Ls (.long z :: rest))) := by
  obtain ⟨fs, hr, hrun, hended, hW, hsame⟩ := X.leave (v := some (.long z)) (fun h => by rw [hret] at h; cases h) hlk
  refine ⟨_, _, ?_, hrun, hended, _, _, rfl, hQ, ⟨_, rfl⟩, hW, hsame.mono hc hs⟩
  have hm' : T.vm.method? m = some meth := X.method'
  show Steps p.tables e below (T.setTop { method := m, pc := pc, locals := Ls, stack := _ :: rest, locked := none }) _
  jvm_step X.here [X.here.top, hx, hd, hm', hret, narrow]
  first | (intro acts; rw [hr _ acts rfl rfl rfl]) | rw [hr _ _ rfl rfl rfl]
  exact Steps.refl _
theorem OFin.retV (X : Stand p l e R s m args below meth c T locs cells slots) (hx : p.tables.exec = Jvm.exec) (hret : meth.sig.returnType = none) (hlk : meth.locks = false) {pc : Nat} {Ls : Array Slot}
    (hd : decode c.code pc = .ok (.return_, 1)) (hc : cells ≤ ce) (hs : slots ≤ sl) (hQ : Q none T.heap locs) : OFin p e below s ce sl Q (T.setTop (mkF m pc Ls [])) := by
  obtain ⟨fs, hr, hrun, hended, hW, hsame⟩ := X.leave (v := none) (fun _ => rfl) hlk
  exact ⟨_, _, X.returnOut hx hret hd hr, hrun, hended, _, _, rfl, hQ, ⟨_, rfl⟩, hW, hsame.mono hc hs⟩
/-- a static call by the callee's contract -/
theorem own_callS {y : MethodName} {bytes : ByteArray} {maxL : Nat} {ret : Option FieldType} {rm : Room} {as' : List Value} {QQ : Option Value → Heap → List Loc → Prop} {own : String} {index : Nat}
    (X : Stand p l e R s m args below meth c T locs cells slots) (hx : p.tables.exec = Jvm.exec) (hZ : Z.Warmed39 s.vm) (hown : s.vm.findClass own = some m.cls)
    (w1 : (Cond.methodLink own index y).before a0 Z = true) (w2 : (Cond.static y).before a0 Z = true) (w3 : (Cond.initialized y.cls).before a0 Z = true) (w4 : (Cond.code y bytes maxL ret).before a0 Z = true) (hy : y.cls ≠ "java/lang/invoke/MethodHandle" ∧ y.cls ≠ "java/lang/invoke/VarHandle") (eT : T.heap = h)
    (hM : MetFree l y (head1 [Cond.code y bytes maxL ret] rm) (fun a U => a = as'.toArray ∧ Z.Warmed39 U.vm ∧ U.heap = h) (fun _ _ _ _ _ => True) (fun _ U o U' => ∃ v L, o = .returned v ∧ OQ QQ v U'.heap L ∧ FrameEnd U o U' L rm.cells rm.slots))
    (W : Nat) (hf : rm.frames + 1 ≤ R.frames) (hl : W + (maxL + 11) + rm.locals ≤ R.locals) (hc : cells + rm.cells ≤ R.cells) (hs : slots + rm.slots ≤ R.slots)
    {g : JFrame} (hg : g.method = m) (hsize : g.locals.size = c.maxLocals) {rest : List Value} (hlen : ∀ sig, parseMethodDescriptor y.desc = some sig → as'.length = sig.parameters.length) (hstack : g.stack = as'.reverse ++ rest) (hW : 2 * g.monitorRoom + (rest.map fun v => v.category).sum ≤ W) (hd : decode c.code g.pc = .ok (.invokestatic index, 3)) :
    ∃ v T' L, QQ v T'.heap L ∧ Stand p l e R s m args below meth c T' (locs ++ L) (cells + rm.cells) (slots + rm.slots) ∧ ∀ target, Steps p.tables e below (T'.setTop { g with pc := g.pc + 3, stack := v.toList ++ rest }) target → Steps p.tables e below (T.setTop g) target := by
  obtain ⟨v, _, ⟨T', L1, k1, n1⟩, -, X', ⟨L, hQ, l1, y1, z1⟩, st⟩ := Jvm.LawKit.callS X hx (y := y) hown (mvT hZ w1) (mvT hZ w2) (mvT hZ w3) (mvT hZ w4) hy (backOf (W := W) (Q := OQ QQ) hM hZ w4 w3 hf hl) (g := g) hg hsize (argsL := as') (rest := rest) hlen hstack hW hd (fun _ _ => ⟨rfl, eT, hc, hs⟩)
  dsimp only [Pt.U, Pt.locs, Pt.cells, Pt.slots] at X' l1 y1 z1 st hQ
  subst l1 y1 z1
  exact ⟨v, T', L, hQ, X', st⟩
/-- a static call of a body that writes and makes nothing -/
theorem own_callSP {y : MethodName} {bytes : ByteArray} {maxL : Nat} {ret : Option FieldType} {rm : Room} {as' : List Value} {v : Value} {own : String} {index : Nat}
    (X : Stand p l e R s m args below meth c T locs cells slots) (hx : p.tables.exec = Jvm.exec) (hZ : Z.Warmed39 s.vm) (hown : s.vm.findClass own = some m.cls)
    (w1 : (Cond.methodLink own index y).before a0 Z = true) (w2 : (Cond.static y).before a0 Z = true) (w3 : (Cond.initialized y.cls).before a0 Z = true) (w4 : (Cond.code y bytes maxL ret).before a0 Z = true) (hy : y.cls ≠ "java/lang/invoke/MethodHandle" ∧ y.cls ≠ "java/lang/invoke/VarHandle") (eT : T.heap = h)
    (hM : MetFree l y (head1 [Cond.code y bytes maxL ret] rm) (fun a U => a = as'.toArray ∧ Z.Warmed39 U.vm ∧ U.heap = h) (fun _ _ _ _ _ => True) (fun _ U o U' => ∃ v' L, o = .returned v' ∧ OQ (fun v' h' L => v' = some v ∧ h' = h ∧ L = []) v' U'.heap L ∧ FrameEnd U o U' L rm.cells rm.slots))
    (hrc : rm.cells = 0) (hrs : rm.slots = 0) (W : Nat) (hf : rm.frames + 1 ≤ R.frames) (hl : W + (maxL + 11) + rm.locals ≤ R.locals) (hc : cells ≤ R.cells) (hs : slots ≤ R.slots)
    {g : JFrame} (hg : g.method = m) (hsize : g.locals.size = c.maxLocals) {rest : List Value} (hlen : ∀ sig, parseMethodDescriptor y.desc = some sig → as'.length = sig.parameters.length) (hstack : g.stack = as'.reverse ++ rest) (hW : 2 * g.monitorRoom + (rest.map fun v => v.category).sum ≤ W) (hd : decode c.code g.pc = .ok (.invokestatic index, 3)) :
    ∃ T', Stand p l e R s m args below meth c T' locs cells slots ∧ T'.heap = h ∧ ∀ target, Steps p.tables e below (T'.setTop { g with pc := g.pc + 3, stack := v :: rest }) target → Steps p.tables e below (T.setTop g) target := by
  obtain ⟨v', T', L, ⟨rfl, hh, rfl⟩, X', st⟩ := own_callS X hx hZ hown w1 w2 w3 w4 hy eT hM W hf hl (by rw [hrc]; exact hc) (by rw [hrs]; exact hs) hg hsize hlen hstack hW hd
  rw [hrc, hrs, List.append_nil] at X'
  exact ⟨T', X', hh, st⟩
theorem OFin.retA (X : Stand p l e R s m args below meth c T locs cells slots) (hx : p.tables.exec = Jvm.exec) {t : FieldType} (hret : meth.sig.returnType = some t) (ht : t.isReference = true) (hlk : meth.locks = false) {pc : Nat} {Ls : Array Slot} {a : Addr} {rest : List Value}
    (hd : decode c.code pc = .ok (.areturn, 1)) (hc : cells ≤ ce) (hs : slots ≤ sl) (hQ : Q (some (.ref a)) T.heap locs) : OFin p e below s ce sl Q (T.setTop (mkF m pc Ls (.ref a :: rest))) := by
  obtain ⟨fs, hr, hrun, hended, hW, hsame⟩ := X.leave (v := some (.ref a)) (fun h => by rw [hret] at h; cases h) hlk
  refine ⟨_, _, ?_, hrun, hended, _, _, rfl, hQ, ⟨_, rfl⟩, hW, hsame.mono hc hs⟩
  have hm' : T.vm.method? m = some meth := X.method'
  show Steps p.tables e below (T.setTop { method := m, pc := pc, locals := Ls, stack := _ :: rest, locked := none }) _
  jvm_step X.here [X.here.top, hx, hd, hm', hret, ht, Value.isRef]
  first | (intro acts; rw [hr _ acts rfl rfl rfl]) | rw [hr _ _ rfl rfl rfl]
  exact Steps.refl _
theorem own_nar0 : nar .boolean (0 : Int32) = 0 := by decide
theorem own_nar1 : nar .boolean (1 : Int32) = 1 := by decide
end OwnKit
section OwnArr
variable {p : Program} {l : Launch} {e : Env} {R : Room} {s : State} {m : MethodId} {args : Array Value} {below : List Frame} {meth : Method} {c : Code} {T : State} {locs : List Loc} {cells slots : Nat} {Z : State} {a0 : Array Value} {h h' : Heap} {a b : Addr} {ty : FieldType} {vs : List Value} {v : Value} {i : Nat}
/-- the array at a holds just these -/
def OArr (Z : State) (h : Heap) (a : Addr) (ty : FieldType) (vs : List Value) : Prop := ∃ cl : Cell, Arr Z h a cl ty ∧ cl.slots = vs.toArray
theorem OArr.lt (V : OArr Z h a ty vs) : a < h.size := by obtain ⟨cl, A, -⟩ := V; exact A.lt
theorem OArr.ext (V : OArr Z h a ty vs) (E : Ext h h') : OArr Z h' a ty vs := by obtain ⟨cl, A, r⟩ := V; exact ⟨cl, A.ext E, r⟩
theorem OArr.other (V : OArr Z h b ty vs) (W : Wr h h' a i v) (q : b ≠ a) : OArr Z h' b ty vs := by obtain ⟨cl, A, r⟩ := V; exact ⟨cl, A.other W q, r⟩
theorem OArr.keep {ws : List Addr} (V : OArr Z h a ty vs) (K : Keep h h' ws) (q : a ∉ ws) : OArr Z h' a ty vs := by obtain ⟨cl, A, r⟩ := V; exact ⟨cl, ⟨K.2.1 a cl A.1 q, A.2⟩, r⟩
theorem OArr.set (V : OArr Z h a ty vs) (W : Wr h h' a i v) : OArr Z h' a ty (vs.set i v) := by
  obtain ⟨cl, A, r⟩ := V
  exact ⟨_, A.same W, by simp [Cell.setSlot, r]⟩
theorem own_newP (X : Stand p l e R s m args below meth c T locs cells slots) (hx : p.tables.exec = Jvm.exec) (hZ : Z.Warmed39 s.vm) {aty : ArrayType} (w : (Cond.arrayClass (newarray.typeOf aty)).before a0 Z = true) (eT : T.heap = h) {g : JFrame} (hg : g.method = m) (hd : decode c.code g.pc = .ok (.newarray aty, 2)) {n : Int32} {rest : List Value} (hs : g.stack = .int n :: rest)
    (hn : ¬ n < 0) (N : Nat) (hN : n.toNatClampNeg = N) {cap : Nat} (hcap : N ≤ cap) (hb : cap * 8 ≤ 536870912) (hc : cells + 1 ≤ R.cells) (hl : slots + cap ≤ R.slots) :
    ∃ T' h', Stand p l e R s m args below meth c T' locs (cells + 1) (slots + cap) ∧ T'.heap = h' ∧ Ext h h' ∧ OArr Z h' h.size (newarray.typeOf aty) (List.replicate N (defaultValue (newarray.typeOf aty))) ∧
      ∀ target, Steps p.tables e below (T'.setTop { g with pc := g.pc + 2, stack := .ref h.size :: rest }) target → Steps p.tables e below (T.setTop g) target := by
  obtain ⟨T', h', cA, X', e', E, A, st⟩ := newP X hx hZ w eT hg hd hs hn (cap := cap) (by rw [hN]; exact hcap) hb hc hl
  exact ⟨T', h', X', e', E, ⟨_, A, by simp [newA, hN]⟩, st⟩
theorem own_in (V : OArr Z h a ty vs) : ∃ cl : Cell, Arr Z h a cl ty ∧ cl.slots = vs.toArray ∧ ∀ j : Int32, ¬ j < 0 → j.toNatClampNeg < vs.length → ¬ (j < 0 ∨ cl.slots.size ≤ j.toNatClampNeg) := by
  obtain ⟨cl, A, r⟩ := V
  refine ⟨cl, A, r, fun j h1 h2 h3 => h3.elim h1 fun q => ?_⟩
  rw [r] at q
  simp at q
  omega
theorem own_stI (X : Stand p l e R s m args below meth c T locs cells slots) (hx : p.tables.exec = Jvm.exec) (hZ : Z.Warmed39 s.vm) (eT : T.heap = h) (V : OArr Z h a .int vs) {j x : Int32} (i : Nat) (hj0 : ¬ j < 0) (hj : j.toNatClampNeg = i) (hi : i < vs.length) {g : JFrame} (hg : g.method = m) {rest : List Value} (hs : g.stack = .int x :: .int j :: .ref a :: rest) (hd : decode c.code g.pc = .ok (.iastore, 1)) :
    ∃ T' h', Stand p l e R s m args below meth c T' (locs ++ [⟨a, i⟩]) cells slots ∧ T'.heap = h' ∧ Wr h h' a i (.int x) ∧ OArr Z h' a .int (vs.set i (.int x)) ∧ ∀ target, Steps p.tables e below (T'.setTop { g with pc := g.pc + 1, stack := rest }) target → Steps p.tables e below (T.setTop g) target := by
  obtain ⟨cl, A, r, q⟩ := own_in V
  subst hj
  obtain ⟨T', h', X', e', W, st⟩ := stI X hx hZ eT A (j := j) (q j hj0 hi) hg hs hd
  exact ⟨T', h', X', e', W, V.set W, st⟩
theorem own_stJ (X : Stand p l e R s m args below meth c T locs cells slots) (hx : p.tables.exec = Jvm.exec) (hZ : Z.Warmed39 s.vm) (eT : T.heap = h) (V : OArr Z h a .long vs) {j : Int32} {x : Int64} (i : Nat) (hj0 : ¬ j < 0) (hj : j.toNatClampNeg = i) (hi : i < vs.length) {g : JFrame} (hg : g.method = m) {rest : List Value} (hs : g.stack = .long x :: .int j :: .ref a :: rest) (hd : decode c.code g.pc = .ok (.lastore, 1)) :
    ∃ T' h', Stand p l e R s m args below meth c T' (locs ++ [⟨a, i⟩]) cells slots ∧ T'.heap = h' ∧ Wr h h' a i (.long x) ∧ OArr Z h' a .long (vs.set i (.long x)) ∧ ∀ target, Steps p.tables e below (T'.setTop { g with pc := g.pc + 1, stack := rest }) target → Steps p.tables e below (T.setTop g) target := by
  obtain ⟨cl, A, r, q⟩ := own_in V
  subst hj
  obtain ⟨T', h', X', e', W, st⟩ := stJ X hx hZ eT A (j := j) (q j hj0 hi) hg hs hd
  exact ⟨T', h', X', e', W, V.set W, st⟩
theorem own_stB (X : Stand p l e R s m args below meth c T locs cells slots) (hx : p.tables.exec = Jvm.exec) (hZ : Z.Warmed39 s.vm) (eT : T.heap = h) (V : OArr Z h a .byte vs) {j x : Int32} (i : Nat) (hj0 : ¬ j < 0) (hj : j.toNatClampNeg = i) (hi : i < vs.length) {g : JFrame} (hg : g.method = m) {rest : List Value} (hs : g.stack = .int x :: .int j :: .ref a :: rest) (hd : decode c.code g.pc = .ok (.bastore, 1)) :
    ∃ T' h', Stand p l e R s m args below meth c T' (locs ++ [⟨a, i⟩]) cells slots ∧ T'.heap = h' ∧ Wr h h' a i (.int (nar .byte x)) ∧ OArr Z h' a .byte (vs.set i (.int (nar .byte x))) ∧ ∀ target, Steps p.tables e below (T'.setTop { g with pc := g.pc + 1, stack := rest }) target → Steps p.tables e below (T.setTop g) target := by
  obtain ⟨cl, A, r, q⟩ := own_in V
  subst hj
  obtain ⟨T', h', X', e', W, st⟩ := stB X hx hZ eT A (j := j) (q j hj0 hi) hg hs hd
  exact ⟨T', h', X', e', W, V.set W, st⟩
theorem own_ldI (X : Stand p l e R s m args below meth c T locs cells slots) (hx : p.tables.exec = Jvm.exec) (hZ : Z.Warmed39 s.vm) (eT : T.heap = h) (V : OArr Z h a .int vs) {j : Int32} {v : Value} (hj0 : ¬ j < 0) (hv : vs[j.toNatClampNeg]? = some v) {g : JFrame} (hg : g.method = m) {rest : List Value} (hs : g.stack = .int j :: .ref a :: rest) (hd : decode c.code g.pc = .ok (.iaload, 1)) (target : State)
    (hr : Steps p.tables e below (T.setTop { g with pc := g.pc + 1, stack := v :: rest }) target) : Steps p.tables e below (T.setTop g) target := by
  obtain ⟨cl, A, r, q⟩ := own_in V
  exact X.iaload hx (j := j) (v := v) (by rw [eT]; exact A.1) (State.isArrayOf_alike hZ.alike A.2.1) A.2.2 (q j hj0 (List.getElem?_eq_some_iff.mp hv).1) (by rw [r]; simpa using hv) hg hs hd _ hr
theorem own_ldJ (X : Stand p l e R s m args below meth c T locs cells slots) (hx : p.tables.exec = Jvm.exec) (hZ : Z.Warmed39 s.vm) (eT : T.heap = h) (V : OArr Z h a .long vs) {j : Int32} {v : Value} (hj0 : ¬ j < 0) (hv : vs[j.toNatClampNeg]? = some v) {g : JFrame} (hg : g.method = m) {rest : List Value} (hs : g.stack = .int j :: .ref a :: rest) (hd : decode c.code g.pc = .ok (.laload, 1)) (target : State)
    (hr : Steps p.tables e below (T.setTop { g with pc := g.pc + 1, stack := v :: rest }) target) : Steps p.tables e below (T.setTop g) target := by
  obtain ⟨cl, A, r, q⟩ := own_in V
  exact X.laload hx (j := j) (v := v) (by rw [eT]; exact A.1) (State.isArrayOf_alike hZ.alike A.2.1) A.2.2 (q j hj0 (List.getElem?_eq_some_iff.mp hv).1) (by rw [r]; simpa using hv) hg hs hd _ hr
theorem own_ldB (X : Stand p l e R s m args below meth c T locs cells slots) (hx : p.tables.exec = Jvm.exec) (hZ : Z.Warmed39 s.vm) (eT : T.heap = h) (V : OArr Z h a .byte vs) {j : Int32} {v : Value} (hj0 : ¬ j < 0) (hv : vs[j.toNatClampNeg]? = some v) {g : JFrame} (hg : g.method = m) {rest : List Value} (hs : g.stack = .int j :: .ref a :: rest) (hd : decode c.code g.pc = .ok (.baload, 1)) (target : State)
    (hr : Steps p.tables e below (T.setTop { g with pc := g.pc + 1, stack := v :: rest }) target) : Steps p.tables e below (T.setTop g) target := by
  obtain ⟨cl, A, r, q⟩ := own_in V
  exact X.baloadBytes hx (j := j) (v := v) (by rw [eT]; exact A.1) (State.isArrayOf_alike hZ.alike A.2.1) A.2.2 (q j hj0 (List.getElem?_eq_some_iff.mp hv).1) (by rw [r]; simpa using hv) hg hs hd _ hr
theorem own_ldR (X : Stand p l e R s m args below meth c T locs cells slots) (hx : p.tables.exec = Jvm.exec) (hZ : Z.Warmed39 s.vm) (eT : T.heap = h) (V : OArr Z h a ty vs) (hty : ty.isReference = true) {j : Int32} {v : Value} (hj0 : ¬ j < 0) (hv : vs[j.toNatClampNeg]? = some v) {g : JFrame} (hg : g.method = m) {rest : List Value} (hs : g.stack = .int j :: .ref a :: rest) (hd : decode c.code g.pc = .ok (.aaload, 1)) (target : State)
    (hr : Steps p.tables e below (T.setTop { g with pc := g.pc + 1, stack := v :: rest }) target) : Steps p.tables e below (T.setTop g) target := by
  obtain ⟨cl, A, r, q⟩ := own_in V
  exact X.aaload hx (j := j) (v := v) (by rw [eT]; exact A.1) (State.isArrayOf_alike hZ.alike A.2.1) hty A.2.2 (q j hj0 (List.getElem?_eq_some_iff.mp hv).1) (by rw [r]; simpa using hv) hg hs hd _ hr
theorem own_len (X : Stand p l e R s m args below meth c T locs cells slots) (hx : p.tables.exec = Jvm.exec) (hZ : Z.Warmed39 s.vm) (eT : T.heap = h) (V : OArr Z h a ty vs) {n : Int32} (hn : vs.length.toInt32 = n) {g : JFrame} (hg : g.method = m) {rest : List Value} (hs : g.stack = .ref a :: rest) (hd : decode c.code g.pc = .ok (.arraylength, 1)) (target : State)
    (hr : Steps p.tables e below (T.setTop { g with pc := g.pc + 1, stack := .int n :: rest }) target) : Steps p.tables e below (T.setTop g) target := by
  obtain ⟨cl, A, r, q⟩ := own_in V
  refine X.arraylength hx (by rw [eT]; exact A.1) (State.isArrayOf_alike hZ.alike A.2.1) hg hs hd _ ?_
  rw [r]
  rw [← hn] at hr
  simpa using hr
end OwnArr
section OwnCalls
variable {p : Program} {l : Launch} {e : Env} {R : Room} {s : State} {m : MethodId} {args : Array Value} {below : List Frame} {meth : Method} {c : Code} {T : State} {locs : List Loc} {cells slots : Nat} {Z : State} {a0 : Array Value} {h : Heap} {b : Addr} {y y' : MethodName} {bytes : ByteArray} {maxL : Nat} {ret : Option FieldType} {rm : Room} {as' : List Value} {QQ : Option Value → Heap → List Loc → Prop} {own C : String} {index : Nat}
/-- an instance method of the object's own class by its contract -/
theorem own_callV (X : Stand p l e R s m args below meth c T locs cells slots) (hx : p.tables.exec = Jvm.exec) (hZ : Z.Warmed39 s.vm) (hown : s.vm.findClass own = some m.cls)
    (w1 : (Cond.methodLink own index y).before a0 Z = true) (w2 : (Cond.declares y).before a0 Z = true) (w3 : (Cond.selects C y y).before a0 Z = true) (w4 : (Cond.instanceMethod y).before a0 Z = true) (w5 : (Cond.code y bytes maxL ret).before a0 Z = true) (w6 : (Cond.initialized y.cls).before a0 Z = true) (hy : y.cls ≠ "java/lang/invoke/MethodHandle" ∧ y.cls ≠ "java/lang/invoke/VarHandle") (eT : T.heap = h) (E : Exa Z h b C)
    (hM : MetFree l y (head1 [Cond.code y bytes maxL ret] rm) (fun a U => a = (.ref b :: as').toArray ∧ Z.Warmed39 U.vm ∧ U.heap = h) (fun _ _ _ _ _ => True) (fun _ U o U' => ∃ v L, o = .returned v ∧ OQ QQ v U'.heap L ∧ FrameEnd U o U' L rm.cells rm.slots))
    (W : Nat) (hf : rm.frames + 1 ≤ R.frames) (hl : W + (maxL + 11) + rm.locals ≤ R.locals) (hc : cells + rm.cells ≤ R.cells) (hs : slots + rm.slots ≤ R.slots)
    {g : JFrame} (hg : g.method = m) (hsize : g.locals.size = c.maxLocals) {rest : List Value} (hlen : ∀ sig, parseMethodDescriptor y.desc = some sig → as'.length = sig.parameters.length) (hstack : g.stack = as'.reverse ++ .ref b :: rest) (hW : 2 * g.monitorRoom + (rest.map fun v => v.category).sum ≤ W) (hd : decode c.code g.pc = .ok (.invokevirtual index, 3)) :
    ∃ v T' L, QQ v T'.heap L ∧ Stand p l e R s m args below meth c T' (locs ++ L) (cells + rm.cells) (slots + rm.slots) ∧ ∀ target, Steps p.tables e below (T'.setTop { g with pc := g.pc + 3, stack := v.toList ++ rest }) target → Steps p.tables e below (T.setTop g) target := by
  obtain ⟨cq, kq, qa, qb, qc⟩ := isOf hZ eT E
  obtain ⟨v, _, ⟨T', L1, k1, n1⟩, -, X', ⟨L, hQ, l1, y1, z1⟩, st⟩ := X.virtualBack hx (y := y) (z := y) hown (mvT hZ w1) (mvT hZ w2) (notFace_of_selects (args := #[]) (mvT hZ w3)) (mvT hZ w3) (mvT hZ w4) hy (backOf (W := W) (Q := OQ QQ) hM hZ w5 w6 hf hl) qa qc (g := g) hg hsize (Steps.refl _) (argsL := as') (rest := rest) hlen hstack hW hd (fun _ _ => ⟨rfl, eT, hc, hs⟩)
  dsimp only [Pt.U, Pt.locs, Pt.cells, Pt.slots] at X' l1 y1 z1 st hQ
  subst l1 y1 z1
  exact ⟨v, T', L, hQ, X', fun _ k => st.trans k⟩
/-- a constructor by its contract -/
theorem own_callN (X : Stand p l e R s m args below meth c T locs cells slots) (hx : p.tables.exec = Jvm.exec) (hZ : Z.Warmed39 s.vm) (hown : s.vm.findClass own = some m.cls) (hy1 : y.name = "<init>")
    (w1 : (Cond.methodLink own index y).before a0 Z = true) (w4 : (Cond.instanceMethod y).before a0 Z = true) (w5 : (Cond.code y bytes maxL none).before a0 Z = true) (w6 : (Cond.initialized y.cls).before a0 Z = true) (hy : y.cls ≠ "java/lang/invoke/MethodHandle" ∧ y.cls ≠ "java/lang/invoke/VarHandle") (eT : T.heap = h)
    (hM : MetFree l y (head1 [Cond.code y bytes maxL none] rm) (fun a U => a = (.ref b :: as').toArray ∧ Z.Warmed39 U.vm ∧ U.heap = h) (fun _ _ _ _ _ => True) (fun _ U o U' => ∃ v L, o = .returned v ∧ OQ QQ v U'.heap L ∧ FrameEnd U o U' L rm.cells rm.slots))
    (W : Nat) (hf : rm.frames + 1 ≤ R.frames) (hl : W + (maxL + 11) + rm.locals ≤ R.locals) (hc : cells + rm.cells ≤ R.cells) (hs : slots + rm.slots ≤ R.slots)
    {g : JFrame} (hg : g.method = m) (hsize : g.locals.size = c.maxLocals) {rest : List Value} (hlen : ∀ sig, parseMethodDescriptor y.desc = some sig → as'.length = sig.parameters.length) (hstack : g.stack = as'.reverse ++ .ref b :: rest) (hW : 2 * g.monitorRoom + (rest.map fun v => v.category).sum ≤ W) (hd : decode c.code g.pc = .ok (.invokespecial index, 3)) :
    ∃ v T' L, QQ v T'.heap L ∧ Stand p l e R s m args below meth c T' (locs ++ L) (cells + rm.cells) (slots + rm.slots) ∧ ∀ target, Steps p.tables e below (T'.setTop { g with pc := g.pc + 3, stack := v.toList ++ rest }) target → Steps p.tables e below (T.setTop g) target := by
  obtain ⟨v, _, ⟨T', L1, k1, n1⟩, -, X', ⟨L, hQ, l1, y1, z1⟩, st⟩ := X.specialBack hx (y := y) hy1 hown (mvT hZ w1) (mvT hZ w4) (mvT hZ w5) hy (backOf (W := W) (Q := OQ QQ) hM hZ w5 w6 hf hl) (g := g) hg hsize (Steps.refl _) (a := b) (argsL := as') (rest := rest) hlen hstack hW hd (fun _ _ => ⟨rfl, eT, hc, hs⟩)
  dsimp only [Pt.U, Pt.locs, Pt.cells, Pt.slots] at X' l1 y1 z1 st hQ
  subst l1 y1 z1
  exact ⟨v, T', L, hQ, X', fun _ k => st.trans k⟩
/-- a private method is what its own class selects (by another method's word the class is no interface) -/
theorem own_selP (hZ : Z.Warmed39 s.vm) (w3 : (Cond.selects C y' y').before a0 Z = true) (hc : y'.cls = y.cls) (wp : (Cond.privateMethod y).before a0 Z = true) (wi : (Cond.instanceMethod y).before a0 Z = true) (hy : y.cls ≠ "java/lang/invoke/MethodHandle" ∧ y.cls ≠ "java/lang/invoke/VarHandle") : (Cond.selects y.cls y y).before args s = true := by
  have ws : (Cond.selects C y' y').before args s = true := mvT hZ w3
  obtain ⟨c2, r2, m2, -, -, q3, -, kP, hkP, hkPi⟩ := Cond.selects_spec ws
  exact selects_self_of_private (c := m2.cls) (k := kP) (by rw [← hc]; exact findClass_of_methodNamed q3) hkP hkPi (Cond.privateMethod_at (mvP hZ wp (args := #[]))) (mvT hZ wi) hy
/-- a private method by its contract -/
theorem own_callP (X : Stand p l e R s m args below meth c T locs cells slots) (hx : p.tables.exec = Jvm.exec) (hZ : Z.Warmed39 s.vm) (hown : s.vm.findClass own = some m.cls)
    (w1 : (Cond.methodLink own index y).before a0 Z = true) (hsel : (Cond.selects y.cls y y).before args s = true) (wp : (Cond.privateMethod y).before a0 Z = true) (w4 : (Cond.instanceMethod y).before a0 Z = true) (w5 : (Cond.code y bytes maxL ret).before a0 Z = true) (w6 : (Cond.initialized y.cls).before a0 Z = true) (hy : y.cls ≠ "java/lang/invoke/MethodHandle" ∧ y.cls ≠ "java/lang/invoke/VarHandle") (eT : T.heap = h) (E : Exa Z h b C)
    (hM : MetFree l y (head1 [Cond.code y bytes maxL ret] rm) (fun a U => a = (.ref b :: as').toArray ∧ Z.Warmed39 U.vm ∧ U.heap = h) (fun _ _ _ _ _ => True) (fun _ U o U' => ∃ v L, o = .returned v ∧ OQ QQ v U'.heap L ∧ FrameEnd U o U' L rm.cells rm.slots))
    (W : Nat) (hf : rm.frames + 1 ≤ R.frames) (hl : W + (maxL + 11) + rm.locals ≤ R.locals) (hc : cells + rm.cells ≤ R.cells) (hs : slots + rm.slots ≤ R.slots)
    {g : JFrame} (hg : g.method = m) (hsize : g.locals.size = c.maxLocals) {rest : List Value} (hlen : ∀ sig, parseMethodDescriptor y.desc = some sig → as'.length = sig.parameters.length) (hstack : g.stack = as'.reverse ++ .ref b :: rest) (hW : 2 * g.monitorRoom + (rest.map fun v => v.category).sum ≤ W) (hd : decode c.code g.pc = .ok (.invokevirtual index, 3)) :
    ∃ v T' L, QQ v T'.heap L ∧ Stand p l e R s m args below meth c T' (locs ++ L) (cells + rm.cells) (slots + rm.slots) ∧ ∀ target, Steps p.tables e below (T'.setTop { g with pc := g.pc + 3, stack := v.toList ++ rest }) target → Steps p.tables e below (T.setTop g) target := by
  obtain ⟨cq, q1, q2⟩ := E.cell
  obtain ⟨v, _, ⟨T', L1, k1, n1⟩, -, X', ⟨L, hQ, l1, y1, z1⟩, st⟩ := X.privateBack hx (y := y) hown (mvT hZ w1) (mvT hZ w4) hsel (Cond.privateMethod_at (mvP hZ wp (args := #[]))) (mvT hZ w5) hy (backOf (W := W) (Q := OQ QQ) hM hZ w5 w6 hf hl) (g := g) hg hsize (Steps.refl _) (a := b) (by rw [eT]; exact q1) q2 (argsL := as') (rest := rest) hlen hstack hW hd (fun _ _ => ⟨rfl, eT, hc, hs⟩)
  dsimp only [Pt.U, Pt.locs, Pt.cells, Pt.slots] at X' l1 y1 z1 st hQ
  subst l1 y1 z1
  exact ⟨v, T', L, hQ, X', fun _ k => st.trans k⟩
end OwnCalls
section OwnFn
variable {Z : State} {h h' : Heap} {a b : Addr} {ty : FieldType} {n i j : Nat} {v : Value} {f : Nat → Value}
theorem own_rset (n i : Nat) (f : Nat → Value) (v : Value) : ((List.range n).map f).set i v = (List.range n).map (fun j => if j = i then v else f j) := by
  apply List.ext_getElem
  · simp
  · intro j h1 h2
    simp only [List.getElem_set, List.getElem_map, List.getElem_range]
    by_cases q : i = j
    · subst q; simp
    · rw [if_neg q, if_neg (fun r => q r.symm)]
theorem own_rat (f : Nat → Value) (h : j < n) : ((List.range n).map f)[j]? = some (f j) := by simp [h]
theorem own_rep (n : Nat) (v : Value) : List.replicate n v = (List.range n).map (fun _ => v) := by
  apply List.ext_getElem
  · simp
  · intro j h1 h2; simp
/-- the array at a has n places; place j holds f j -/
def OFn (Z : State) (h : Heap) (a : Addr) (ty : FieldType) (n : Nat) (f : Nat → Value) : Prop := OArr Z h a ty ((List.range n).map f)
theorem OFn.set (V : OFn Z h a ty n f) (W : Wr h h' a i v) : OFn Z h' a ty n (fun j => if j = i then v else f j) := by
  have q := OArr.set V W
  rw [own_rset] at q
  exact q
theorem OFn.lt (V : OFn Z h a ty n f) : a < h.size := OArr.lt V
theorem OFn.ext (V : OFn Z h a ty n f) (E : Ext h h') : OFn Z h' a ty n f := OArr.ext V E
theorem OFn.other (V : OFn Z h b ty n f) (W : Wr h h' a i v) (q : b ≠ a) : OFn Z h' b ty n f := OArr.other V W q
theorem OFn.keep {ws : List Addr} (V : OFn Z h a ty n f) (K : Keep h h' ws) (q : a ∉ ws) : OFn Z h' a ty n f := OArr.keep V K q
theorem own_rlen (f : Nat → Value) : ((List.range n).map f).length = n := by simp
theorem own_ix (k : Nat) (hk : k < 1000000) : ¬ Int32.ofNat k < 0 ∧ (Int32.ofNat k).toNatClampNeg = k := by
  have h1 : (Int32.ofNat k).toInt = k := Int32.toInt_ofNat_small (by omega)
  have h2 : (Int32.ofNat k).toNatClampNeg = (Int32.ofNat k).toInt.toNat := rfl
  have h0 : (0 : Int32).toInt = 0 := rfl
  rw [Int32.lt_iff_toInt_lt, h2]
  omega
theorem own_ofAdd (a b : Nat) : Int32.ofNat a + Int32.ofNat b = Int32.ofNat (a + b) := (Int32.ofNat_add a b).symm
theorem own_ofLt (a b : Nat) (ha : a < 2 ^ 31) (hb : b < 2 ^ 31) : Int32.ofNat a < Int32.ofNat b ↔ a < b := by
  rw [Int32.lt_iff_toInt_lt, Int32.toInt_ofNat_small ha, Int32.toInt_ofNat_small hb]
  omega
theorem own_ofEq (a b : Nat) (ha : a < 2 ^ 31) (hb : b < 2 ^ 31) : Int32.ofNat a = Int32.ofNat b ↔ a = b := by
  constructor
  · intro h
    have h1 := congrArg Int32.toInt h
    rw [Int32.toInt_ofNat_small ha, Int32.toInt_ofNat_small hb] at h1
    omega
  · rintro rfl; rfl
theorem own_low (x m : Int32) (k : Nat) (hk : k ≤ 31) (hm : m.toBitVec.toNat = 2 ^ k - 1) : ∃ j : Nat, j < 2 ^ k ∧ (x &&& m) = Int32.ofNat j := by
  have h := c_mask x m k hk hm
  have hp : (0 : Int) < ((2 ^ k : Nat) : Int) := Int.ofNat_lt.mpr (Nat.two_pow_pos k)
  have h1 := Int.emod_nonneg x.toInt (Int.ne_of_gt hp)
  have h2 := Int.emod_lt_of_pos x.toInt hp
  have h3 : (2 ^ k : Nat) ≤ 2 ^ 31 := Nat.pow_le_pow_right (by decide) hk
  refine ⟨(x &&& m).toInt.toNat, by omega, ?_⟩
  apply Int32.toInt_inj.mp
  rw [Int32.toInt_ofNat_small (by omega)]
  omega
end OwnFn
section OwnArv
variable {Z : State} {h h' : Heap} {a o : Addr} {n : Nat} {f : Nat → Int32} {ty : FieldType} {C : String} {a0 : Array Value} {kk : Nat} {fv : Nat → Value}
theorem own_toArv (V : OFn Z h a .int n (fun j => .int (f j))) (hn : n < 1000000) : ∃ k, Arv Z h a k .int (Int32.ofNat n) ((List.range n).map (fun j => Value.int (f j))) (.int 0) := by
  obtain ⟨cl, A, r⟩ := V
  have q := own_ix n hn
  have sz : cl.slots.size = n := by rw [r]; simp
  refine ⟨cl.cls, cl, A, rfl, by rw [q.2, sz], q.1, fun j hj => ?_, fun j hj => ?_⟩
  · rw [sz] at hj
    rw [r]
    simp [List.getD_eq_getElem?_getD, hj]
  · rw [sz] at hj
    simp [List.getD_eq_getElem?_getD, hj, fits]
theorem own_ofArv {k : ClassId} {vs : List Value} {d : Value} (A : Arv Z h a k ty (Int32.ofNat n) vs d) (hn : n < 1000000) (hf : ∀ j, j < n → vs.getD j d = fv j) : OFn Z h a ty n fv := by
  obtain ⟨cl, A, -, S, -, H, -⟩ := A
  have q := own_ix n hn
  rw [q.2] at S
  refine ⟨cl, A, ?_⟩
  apply Array.ext
  · simp [S]
  · intro j h1 h2
    have h3 : j < n := by rw [← S]; exact h1
    have h4 := H j h1
    rw [hf j h3, Array.getElem?_eq_getElem h1] at h4
    simpa using Option.some.inj h4
theorem own_neVO (E : Exa Z h o C) (wi : (Cond.instantiable C kk).before a0 Z = true) (V : OFn Z h a ty n fv) : a ≠ o := by
  obtain ⟨cl, A, -⟩ := V
  exact (ne_arr E wi A).symm
end OwnArv
theorem pd_0 : parseMethodDescriptor "(III)V" = some ⟨[.int, .int, .int], none⟩ := by decide +kernel
theorem pd_1 : parseMethodDescriptor "(II)I" = some ⟨[.int, .int], some .int⟩ := by decide +kernel
theorem pd_2 : parseMethodDescriptor "(JJ)J" = some ⟨[.long, .long], some .long⟩ := by decide +kernel
theorem pd_3 : parseMethodDescriptor "([II)[I" = some ⟨[(.array .int), .int], some (.array .int)⟩ := by decide +kernel
theorem pd_4 : parseMethodDescriptor "([IIII)V" = some ⟨[(.array .int), .int, .int, .int], none⟩ := by decide +kernel
theorem pd_5 : parseMethodDescriptor "(I)V" = some ⟨[.int], none⟩ := by decide +kernel
theorem pd_6 : parseMethodDescriptor "(I)I" = some ⟨[.int], some .int⟩ := by decide +kernel
theorem pd_7 : parseMethodDescriptor "(II)V" = some ⟨[.int, .int], none⟩ := by decide +kernel
def OCol (Z : State) (h : Heap) (o a : Addr) (n : Nat) (f : Nat → Int32) (d : Int32) : Prop := Exa Z h o "com/example/fixpoint_checker/fixpointchecker/formula/IntColumn" ∧ Fld Z h o "com/example/fixpoint_checker/fixpointchecker/formula/IntColumn" "values" "[I" (.ref a) ∧ Fld Z h o "com/example/fixpoint_checker/fixpointchecker/formula/IntColumn" "defaultValue" "I" (.int d) ∧ OFn Z h a .int n (fun j => .int (f j))
def own_get (n : Nat) (f : Nat → Int32) (d : Int32) (k : Nat) : Int32 := if k < n then f k else d
theorem own_fnC {Z : State} {h : Heap} {a : Addr} {ty : FieldType} {n : Nat} {f g : Nat → Value} (V : OFn Z h a ty n f) (e : ∀ j, j < n → f j = g j) : OFn Z h a ty n g := by
  have q : (List.range n).map f = (List.range n).map g := List.map_congr_left fun j hj => e j (List.mem_range.mp hj)
  unfold OFn
  rw [← q]
  exact V
theorem own_setA (n k : Nat) (f : Nat → Int32) (d w : Int32) (h : k < n) (j : Nat) : own_get n (fun j => if j = k then w else f j) d j = if j = k then w else own_get n f d j := by
  unfold own_get
  by_cases q : j = k
  · subst q; simp [h]
  · simp [q]
theorem own_setB (n k : Nat) (f : Nat → Int32) (d w : Int32) (h : ¬ k < n) (e : w = d) (j : Nat) : own_get n f d j = if j = k then w else own_get n f d j := by
  by_cases q : j = k
  · subst q; rw [if_pos rfl, own_get, if_neg h, e]
  · rw [if_neg q]
theorem own_setC (n cc k : Nat) (f : Nat → Int32) (d w : Int32) (h : ¬ k < n) (h1 : k < cc) (h2 : n < cc) (j : Nat) : own_get cc (fun j => if j = k then w else if n ≤ j then d else f j) d j = if j = k then w else own_get n f d j := by
  unfold own_get
  by_cases q : j = k
  · subst q; simp [h1]
  · simp only [if_neg q]
    by_cases q1 : j < n
    · rw [if_pos (by omega), if_neg (by omega), if_pos q1]
    · rw [if_neg q1]
      by_cases q2 : j < cc
      · rw [if_pos q2, if_pos (by omega)]
      · rw [if_neg q2]
theorem own_cpy (n cc : Nat) (h : n ≤ cc) (hc : cc < 1000000) (f : Nat → Int32) : ∀ j, j < cc → ((((List.range cc).map (fun j => Value.int ((fun _ => 0 : Nat → Int32) j))).take (0 : Int32).toNatClampNeg ++ (List.range (Int32.ofNat n).toNatClampNeg).map (fun i => ((List.range n).map (fun j => Value.int (f j))).getD ((0 : Int32).toNatClampNeg + i) (.int 0)) ++ ((List.range cc).map (fun j => Value.int ((fun _ => 0 : Nat → Int32) j))).drop ((0 : Int32).toNatClampNeg + (Int32.ofNat n).toNatClampNeg)).getD j (.int 0)) = (if j < n then Value.int (f j) else Value.int 0) := by
  intro j hj
  have i0 : (0 : Int32).toNatClampNeg = 0 := rfl
  rw [i0, (own_ix n (by omega)).2]
  simp only [List.take_zero, List.nil_append, Nat.zero_add, List.getD_eq_getElem?_getD]
  by_cases q : j < n
  · rw [List.getElem?_append_left (by simp [q]), if_pos q]
    simp [q]
  · rw [List.getElem?_append_right (by simp; omega), if_neg q]
    simp
    cases (List.range cc)[n + (j - n)]? <;> rfl
theorem own_len0 {args : Array Value} {Z : State} {t : Term} {a : Addr} {c : Cell} {ty : FieldType} (ev : t.eval args Z none [] Z = some (.ref a)) (A : Arr Z Z.heap a c ty) (h : (Cond.eq (.length t) (.int 0)).value args Z none Z [] = some true) : c.slots = #[] := by
  have hA : Z.arrayAt? a = some c := A.fin (Vm.Alike.refl _)
  obtain ⟨x, y, h1, h2, -, -⟩ := cmp_v (Or.inl h)
  have h3 : c.slots.size < 2 ^ 31 := by
    apply Classical.byContradiction
    intro q
    simp [Term.eval, ev, hA, q] at h1
  have h4 := len_f ev hA h3
  have h5 : c.slots.size.toInt32 = 0 := by
    have h6 := gotT (Cond.eq_ints h4 rfl) h
    exact h6
  have h7 := len_toInt h3
  rw [h5] at h7
  have h8 : c.slots.size = 0 := by
    have : (0 : Int32).toInt = 0 := rfl
    omega
  exact Array.eq_empty_of_size_eq_zero h8
theorem d6_0 : decode jdk_29_method_66_code 0 = .ok (.lload_n 0, 1) := by decide +kernel
theorem d6_1 : decode jdk_29_method_66_code 1 = .ok (.lload_n 2, 1) := by decide +kernel
theorem d6_2 : decode jdk_29_method_66_code 2 = .ok (.lcmp, 1) := by decide +kernel
theorem d6_3 : decode jdk_29_method_66_code 3 = .ok (.ifCond .lt 7, 3) := by decide +kernel
theorem d6_6 : decode jdk_29_method_66_code 6 = .ok (.lload_n 0, 1) := by decide +kernel
theorem d6_7 : decode jdk_29_method_66_code 7 = .ok (.goto 4, 3) := by decide +kernel
theorem d6_10 : decode jdk_29_method_66_code 10 = .ok (.lload_n 2, 1) := by decide +kernel
theorem d6_11 : decode jdk_29_method_66_code 11 = .ok (.lreturn, 1) := by decide +kernel
def f6_11 (j0 : Int64) (j2 : Int64) (t0 : Int64) : Int64 := t0
def f6_0 (q0 : Int64) (q1 : Int64) : Int64 := (if q0 < q1 then (f6_11 q0 q1 q1) else (f6_11 q0 q1 q0))
set_option maxRecDepth 65536 in
set_option maxHeartbeats 40000000 in
theorem ro6_0 {p : Program} {l : Launch} {e : Env} {s : State} {m : MethodId} {args : Array Value} {below : List Frame} {meth : Method} {c : Code} {T : State} {locs : List Loc} {cells slots : Nat} {Z : State} {a0 : Array Value} {h : Heap} {ce sl : Nat} {Q : Option Value → Heap → List Loc → Prop} (q0 : Int64) (q1 : Int64)
    (X : Stand p l e ({ frames := 0, cells := 0, slots := 0, locals := 0 } : Room) s m args below meth c T locs cells slots) (hx : p.tables.exec = Jvm.exec) (hZ : Z.Warmed39 s.vm) (hw : ∀ d ∈ tables_1, d.before a0 Z = true) (hby : c.code = jdk_29_method_66_code) (hml : c.maxLocals = 4) (hown : s.vm.findClass "java/lang/Math" = some m.cls) (hret : meth.sig.returnType = some .long) (hlk : meth.locks = false) (eT : T.heap = h) (hc : cells ≤ ce) (hs : slots ≤ sl) (hcR : cells ≤ (({ frames := 0, cells := 0, slots := 0, locals := 0 } : Room)).cells) (hsR : slots ≤ (({ frames := 0, cells := 0, slots := 0, locals := 0 } : Room)).slots)
    (hQ : Q (some (.long (f6_0 q0 q1))) h locs) : OFin p e below s ce sl Q (T.setTop (mkF m 0 #[.val (.long q0), .second, .val (.long q1), .second] [])) := by
  obtain ⟨r, hr0⟩ : ∃ r, f6_0 q0 q1 = r := ⟨_, rfl⟩
  rw [hr0] at hQ
  have B11 : ∀ (T : State) (j0 : Int64) (j2 : Int64) (t0 : Int64), Stand p l e ({ frames := 0, cells := 0, slots := 0, locals := 0 } : Room) s m args below meth c T locs cells slots → T.heap = h → f6_11 j0 j2 t0 = r → OFin p e below s ce sl Q (T.setTop (mkF m 11 #[.val (.long j0), .second, .val (.long j2), .second] [(.long t0)])) := by
    intro T j0 j2 t0 X eT hr
    exact OFin.retJ X hx hret hlk (hb hby d6_11) hc hs (own_qJ hr eT hQ)
  have B0 : ∀ (T : State) , Stand p l e ({ frames := 0, cells := 0, slots := 0, locals := 0 } : Room) s m args below meth c T locs cells slots → T.heap = h → f6_0 q0 q1 = r → OFin p e below s ce sl Q (T.setTop (mkF m 0 #[.val (.long q0), .second, .val (.long q1), .second] [])) := by
    intro T  X eT hr
    refine OFin.to (T.setTop (mkF m 1 #[.val (.long q0), .second, .val (.long q1), .second] [(.long q0)])) (fun _ kt => XS.lloadN X.here hx rfl (hb hby d6_0) rfl kt) ?_
    refine OFin.to (T.setTop (mkF m 2 #[.val (.long q0), .second, .val (.long q1), .second] [(.long q1), (.long q0)])) (fun _ kt => XS.lloadN X.here hx rfl (hb hby d6_1) rfl kt) ?_
    refine OFin.to (T.setTop (mkF m 3 #[.val (.long q0), .second, .val (.long q1), .second] [(.int (XT.cmpL q0 q1))])) (fun _ kt => XT.lcmp X.here hx rfl (hb hby d6_2) rfl kt) ?_
    by_cases hc3 : q0 < q1
    · have hr := (if_pos hc3).symm.trans hr
      refine OFin.to (T.setTop (mkF m 10 #[.val (.long q0), .second, .val (.long q1), .second] [])) (fun _ kt => XS.ifYes X.here hx rfl (pc0 := 3) (pc' := 10) rfl (hb hby d6_3) rfl (XT.ll_lt_t hc3) (by decide) (by decide) kt) ?_
      refine OFin.to (T.setTop (mkF m 11 #[.val (.long q0), .second, .val (.long q1), .second] [(.long q1)])) (fun _ kt => XS.lloadN X.here hx rfl (hb hby d6_10) rfl kt) ?_
      exact B11 T q0 q1 q1 X eT hr
    · have hr := (if_neg hc3).symm.trans hr
      refine OFin.to (T.setTop (mkF m 6 #[.val (.long q0), .second, .val (.long q1), .second] [])) (fun _ kt => XS.ifNo X.here hx rfl (hb hby d6_3) rfl (XT.ll_lt_f hc3) kt) ?_
      refine OFin.to (T.setTop (mkF m 7 #[.val (.long q0), .second, .val (.long q1), .second] [(.long q0)])) (fun _ kt => XS.lloadN X.here hx rfl (hb hby d6_6) rfl kt) ?_
      refine OFin.to (T.setTop (mkF m 11 #[.val (.long q0), .second, .val (.long q1), .second] [(.long q0)])) (fun _ kt => XS.goto X.here hx rfl (pc0 := 7) (pc' := 11) rfl (hb hby d6_7) (by decide) (by decide) kt) ?_
      exact B11 T q0 q1 q0 X eT hr
  exact B0 T X eT hr0
theorem ef_6 (m : MethodId) (q0 : Int64) (q1 : Int64) : entryFrame m #[(.long q0), (.long q1)] 4 = mkF m 0 #[.val (.long q0), .second, .val (.long q1), .second] [] := by first | (simp [entryFrame, mkF, argsToLocals, Value.category]; done) | rfl
set_option maxRecDepth 65536 in
set_option maxHeartbeats 40000000 in
theorem rm6 (l : Launch) (Z : State) (a0 : Array Value) (hw : ∀ d ∈ tables_1, d.before a0 Z = true) (ws : List Jvm.Cond) (q0 : Int64) (q1 : Int64) (h0 : Heap) :
    MetFree l (⟨"java/lang/Math", "max", "(JJ)J"⟩ : MethodName) (head1 (Jvm.Cond.code (⟨"java/lang/Math", "max", "(JJ)J"⟩ : MethodName) jdk_29_method_66_code 4 (some .long) :: ws) ({ frames := 0, cells := 0, slots := 0, locals := 0 } : Room)) (fun a_ U => a_ = #[(.long q0), (.long q1)] ∧ Z.Warmed39 U.vm ∧ U.heap = h0) (fun _ _ _ _ _ => True) (fun _ U o_ U' => ∃ v L, o_ = .returned v ∧ OQ (fun v h L => v = some (.long (f6_0 q0 q1)) ∧ h = h0 ∧ L = []) v U'.heap L ∧ FrameEnd U o_ U' L ({ frames := 0, cells := 0, slots := 0, locals := 0 } : Room).cells ({ frames := 0, cells := 0, slots := 0, locals := 0 } : Room).slots) := by
  refine MetFree.of_bodySF (Jvm.Free.JP.mathPlain rfl (by decide +kernel)) hisR ?_
  intro p e s m args below meth c s₁ Bd hml0 hP hK
  obtain ⟨rfl, hZ, hh⟩ := hP
  have hx := Bd.exec
  have hby := Bd.bytes
  have hml : c.maxLocals = 4 := hml0
  have hown : s.vm.findClass "java/lang/Math" = some m.cls := findClass_of_methodNamed Bd.named
  have hnm := (name_of_methodNamed Bd.named Bd.method).1
  have hret := Bd.returns
  have hlk : meth.locks = false := Bd.notSynchronized
  have X0 : Stand p l e ({ frames := 0, cells := 0, slots := 0, locals := 0 } : Room) s m #[(.long q0), (.long q1)] below meth c s₁ [] 0 0 := Stand.of_body Bd
  have e0 : s₁.heap = h0 := by rw [← hh, Bd.state]; rfl
  refine OFin.start (Q := fun v h L => v = some (.long (f6_0 q0 q1)) ∧ h = h0 ∧ L = []) (s := s) (fun t kt => castTop (ef_6 m q0 q1) kt) ?_
  exact ro6_0 q0 q1 X0 hx hZ hw hby hml hown hret hlk e0 (Nat.zero_le _) (Nat.zero_le _) (Nat.zero_le _) (Nat.zero_le _)  ⟨rfl, rfl, rfl⟩
theorem d7_0 : decode jdk_29_method_70_code 0 = .ok (.lload_n 0, 1) := by decide +kernel
theorem d7_1 : decode jdk_29_method_70_code 1 = .ok (.lload_n 2, 1) := by decide +kernel
theorem d7_2 : decode jdk_29_method_70_code 2 = .ok (.lcmp, 1) := by decide +kernel
theorem d7_3 : decode jdk_29_method_70_code 3 = .ok (.ifCond .gt 7, 3) := by decide +kernel
theorem d7_6 : decode jdk_29_method_70_code 6 = .ok (.lload_n 0, 1) := by decide +kernel
theorem d7_7 : decode jdk_29_method_70_code 7 = .ok (.goto 4, 3) := by decide +kernel
theorem d7_10 : decode jdk_29_method_70_code 10 = .ok (.lload_n 2, 1) := by decide +kernel
theorem d7_11 : decode jdk_29_method_70_code 11 = .ok (.lreturn, 1) := by decide +kernel
def f7_11 (j0 : Int64) (j2 : Int64) (t0 : Int64) : Int64 := t0
def f7_0 (q0 : Int64) (q1 : Int64) : Int64 := (if q1 < q0 then (f7_11 q0 q1 q1) else (f7_11 q0 q1 q0))
set_option maxRecDepth 65536 in
set_option maxHeartbeats 40000000 in
theorem ro7_0 {p : Program} {l : Launch} {e : Env} {s : State} {m : MethodId} {args : Array Value} {below : List Frame} {meth : Method} {c : Code} {T : State} {locs : List Loc} {cells slots : Nat} {Z : State} {a0 : Array Value} {h : Heap} {ce sl : Nat} {Q : Option Value → Heap → List Loc → Prop} (q0 : Int64) (q1 : Int64)
    (X : Stand p l e ({ frames := 0, cells := 0, slots := 0, locals := 0 } : Room) s m args below meth c T locs cells slots) (hx : p.tables.exec = Jvm.exec) (hZ : Z.Warmed39 s.vm) (hw : ∀ d ∈ tables_1, d.before a0 Z = true) (hby : c.code = jdk_29_method_70_code) (hml : c.maxLocals = 4) (hown : s.vm.findClass "java/lang/Math" = some m.cls) (hret : meth.sig.returnType = some .long) (hlk : meth.locks = false) (eT : T.heap = h) (hc : cells ≤ ce) (hs : slots ≤ sl) (hcR : cells ≤ (({ frames := 0, cells := 0, slots := 0, locals := 0 } : Room)).cells) (hsR : slots ≤ (({ frames := 0, cells := 0, slots := 0, locals := 0 } : Room)).slots)
    (hQ : Q (some (.long (f7_0 q0 q1))) h locs) : OFin p e below s ce sl Q (T.setTop (mkF m 0 #[.val (.long q0), .second, .val (.long q1), .second] [])) := by
  obtain ⟨r, hr0⟩ : ∃ r, f7_0 q0 q1 = r := ⟨_, rfl⟩
  rw [hr0] at hQ
  have B11 : ∀ (T : State) (j0 : Int64) (j2 : Int64) (t0 : Int64), Stand p l e ({ frames := 0, cells := 0, slots := 0, locals := 0 } : Room) s m args below meth c T locs cells slots → T.heap = h → f7_11 j0 j2 t0 = r → OFin p e below s ce sl Q (T.setTop (mkF m 11 #[.val (.long j0), .second, .val (.long j2), .second] [(.long t0)])) := by
    intro T j0 j2 t0 X eT hr
    exact OFin.retJ X hx hret hlk (hb hby d7_11) hc hs (own_qJ hr eT hQ)
  have B0 : ∀ (T : State) , Stand p l e ({ frames := 0, cells := 0, slots := 0, locals := 0 } : Room) s m args below meth c T locs cells slots → T.heap = h → f7_0 q0 q1 = r → OFin p e below s ce sl Q (T.setTop (mkF m 0 #[.val (.long q0), .second, .val (.long q1), .second] [])) := by
    intro T  X eT hr
    refine OFin.to (T.setTop (mkF m 1 #[.val (.long q0), .second, .val (.long q1), .second] [(.long q0)])) (fun _ kt => XS.lloadN X.here hx rfl (hb hby d7_0) rfl kt) ?_
    refine OFin.to (T.setTop (mkF m 2 #[.val (.long q0), .second, .val (.long q1), .second] [(.long q1), (.long q0)])) (fun _ kt => XS.lloadN X.here hx rfl (hb hby d7_1) rfl kt) ?_
    refine OFin.to (T.setTop (mkF m 3 #[.val (.long q0), .second, .val (.long q1), .second] [(.int (XT.cmpL q0 q1))])) (fun _ kt => XT.lcmp X.here hx rfl (hb hby d7_2) rfl kt) ?_
    by_cases hc3 : q1 < q0
    · have hr := (if_pos hc3).symm.trans hr
      refine OFin.to (T.setTop (mkF m 10 #[.val (.long q0), .second, .val (.long q1), .second] [])) (fun _ kt => XS.ifYes X.here hx rfl (pc0 := 3) (pc' := 10) rfl (hb hby d7_3) rfl (XT.ll_gt_t hc3) (by decide) (by decide) kt) ?_
      refine OFin.to (T.setTop (mkF m 11 #[.val (.long q0), .second, .val (.long q1), .second] [(.long q1)])) (fun _ kt => XS.lloadN X.here hx rfl (hb hby d7_10) rfl kt) ?_
      exact B11 T q0 q1 q1 X eT hr
    · have hr := (if_neg hc3).symm.trans hr
      refine OFin.to (T.setTop (mkF m 6 #[.val (.long q0), .second, .val (.long q1), .second] [])) (fun _ kt => XS.ifNo X.here hx rfl (hb hby d7_3) rfl (XT.ll_gt_f hc3) kt) ?_
      refine OFin.to (T.setTop (mkF m 7 #[.val (.long q0), .second, .val (.long q1), .second] [(.long q0)])) (fun _ kt => XS.lloadN X.here hx rfl (hb hby d7_6) rfl kt) ?_
      refine OFin.to (T.setTop (mkF m 11 #[.val (.long q0), .second, .val (.long q1), .second] [(.long q0)])) (fun _ kt => XS.goto X.here hx rfl (pc0 := 7) (pc' := 11) rfl (hb hby d7_7) (by decide) (by decide) kt) ?_
      exact B11 T q0 q1 q0 X eT hr
  exact B0 T X eT hr0
theorem ef_7 (m : MethodId) (q0 : Int64) (q1 : Int64) : entryFrame m #[(.long q0), (.long q1)] 4 = mkF m 0 #[.val (.long q0), .second, .val (.long q1), .second] [] := by first | (simp [entryFrame, mkF, argsToLocals, Value.category]; done) | rfl
set_option maxRecDepth 65536 in
set_option maxHeartbeats 40000000 in
theorem rm7 (l : Launch) (Z : State) (a0 : Array Value) (hw : ∀ d ∈ tables_1, d.before a0 Z = true) (ws : List Jvm.Cond) (q0 : Int64) (q1 : Int64) (h0 : Heap) :
    MetFree l (⟨"java/lang/Math", "min", "(JJ)J"⟩ : MethodName) (head1 (Jvm.Cond.code (⟨"java/lang/Math", "min", "(JJ)J"⟩ : MethodName) jdk_29_method_70_code 4 (some .long) :: ws) ({ frames := 0, cells := 0, slots := 0, locals := 0 } : Room)) (fun a_ U => a_ = #[(.long q0), (.long q1)] ∧ Z.Warmed39 U.vm ∧ U.heap = h0) (fun _ _ _ _ _ => True) (fun _ U o_ U' => ∃ v L, o_ = .returned v ∧ OQ (fun v h L => v = some (.long (f7_0 q0 q1)) ∧ h = h0 ∧ L = []) v U'.heap L ∧ FrameEnd U o_ U' L ({ frames := 0, cells := 0, slots := 0, locals := 0 } : Room).cells ({ frames := 0, cells := 0, slots := 0, locals := 0 } : Room).slots) := by
  refine MetFree.of_bodySF (Jvm.Free.JP.mathPlain rfl (by decide +kernel)) hisR ?_
  intro p e s m args below meth c s₁ Bd hml0 hP hK
  obtain ⟨rfl, hZ, hh⟩ := hP
  have hx := Bd.exec
  have hby := Bd.bytes
  have hml : c.maxLocals = 4 := hml0
  have hown : s.vm.findClass "java/lang/Math" = some m.cls := findClass_of_methodNamed Bd.named
  have hnm := (name_of_methodNamed Bd.named Bd.method).1
  have hret := Bd.returns
  have hlk : meth.locks = false := Bd.notSynchronized
  have X0 : Stand p l e ({ frames := 0, cells := 0, slots := 0, locals := 0 } : Room) s m #[(.long q0), (.long q1)] below meth c s₁ [] 0 0 := Stand.of_body Bd
  have e0 : s₁.heap = h0 := by rw [← hh, Bd.state]; rfl
  refine OFin.start (Q := fun v h L => v = some (.long (f7_0 q0 q1)) ∧ h = h0 ∧ L = []) (s := s) (fun t kt => castTop (ef_7 m q0 q1) kt) ?_
  exact ro7_0 q0 q1 X0 hx hZ hw hby hml hown hret hlk e0 (Nat.zero_le _) (Nat.zero_le _) (Nat.zero_le _) (Nat.zero_le _)  ⟨rfl, rfl, rfl⟩
theorem d9_0 : decode jdk_29_method_69_code 0 = .ok (.iload_n 0, 1) := by decide +kernel
theorem d9_1 : decode jdk_29_method_69_code 1 = .ok (.iload_n 1, 1) := by decide +kernel
theorem d9_2 : decode jdk_29_method_69_code 2 = .ok (.if_icmp .gt 7, 3) := by decide +kernel
theorem d9_5 : decode jdk_29_method_69_code 5 = .ok (.iload_n 0, 1) := by decide +kernel
theorem d9_6 : decode jdk_29_method_69_code 6 = .ok (.goto 4, 3) := by decide +kernel
theorem d9_9 : decode jdk_29_method_69_code 9 = .ok (.iload_n 1, 1) := by decide +kernel
theorem d9_10 : decode jdk_29_method_69_code 10 = .ok (.ireturn, 1) := by decide +kernel
def f9_10 (i0 : Int32) (i1 : Int32) (t0 : Int32) : Int32 := t0
def f9_0 (p0 : Int32) (p1 : Int32) : Int32 := (if p1 < p0 then (f9_10 p0 p1 p1) else (f9_10 p0 p1 p0))
set_option maxRecDepth 65536 in
set_option maxHeartbeats 40000000 in
theorem ro9_0 {p : Program} {l : Launch} {e : Env} {s : State} {m : MethodId} {args : Array Value} {below : List Frame} {meth : Method} {c : Code} {T : State} {locs : List Loc} {cells slots : Nat} {Z : State} {a0 : Array Value} {h : Heap} {ce sl : Nat} {Q : Option Value → Heap → List Loc → Prop} (p0 : Int32) (p1 : Int32)
    (X : Stand p l e ({ frames := 0, cells := 0, slots := 0, locals := 0 } : Room) s m args below meth c T locs cells slots) (hx : p.tables.exec = Jvm.exec) (hZ : Z.Warmed39 s.vm) (hw : ∀ d ∈ tables_1, d.before a0 Z = true) (hby : c.code = jdk_29_method_69_code) (hml : c.maxLocals = 2) (hown : s.vm.findClass "java/lang/Math" = some m.cls) (hret : meth.sig.returnType = some .int) (hlk : meth.locks = false) (eT : T.heap = h) (hc : cells ≤ ce) (hs : slots ≤ sl) (hcR : cells ≤ (({ frames := 0, cells := 0, slots := 0, locals := 0 } : Room)).cells) (hsR : slots ≤ (({ frames := 0, cells := 0, slots := 0, locals := 0 } : Room)).slots)
    (hQ : Q (some (.int (f9_0 p0 p1))) h locs) : OFin p e below s ce sl Q (T.setTop (mkF m 0 #[.val (.int p0), .val (.int p1)] [])) := by
  obtain ⟨r, hr0⟩ : ∃ r, f9_0 p0 p1 = r := ⟨_, rfl⟩
  rw [hr0] at hQ
  have B10 : ∀ (T : State) (i0 : Int32) (i1 : Int32) (t0 : Int32), Stand p l e ({ frames := 0, cells := 0, slots := 0, locals := 0 } : Room) s m args below meth c T locs cells slots → T.heap = h → f9_10 i0 i1 t0 = r → OFin p e below s ce sl Q (T.setTop (mkF m 10 #[.val (.int i0), .val (.int i1)] [(.int t0)])) := by
    intro T i0 i1 t0 X eT hr
    exact OFin.retI X hx hret hlk (hb hby d9_10) hc hs (own_q hr eT hQ)
  have B0 : ∀ (T : State) , Stand p l e ({ frames := 0, cells := 0, slots := 0, locals := 0 } : Room) s m args below meth c T locs cells slots → T.heap = h → f9_0 p0 p1 = r → OFin p e below s ce sl Q (T.setTop (mkF m 0 #[.val (.int p0), .val (.int p1)] [])) := by
    intro T  X eT hr
    refine OFin.to (T.setTop (mkF m 1 #[.val (.int p0), .val (.int p1)] [(.int p0)])) (fun _ kt => XS.iloadN X.here hx rfl (hb hby d9_0) rfl kt) ?_
    refine OFin.to (T.setTop (mkF m 2 #[.val (.int p0), .val (.int p1)] [(.int p1), (.int p0)])) (fun _ kt => XS.iloadN X.here hx rfl (hb hby d9_1) rfl kt) ?_
    by_cases hc2 : p1 < p0
    · have hr := (if_pos hc2).symm.trans hr
      refine OFin.to (T.setTop (mkF m 9 #[.val (.int p0), .val (.int p1)] [])) (fun _ kt => XS.icmpYes X.here hx rfl (pc0 := 2) (pc' := 9) rfl (hb hby d9_2) rfl (XT.ii_gt_t hc2) (by decide) (by decide) kt) ?_
      refine OFin.to (T.setTop (mkF m 10 #[.val (.int p0), .val (.int p1)] [(.int p1)])) (fun _ kt => XS.iloadN X.here hx rfl (hb hby d9_9) rfl kt) ?_
      exact B10 T p0 p1 p1 X eT hr
    · have hr := (if_neg hc2).symm.trans hr
      refine OFin.to (T.setTop (mkF m 5 #[.val (.int p0), .val (.int p1)] [])) (fun _ kt => XS.icmpNo X.here hx rfl (hb hby d9_2) rfl (XT.ii_gt_f hc2) kt) ?_
      refine OFin.to (T.setTop (mkF m 6 #[.val (.int p0), .val (.int p1)] [(.int p0)])) (fun _ kt => XS.iloadN X.here hx rfl (hb hby d9_5) rfl kt) ?_
      refine OFin.to (T.setTop (mkF m 10 #[.val (.int p0), .val (.int p1)] [(.int p0)])) (fun _ kt => XS.goto X.here hx rfl (pc0 := 6) (pc' := 10) rfl (hb hby d9_6) (by decide) (by decide) kt) ?_
      exact B10 T p0 p1 p0 X eT hr
  exact B0 T X eT hr0
theorem ef_9 (m : MethodId) (p0 : Int32) (p1 : Int32) : entryFrame m #[(.int p0), (.int p1)] 2 = mkF m 0 #[.val (.int p0), .val (.int p1)] [] := by first | (simp [entryFrame, mkF, argsToLocals, Value.category]; done) | rfl
set_option maxRecDepth 65536 in
set_option maxHeartbeats 40000000 in
theorem rm9 (l : Launch) (Z : State) (a0 : Array Value) (hw : ∀ d ∈ tables_1, d.before a0 Z = true) (ws : List Jvm.Cond) (p0 : Int32) (p1 : Int32) (h0 : Heap) :
    MetFree l (⟨"java/lang/Math", "min", "(II)I"⟩ : MethodName) (head1 (Jvm.Cond.code (⟨"java/lang/Math", "min", "(II)I"⟩ : MethodName) jdk_29_method_69_code 2 (some .int) :: ws) ({ frames := 0, cells := 0, slots := 0, locals := 0 } : Room)) (fun a_ U => a_ = #[(.int p0), (.int p1)] ∧ Z.Warmed39 U.vm ∧ U.heap = h0) (fun _ _ _ _ _ => True) (fun _ U o_ U' => ∃ v L, o_ = .returned v ∧ OQ (fun v h L => v = some (.int (f9_0 p0 p1)) ∧ h = h0 ∧ L = []) v U'.heap L ∧ FrameEnd U o_ U' L ({ frames := 0, cells := 0, slots := 0, locals := 0 } : Room).cells ({ frames := 0, cells := 0, slots := 0, locals := 0 } : Room).slots) := by
  refine MetFree.of_bodySF (Jvm.Free.JP.mathPlain rfl (by decide +kernel)) hisR ?_
  intro p e s m args below meth c s₁ Bd hml0 hP hK
  obtain ⟨rfl, hZ, hh⟩ := hP
  have hx := Bd.exec
  have hby := Bd.bytes
  have hml : c.maxLocals = 2 := hml0
  have hown : s.vm.findClass "java/lang/Math" = some m.cls := findClass_of_methodNamed Bd.named
  have hnm := (name_of_methodNamed Bd.named Bd.method).1
  have hret := Bd.returns
  have hlk : meth.locks = false := Bd.notSynchronized
  have X0 : Stand p l e ({ frames := 0, cells := 0, slots := 0, locals := 0 } : Room) s m #[(.int p0), (.int p1)] below meth c s₁ [] 0 0 := Stand.of_body Bd
  have e0 : s₁.heap = h0 := by rw [← hh, Bd.state]; rfl
  refine OFin.start (Q := fun v h L => v = some (.int (f9_0 p0 p1)) ∧ h = h0 ∧ L = []) (s := s) (fun t kt => castTop (ef_9 m p0 p1) kt) ?_
  exact ro9_0 p0 p1 X0 hx hZ hw hby hml hown hret hlk e0 (Nat.zero_le _) (Nat.zero_le _) (Nat.zero_le _) (Nat.zero_le _)  ⟨rfl, rfl, rfl⟩
theorem own_min (n cc : Nat) (h : n ≤ cc) (hc : cc < 2 ^ 31) : f9_0 (Int32.ofNat n) (Int32.ofNat cc) = Int32.ofNat n := by
  have h1 := own_ofLt cc n hc (by omega)
  show (if Int32.ofNat cc < Int32.ofNat n then _ else _) = _
  rw [if_neg (fun q => absurd (h1.mp q) (by omega))]
  rfl
theorem d11_0 : decode jdk_65_method_30_code 0 = .ok (.iload_n 1, 1) := by decide +kernel
theorem d11_1 : decode jdk_65_method_30_code 1 = .ok (.iload_n 2, 1) := by decide +kernel
theorem d11_2 : decode jdk_65_method_30_code 2 = .ok (.if_icmp .le 44, 3) := by decide +kernel
theorem d11_46 : decode jdk_65_method_30_code 46 = .ok (.iload_n 1, 1) := by decide +kernel
theorem d11_47 : decode jdk_65_method_30_code 47 = .ok (.ifCond .ge 12, 3) := by decide +kernel
theorem d11_59 : decode jdk_65_method_30_code 59 = .ok (.iload_n 2, 1) := by decide +kernel
theorem d11_60 : decode jdk_65_method_30_code 60 = .ok (.iload_n 0, 1) := by decide +kernel
theorem d11_61 : decode jdk_65_method_30_code 61 = .ok (.if_icmp .le 12, 3) := by decide +kernel
theorem d11_73 : decode jdk_65_method_30_code 73 = .ok (.return_, 1) := by decide +kernel
theorem pn_11 : plainName "java/util/Arrays" = true := by first | (simp [plainName, overriddenIn]; done) | decide +kernel
theorem ef_11 (m : MethodId) (p0 : Int32) (p1 : Int32) (p2 : Int32) : entryFrame m #[(.int p0), (.int p1), (.int p2)] 3 = mkF m 0 #[.val (.int p0), .val (.int p1), .val (.int p2)] [] := by first | (simp [entryFrame, mkF, argsToLocals, Value.category]; done) | rfl
set_option maxRecDepth 65536 in
set_option maxHeartbeats 40000000 in
theorem rm11 (l : Launch) (Z : State) (a0 : Array Value) (hw : ∀ d ∈ tables_1, d.before a0 Z = true) (ws : List Jvm.Cond) (n cc : Nat) (hn : n ≤ cc) (hc' : cc ≤ 128) (h0 : Heap) :
    MetFree l (⟨"java/util/Arrays", "rangeCheck", "(III)V"⟩ : MethodName) (head1 (Jvm.Cond.code (⟨"java/util/Arrays", "rangeCheck", "(III)V"⟩ : MethodName) jdk_65_method_30_code 3 none :: ws) ({ frames := 0, cells := 0, slots := 0, locals := 0 } : Room)) (fun a_ U => a_ = #[(.int (Int32.ofNat cc)), (.int (Int32.ofNat n)), (.int (Int32.ofNat cc))] ∧ Z.Warmed39 U.vm ∧ U.heap = h0) (fun _ _ _ _ _ => True) (fun _ U o_ U' => ∃ v L, o_ = .returned v ∧ OQ (fun v h L => v = none ∧ h = h0 ∧ L = []) v U'.heap L ∧ FrameEnd U o_ U' L ({ frames := 0, cells := 0, slots := 0, locals := 0 } : Room).cells ({ frames := 0, cells := 0, slots := 0, locals := 0 } : Room).slots) := by
  refine MetFree.of_bodySF (plainFor_of_name pn_11) hisR ?_
  intro p e s m args below meth c s₁ Bd hml0 hP hK
  obtain ⟨rfl, hZ, hh⟩ := hP
  have hx := Bd.exec
  have hby := Bd.bytes
  have hml : c.maxLocals = 3 := hml0
  have hown : s.vm.findClass "java/util/Arrays" = some m.cls := findClass_of_methodNamed Bd.named
  have hnm := (name_of_methodNamed Bd.named Bd.method).1
  have hret := Bd.returns
  have hlk : meth.locks = false := Bd.notSynchronized
  have X0 : Stand p l e ({ frames := 0, cells := 0, slots := 0, locals := 0 } : Room) s m #[(.int (Int32.ofNat cc)), (.int (Int32.ofNat n)), (.int (Int32.ofNat cc))] below meth c s₁ [] 0 0 := Stand.of_body Bd
  have e0 : s₁.heap = h0 := by rw [← hh, Bd.state]; rfl
  refine OFin.start (Q := fun v h L => v = none ∧ h = h0 ∧ L = []) (s := s) (fun t kt => castTop (ef_11 m ((Int32.ofNat cc)) ((Int32.ofNat n)) ((Int32.ofNat cc))) kt) ?_
  refine OFin.to (s₁.setTop (mkF m 1 #[.val (.int (Int32.ofNat cc)), .val (.int (Int32.ofNat n)), .val (.int (Int32.ofNat cc))] [(.int (Int32.ofNat n))])) (fun _ kt => XS.iloadN X0.here hx rfl (hb hby d11_0) rfl kt) ?_
  refine OFin.to (s₁.setTop (mkF m 2 #[.val (.int (Int32.ofNat cc)), .val (.int (Int32.ofNat n)), .val (.int (Int32.ofNat cc))] [(.int (Int32.ofNat cc)), (.int (Int32.ofNat n))])) (fun _ kt => XS.iloadN X0.here hx rfl (hb hby d11_1) rfl kt) ?_
  refine OFin.to (s₁.setTop (mkF m 46 #[.val (.int (Int32.ofNat cc)), .val (.int (Int32.ofNat n)), .val (.int (Int32.ofNat cc))] [])) (fun _ kt => XS.icmpYes X0.here hx rfl (pc0 := 2) (pc' := 46) rfl (hb hby d11_2) rfl (XT.ii_le_t (fun q => absurd ((own_ofLt cc n (by omega) (by omega)).mp q) (by omega))) (by decide) (by decide) kt) ?_
  refine OFin.to (s₁.setTop (mkF m 47 #[.val (.int (Int32.ofNat cc)), .val (.int (Int32.ofNat n)), .val (.int (Int32.ofNat cc))] [(.int (Int32.ofNat n))])) (fun _ kt => XS.iloadN X0.here hx rfl (hb hby d11_46) rfl kt) ?_
  refine OFin.to (s₁.setTop (mkF m 59 #[.val (.int (Int32.ofNat cc)), .val (.int (Int32.ofNat n)), .val (.int (Int32.ofNat cc))] [])) (fun _ kt => XS.ifYes X0.here hx rfl (pc0 := 47) (pc' := 59) rfl (hb hby d11_47) rfl (XT.i0_ge_t ((own_ix n (by omega)).1)) (by decide) (by decide) kt) ?_
  refine OFin.to (s₁.setTop (mkF m 60 #[.val (.int (Int32.ofNat cc)), .val (.int (Int32.ofNat n)), .val (.int (Int32.ofNat cc))] [(.int (Int32.ofNat cc))])) (fun _ kt => XS.iloadN X0.here hx rfl (hb hby d11_59) rfl kt) ?_
  refine OFin.to (s₁.setTop (mkF m 61 #[.val (.int (Int32.ofNat cc)), .val (.int (Int32.ofNat n)), .val (.int (Int32.ofNat cc))] [(.int (Int32.ofNat cc)), (.int (Int32.ofNat cc))])) (fun _ kt => XS.iloadN X0.here hx rfl (hb hby d11_60) rfl kt) ?_
  refine OFin.to (s₁.setTop (mkF m 73 #[.val (.int (Int32.ofNat cc)), .val (.int (Int32.ofNat n)), .val (.int (Int32.ofNat cc))] [])) (fun _ kt => XS.icmpYes X0.here hx rfl (pc0 := 61) (pc' := 73) rfl (hb hby d11_61) rfl (XT.ii_le_t Int32.lt_irrefl) (by decide) (by decide) kt) ?_
  exact OFin.retV X0 hx hret hlk (hb hby d11_73) (Nat.zero_le _) (Nat.zero_le _) ⟨rfl, e0, rfl⟩
theorem d10_0 : decode jdk_65_method_104_code 0 = .ok (.aload_n 0, 1) := by decide +kernel
theorem d10_1 : decode jdk_65_method_104_code 1 = .ok (.arraylength, 1) := by decide +kernel
theorem d10_2 : decode jdk_65_method_104_code 2 = .ok (.iload_n 1, 1) := by decide +kernel
theorem d10_3 : decode jdk_65_method_104_code 3 = .ok (.iload_n 2, 1) := by decide +kernel
theorem d10_4 : decode jdk_65_method_104_code 4 = .ok (.invokestatic 13, 3) := by decide +kernel
theorem d10_7 : decode jdk_65_method_104_code 7 = .ok (.iload_n 1, 1) := by decide +kernel
theorem d10_8 : decode jdk_65_method_104_code 8 = .ok (.istore 4, 2) := by decide +kernel
theorem d10_10 : decode jdk_65_method_104_code 10 = .ok (.iload 4, 2) := by decide +kernel
theorem d10_12 : decode jdk_65_method_104_code 12 = .ok (.iload_n 2, 1) := by decide +kernel
theorem d10_13 : decode jdk_65_method_104_code 13 = .ok (.if_icmp .ge 14, 3) := by decide +kernel
theorem d10_16 : decode jdk_65_method_104_code 16 = .ok (.aload_n 0, 1) := by decide +kernel
theorem d10_17 : decode jdk_65_method_104_code 17 = .ok (.iload 4, 2) := by decide +kernel
theorem d10_19 : decode jdk_65_method_104_code 19 = .ok (.iload_n 3, 1) := by decide +kernel
theorem d10_20 : decode jdk_65_method_104_code 20 = .ok (.iastore, 1) := by decide +kernel
theorem d10_21 : decode jdk_65_method_104_code 21 = .ok (.iinc 4 1, 3) := by decide +kernel
theorem d10_24 : decode jdk_65_method_104_code 24 = .ok (.goto (-14), 3) := by decide +kernel
theorem d10_27 : decode jdk_65_method_104_code 27 = .ok (.return_, 1) := by decide +kernel
theorem pn_10 : plainName "java/util/Arrays" = true := by first | (simp [plainName, overriddenIn]; done) | decide +kernel
theorem ef_10 (m : MethodId) (a0 : Addr) (p1 : Int32) (p2 : Int32) (p3 : Int32) : entryFrame m #[(.ref a0), (.int p1), (.int p2), (.int p3)] 5 = mkF m 0 #[.val (.ref a0), .val (.int p1), .val (.int p2), .val (.int p3), .unset] [] := by first | (simp [entryFrame, mkF, argsToLocals, Value.category]; done) | rfl
set_option maxRecDepth 65536 in
set_option maxHeartbeats 40000000 in
theorem rm10 (l : Launch) (Z : State) (a0 : Array Value) (hw : ∀ d ∈ tables_1, d.before a0 Z = true) (ws : List Jvm.Cond) (b : Addr) (n cc : Nat) (hn : n ≤ cc) (hc' : cc ≤ 128) (d : Int32) (g : Nat → Value) (h0 : Heap) (n0 : Nat) (g_b : n0 ≤ b) (V0 : OFn Z h0 b .int cc g) :
    MetFree l (⟨"java/util/Arrays", "fill", "([IIII)V"⟩ : MethodName) (head1 (Jvm.Cond.code (⟨"java/util/Arrays", "fill", "([IIII)V"⟩ : MethodName) jdk_65_method_104_code 5 none :: ws) ({ frames := 1, cells := 0, slots := 0, locals := 14 } : Room)) (fun a_ U => a_ = #[(.ref b), (.int (Int32.ofNat n)), (.int (Int32.ofNat cc)), (.int d)] ∧ Z.Warmed39 U.vm ∧ U.heap = h0) (fun _ _ _ _ _ => True) (fun _ U o_ U' => ∃ v L, o_ = .returned v ∧ OQ (fun v h L => v = none ∧ OFn Z h b .int cc (fun j => if n ≤ j then .int d else g j) ∧ Keep h0 h [b] ∧ Fr n0 L) v U'.heap L ∧ FrameEnd U o_ U' L ({ frames := 1, cells := 0, slots := 0, locals := 14 } : Room).cells ({ frames := 1, cells := 0, slots := 0, locals := 14 } : Room).slots) := by
  refine MetFree.of_bodySF (plainFor_of_name pn_10) hisR ?_
  intro p e s m args below meth c s₁ Bd hml0 hP hK
  obtain ⟨rfl, hZ, hh⟩ := hP
  have hx := Bd.exec
  have hby := Bd.bytes
  have hml : c.maxLocals = 5 := hml0
  have hown : s.vm.findClass "java/util/Arrays" = some m.cls := findClass_of_methodNamed Bd.named
  have hnm := (name_of_methodNamed Bd.named Bd.method).1
  have hret := Bd.returns
  have hlk : meth.locks = false := Bd.notSynchronized
  have X0 : Stand p l e ({ frames := 1, cells := 0, slots := 0, locals := 14 } : Room) s m #[(.ref b), (.int (Int32.ofNat n)), (.int (Int32.ofNat cc)), (.int d)] below meth c s₁ [] 0 0 := Stand.of_body Bd
  have e0 : s₁.heap = h0 := by rw [← hh, Bd.state]; rfl
  refine OFin.start (Q := fun v h L => v = none ∧ OFn Z h b .int cc (fun j => if n ≤ j then .int d else g j) ∧ Keep h0 h [b] ∧ Fr n0 L) (s := s) (fun t kt => castTop (ef_10 m (b) ((Int32.ofNat n)) ((Int32.ofNat cc)) (d)) kt) ?_
  have LP : ∀ (r i : Nat) (T : State) (h : Heap) (L : List Loc), i + r = cc → n ≤ i → Stand p l e ({ frames := 1, cells := 0, slots := 0, locals := 14 } : Room) s m #[(.ref b), (.int (Int32.ofNat n)), (.int (Int32.ofNat cc)), (.int d)] below meth c T L 0 0 → T.heap = h → OFn Z h b .int cc (fun j => if n ≤ j ∧ j < i then .int d else g j) → Keep h0 h [b] → Fr n0 L → OFin p e below s ({ frames := 1, cells := 0, slots := 0, locals := 14 } : Room).cells ({ frames := 1, cells := 0, slots := 0, locals := 14 } : Room).slots (fun v h L => v = none ∧ OFn Z h b .int cc (fun j => if n ≤ j then .int d else g j) ∧ Keep h0 h [b] ∧ Fr n0 L) (T.setTop (mkF m 10 #[.val (.ref b), .val (.int (Int32.ofNat n)), .val (.int (Int32.ofNat cc)), .val (.int d), .val (.int (Int32.ofNat i))] [])) := by
    intro r
    induction r with
    | zero =>
      intro i T h L hi hni X eT V K N
      obtain rfl : i = cc := by omega
      refine OFin.to (T.setTop (mkF m 12 #[.val (.ref b), .val (.int (Int32.ofNat n)), .val (.int (Int32.ofNat i)), .val (.int d), .val (.int (Int32.ofNat i))] [(.int (Int32.ofNat i))])) (fun _ kt => XS.iload X.here hx rfl (hb hby d10_10) rfl kt) ?_
      refine OFin.to (T.setTop (mkF m 13 #[.val (.ref b), .val (.int (Int32.ofNat n)), .val (.int (Int32.ofNat i)), .val (.int d), .val (.int (Int32.ofNat i))] [(.int (Int32.ofNat i)), (.int (Int32.ofNat i))])) (fun _ kt => XS.iloadN X.here hx rfl (hb hby d10_12) rfl kt) ?_
      refine OFin.to (T.setTop (mkF m 27 #[.val (.ref b), .val (.int (Int32.ofNat n)), .val (.int (Int32.ofNat i)), .val (.int d), .val (.int (Int32.ofNat i))] [])) (fun _ kt => XS.icmpYes X.here hx rfl (pc0 := 13) (pc' := 27) rfl (hb hby d10_13) rfl (XT.ii_ge_t Int32.lt_irrefl) (by decide) (by decide) kt) ?_
      exact OFin.retV X hx hret hlk (hb hby d10_27) (Nat.zero_le _) (Nat.zero_le _) ⟨rfl, (by rw [eT]; exact own_fnC V (fun j hj => by simp [hj])), (by rw [eT]; exact K), N⟩
    | succ r ih =>
      intro i T h L hi hni X eT V K N
      refine OFin.to (T.setTop (mkF m 12 #[.val (.ref b), .val (.int (Int32.ofNat n)), .val (.int (Int32.ofNat cc)), .val (.int d), .val (.int (Int32.ofNat i))] [(.int (Int32.ofNat i))])) (fun _ kt => XS.iload X.here hx rfl (hb hby d10_10) rfl kt) ?_
      refine OFin.to (T.setTop (mkF m 13 #[.val (.ref b), .val (.int (Int32.ofNat n)), .val (.int (Int32.ofNat cc)), .val (.int d), .val (.int (Int32.ofNat i))] [(.int (Int32.ofNat cc)), (.int (Int32.ofNat i))])) (fun _ kt => XS.iloadN X.here hx rfl (hb hby d10_12) rfl kt) ?_
      refine OFin.to (T.setTop (mkF m 16 #[.val (.ref b), .val (.int (Int32.ofNat n)), .val (.int (Int32.ofNat cc)), .val (.int d), .val (.int (Int32.ofNat i))] [])) (fun _ kt => XS.icmpNo X.here hx rfl (hb hby d10_13) rfl (XT.ii_ge_f ((own_ofLt i cc (by omega) (by omega)).mpr (by omega))) kt) ?_
      refine OFin.to (T.setTop (mkF m 17 #[.val (.ref b), .val (.int (Int32.ofNat n)), .val (.int (Int32.ofNat cc)), .val (.int d), .val (.int (Int32.ofNat i))] [(.ref b)])) (fun _ kt => XS.aloadN X.here hx rfl (hb hby d10_16) rfl rfl kt) ?_
      refine OFin.to (T.setTop (mkF m 19 #[.val (.ref b), .val (.int (Int32.ofNat n)), .val (.int (Int32.ofNat cc)), .val (.int d), .val (.int (Int32.ofNat i))] [(.int (Int32.ofNat i)), (.ref b)])) (fun _ kt => XS.iload X.here hx rfl (hb hby d10_17) rfl kt) ?_
      refine OFin.to (T.setTop (mkF m 20 #[.val (.ref b), .val (.int (Int32.ofNat n)), .val (.int (Int32.ofNat cc)), .val (.int d), .val (.int (Int32.ofNat i))] [(.int d), (.int (Int32.ofNat i)), (.ref b)])) (fun _ kt => XS.iloadN X.here hx rfl (hb hby d10_19) rfl kt) ?_
      obtain ⟨T1, h1, X1, e1, W1, -, st1⟩ := own_stI X hx hZ eT V i (own_ix i (by omega)).1 (own_ix i (by omega)).2 (by rw [own_rlen]; omega) (g := (mkF m 20 #[.val (.ref b), .val (.int (Int32.ofNat n)), .val (.int (Int32.ofNat cc)), .val (.int d), .val (.int (Int32.ofNat i))] [(.int d), (.int (Int32.ofNat i)), (.ref b)])) rfl rfl (hb hby d10_20)
      refine OFin.to (T1.setTop (mkF m 21 #[.val (.ref b), .val (.int (Int32.ofNat n)), .val (.int (Int32.ofNat cc)), .val (.int d), .val (.int (Int32.ofNat i))] [])) st1 ?_
      refine OFin.to (T1.setTop (mkF m 24 #[.val (.ref b), .val (.int (Int32.ofNat n)), .val (.int (Int32.ofNat cc)), .val (.int d), .val (.int ((Int32.ofNat i) + (1 : Int32)))] [])) (fun _ kt => XS.iinc X1.here hx rfl (hb hby d10_21) rfl (l' := #[.val (.ref b), .val (.int (Int32.ofNat n)), .val (.int (Int32.ofNat cc)), .val (.int d), .val (.int ((Int32.ofNat i) + (1 : Int32)))]) rfl kt) ?_
      refine OFin.to (T1.setTop (mkF m 10 #[.val (.ref b), .val (.int (Int32.ofNat n)), .val (.int (Int32.ofNat cc)), .val (.int d), .val (.int ((Int32.ofNat i) + (1 : Int32)))] [])) (fun _ kt => XS.goto X1.here hx rfl (pc0 := 24) (pc' := 10) rfl (hb hby d10_24) (by decide) (by decide) kt) ?_
      rw [show Int32.ofNat i + (1 : Int32) = Int32.ofNat (i + 1) from own_ofAdd i 1]
      refine ih (i + 1) T1 h1 _ (by omega) (by omega) X1 e1 (own_fnC (OFn.set V W1) (fun j hj => ?_)) (K.wr W1 (Or.inl (by simp))) (Fr.snoc X1 N g_b)
      by_cases q : j = i
      · subst q; simp [hni]
      · simp only [if_neg q]
        by_cases q2 : n ≤ j ∧ j < i
        · rw [if_pos q2, if_pos ⟨q2.1, by omega⟩]
        · rw [if_neg q2, if_neg (fun q3 => q2 ⟨q3.1, by omega⟩)]
  refine OFin.to (s₁.setTop (mkF m 1 #[.val (.ref b), .val (.int (Int32.ofNat n)), .val (.int (Int32.ofNat cc)), .val (.int d), .unset] [(.ref b)])) (fun _ kt => XS.aloadN X0.here hx rfl (hb hby d10_0) rfl rfl kt) ?_
  refine OFin.to (s₁.setTop (mkF m 2 #[.val (.ref b), .val (.int (Int32.ofNat n)), .val (.int (Int32.ofNat cc)), .val (.int d), .unset] [(.int (Int32.ofNat cc))])) (fun _ kt => own_len X0 hx hZ e0 V0 (n := Int32.ofNat cc) (by rw [own_rlen]) (g := (mkF m 1 #[.val (.ref b), .val (.int (Int32.ofNat n)), .val (.int (Int32.ofNat cc)), .val (.int d), .unset] [(.ref b)])) rfl rfl (hb hby d10_1) _ kt) ?_
  refine OFin.to (s₁.setTop (mkF m 3 #[.val (.ref b), .val (.int (Int32.ofNat n)), .val (.int (Int32.ofNat cc)), .val (.int d), .unset] [(.int (Int32.ofNat n)), (.int (Int32.ofNat cc))])) (fun _ kt => XS.iloadN X0.here hx rfl (hb hby d10_2) rfl kt) ?_
  refine OFin.to (s₁.setTop (mkF m 4 #[.val (.ref b), .val (.int (Int32.ofNat n)), .val (.int (Int32.ofNat cc)), .val (.int d), .unset] [(.int (Int32.ofNat cc)), (.int (Int32.ofNat n)), (.int (Int32.ofNat cc))])) (fun _ kt => XS.iloadN X0.here hx rfl (hb hby d10_3) rfl kt) ?_
  obtain ⟨v1, T1, L1, hQ1, X1, st1⟩ := own_callS X0 hx hZ hown (hw _ (List.mem_of_getElem? (i := 54) rfl)) (hw _ (List.mem_of_getElem? (i := 55) rfl)) (hw _ (List.mem_of_getElem? (i := 41) rfl)) (hw _ (List.mem_of_getElem? (i := 56) rfl)) (by decide) e0 (rm11 l Z a0 hw [] n cc hn hc' h0) 0 (by decide) (by decide) (by decide) (by decide) (g := (mkF m 4 #[.val (.ref b), .val (.int (Int32.ofNat n)), .val (.int (Int32.ofNat cc)), .val (.int d), .unset] [(.int (Int32.ofNat cc)), (.int (Int32.ofNat n)), (.int (Int32.ofNat cc))])) rfl (by rw [hml]; rfl) (rest := []) (lenOf pd_0 rfl) rfl (by show 2 * 0 + _ ≤ _; exact Nat.le_of_eq rfl) (hb hby d10_4)
  obtain ⟨rfl, e1, rfl⟩ := hQ1
  rw [List.append_nil] at X1
  refine OFin.to (T1.setTop (mkF m 7 #[.val (.ref b), .val (.int (Int32.ofNat n)), .val (.int (Int32.ofNat cc)), .val (.int d), .unset] [])) st1 ?_
  refine OFin.to (T1.setTop (mkF m 8 #[.val (.ref b), .val (.int (Int32.ofNat n)), .val (.int (Int32.ofNat cc)), .val (.int d), .unset] [(.int (Int32.ofNat n))])) (fun _ kt => XS.iloadN X1.here hx rfl (hb hby d10_7) rfl kt) ?_
  refine OFin.to (T1.setTop (mkF m 10 #[.val (.ref b), .val (.int (Int32.ofNat n)), .val (.int (Int32.ofNat cc)), .val (.int d), .val (.int (Int32.ofNat n))] [])) (fun _ kt => XS.istore X1.here hx rfl (hb hby d10_8) rfl (l' := #[.val (.ref b), .val (.int (Int32.ofNat n)), .val (.int (Int32.ofNat cc)), .val (.int d), .val (.int (Int32.ofNat n))]) rfl kt) ?_
  exact LP (cc - n) n T1 h0 _ (by omega) (Nat.le_refl _) X1 e1 (own_fnC V0 (fun j hj => by rw [if_neg (by omega)])) (Keep.refl _ _) (Fr.nil _)
theorem d8_0 : decode jdk_65_method_123_code 0 = .ok (.iload_n 1, 1) := by decide +kernel
theorem d8_1 : decode jdk_65_method_123_code 1 = .ok (.aload_n 0, 1) := by decide +kernel
theorem d8_2 : decode jdk_65_method_123_code 2 = .ok (.arraylength, 1) := by decide +kernel
theorem d8_3 : decode jdk_65_method_123_code 3 = .ok (.if_icmp .ne 11, 3) := by decide +kernel
theorem d8_14 : decode jdk_65_method_123_code 14 = .ok (.iload_n 1, 1) := by decide +kernel
theorem d8_15 : decode jdk_65_method_123_code 15 = .ok (.newarray .int, 2) := by decide +kernel
theorem d8_17 : decode jdk_65_method_123_code 17 = .ok (.astore_n 2, 1) := by decide +kernel
theorem d8_18 : decode jdk_65_method_123_code 18 = .ok (.aload_n 0, 1) := by decide +kernel
theorem d8_19 : decode jdk_65_method_123_code 19 = .ok (.iconst 0, 1) := by decide +kernel
theorem d8_20 : decode jdk_65_method_123_code 20 = .ok (.aload_n 2, 1) := by decide +kernel
theorem d8_21 : decode jdk_65_method_123_code 21 = .ok (.iconst 0, 1) := by decide +kernel
theorem d8_22 : decode jdk_65_method_123_code 22 = .ok (.aload_n 0, 1) := by decide +kernel
theorem d8_23 : decode jdk_65_method_123_code 23 = .ok (.arraylength, 1) := by decide +kernel
theorem d8_24 : decode jdk_65_method_123_code 24 = .ok (.iload_n 1, 1) := by decide +kernel
theorem d8_25 : decode jdk_65_method_123_code 25 = .ok (.invokestatic 304, 3) := by decide +kernel
theorem d8_28 : decode jdk_65_method_123_code 28 = .ok (.invokestatic 150, 3) := by decide +kernel
theorem d8_31 : decode jdk_65_method_123_code 31 = .ok (.aload_n 2, 1) := by decide +kernel
theorem d8_32 : decode jdk_65_method_123_code 32 = .ok (.areturn, 1) := by decide +kernel
theorem pn_8 : plainName "java/util/Arrays" = true := by first | (simp [plainName, overriddenIn]; done) | decide +kernel
theorem ef_8 (m : MethodId) (a0 : Addr) (p1 : Int32) : entryFrame m #[(.ref a0), (.int p1)] 3 = mkF m 0 #[.val (.ref a0), .val (.int p1), .unset] [] := by first | (simp [entryFrame, mkF, argsToLocals, Value.category]; done) | rfl
set_option maxRecDepth 65536 in
set_option maxHeartbeats 40000000 in
theorem rm8 (l : Launch) (Z : State) (a0 : Array Value) (hw : ∀ d ∈ tables_1, d.before a0 Z = true) (ws : List Jvm.Cond) (a : Addr) (n cc : Nat) (hn : n < cc) (hc' : cc ≤ 128) (f : Nat → Int32) (h0 : Heap) (n0 : Nat) (Z0 : n0 ≤ h0.size) (V0 : OFn Z h0 a .int n (fun j => .int (f j))) :
    MetFree l (⟨"java/util/Arrays", "copyOf", "([II)[I"⟩ : MethodName) (head1 (Jvm.Cond.code (⟨"java/util/Arrays", "copyOf", "([II)[I"⟩ : MethodName) jdk_65_method_123_code 3 (some (.array .int)) :: ws) ({ frames := 1, cells := 1, slots := 128, locals := 40 } : Room)) (fun a_ U => a_ = #[(.ref a), (.int (Int32.ofNat cc))] ∧ Z.Warmed39 U.vm ∧ U.heap = h0) (fun _ _ _ _ _ => True) (fun _ U o_ U' => ∃ v L, o_ = .returned v ∧ OQ (fun v h L => ∃ b, v = some (.ref b) ∧ h0.size ≤ b ∧ OFn Z h b .int cc (fun j => if j < n then .int (f j) else .int 0) ∧ Keep h0 h [] ∧ Fr n0 L) v U'.heap L ∧ FrameEnd U o_ U' L ({ frames := 1, cells := 1, slots := 128, locals := 40 } : Room).cells ({ frames := 1, cells := 1, slots := 128, locals := 40 } : Room).slots) := by
  refine MetFree.of_bodySF (plainFor_of_name pn_8) hisR ?_
  intro p e s m args below meth c s₁ Bd hml0 hP hK
  obtain ⟨rfl, hZ, hh⟩ := hP
  have hx := Bd.exec
  have hby := Bd.bytes
  have hml : c.maxLocals = 3 := hml0
  have hown : s.vm.findClass "java/util/Arrays" = some m.cls := findClass_of_methodNamed Bd.named
  have hnm := (name_of_methodNamed Bd.named Bd.method).1
  have hret := Bd.returns
  have hlk : meth.locks = false := Bd.notSynchronized
  have X0 : Stand p l e ({ frames := 1, cells := 1, slots := 128, locals := 40 } : Room) s m #[(.ref a), (.int (Int32.ofNat cc))] below meth c s₁ [] 0 0 := Stand.of_body Bd
  have e0 : s₁.heap = h0 := by rw [← hh, Bd.state]; rfl
  refine OFin.start (Q := fun v h L => ∃ b, v = some (.ref b) ∧ h0.size ≤ b ∧ OFn Z h b .int cc (fun j => if j < n then .int (f j) else .int 0) ∧ Keep h0 h [] ∧ Fr n0 L) (s := s) (fun t kt => castTop (ef_8 m (a) ((Int32.ofNat cc))) kt) ?_
  refine OFin.to (s₁.setTop (mkF m 1 #[.val (.ref a), .val (.int (Int32.ofNat cc)), .unset] [(.int (Int32.ofNat cc))])) (fun _ kt => XS.iloadN X0.here hx rfl (hb hby d8_0) rfl kt) ?_
  refine OFin.to (s₁.setTop (mkF m 2 #[.val (.ref a), .val (.int (Int32.ofNat cc)), .unset] [(.ref a), (.int (Int32.ofNat cc))])) (fun _ kt => XS.aloadN X0.here hx rfl (hb hby d8_1) rfl rfl kt) ?_
  refine OFin.to (s₁.setTop (mkF m 3 #[.val (.ref a), .val (.int (Int32.ofNat cc)), .unset] [(.int (Int32.ofNat n)), (.int (Int32.ofNat cc))])) (fun _ kt => own_len X0 hx hZ e0 V0 (n := Int32.ofNat n) (by rw [own_rlen]) (g := (mkF m 2 #[.val (.ref a), .val (.int (Int32.ofNat cc)), .unset] [(.ref a), (.int (Int32.ofNat cc))])) rfl rfl (hb hby d8_2) _ kt) ?_
  refine OFin.to (s₁.setTop (mkF m 14 #[.val (.ref a), .val (.int (Int32.ofNat cc)), .unset] [])) (fun _ kt => XS.icmpYes X0.here hx rfl (pc0 := 3) (pc' := 14) rfl (hb hby d8_3) rfl (XT.ii_ne_t (fun q => absurd ((own_ofEq cc n (by omega) (by omega)).mp q) (by omega))) (by decide) (by decide) kt) ?_
  refine OFin.to (s₁.setTop (mkF m 15 #[.val (.ref a), .val (.int (Int32.ofNat cc)), .unset] [(.int (Int32.ofNat cc))])) (fun _ kt => XS.iloadN X0.here hx rfl (hb hby d8_14) rfl kt) ?_
  obtain ⟨T1, h1, X1, e1, E1, V1, st1⟩ := own_newP X0 hx hZ (hw _ (List.mem_of_getElem? (i := 43) rfl)) e0 (g := (mkF m 15 #[.val (.ref a), .val (.int (Int32.ofNat cc)), .unset] [(.int (Int32.ofNat cc))])) rfl (hb hby d8_15) rfl (own_ix cc (by omega)).1 cc (own_ix cc (by omega)).2 (cap := 128) hc' (by decide) (by decide) (by decide)
  obtain ⟨b, g1⟩ : ∃ z, z = h0.size := ⟨_, rfl⟩
  rw [← g1] at V1 st1
  rw [own_rep] at V1
  refine OFin.to (T1.setTop (mkF m 17 #[.val (.ref a), .val (.int (Int32.ofNat cc)), .unset] [(.ref b)])) st1 ?_
  have V2 := OFn.ext V0 E1
  refine OFin.to (T1.setTop (mkF m 18 #[.val (.ref a), .val (.int (Int32.ofNat cc)), .val (.ref b)] [])) (fun _ kt => XS.astoreN X1.here hx rfl (hb hby d8_17) rfl rfl (l' := #[.val (.ref a), .val (.int (Int32.ofNat cc)), .val (.ref b)]) rfl kt) ?_
  refine OFin.to (T1.setTop (mkF m 19 #[.val (.ref a), .val (.int (Int32.ofNat cc)), .val (.ref b)] [(.ref a)])) (fun _ kt => XS.aloadN X1.here hx rfl (hb hby d8_18) rfl rfl kt) ?_
  refine OFin.to (T1.setTop (mkF m 20 #[.val (.ref a), .val (.int (Int32.ofNat cc)), .val (.ref b)] [(.int (0 : Int32)), (.ref a)])) (fun _ kt => XS.iconst X1.here hx rfl (hb hby d8_19) kt) ?_
  refine OFin.to (T1.setTop (mkF m 21 #[.val (.ref a), .val (.int (Int32.ofNat cc)), .val (.ref b)] [(.ref b), (.int (0 : Int32)), (.ref a)])) (fun _ kt => XS.aloadN X1.here hx rfl (hb hby d8_20) rfl rfl kt) ?_
  refine OFin.to (T1.setTop (mkF m 22 #[.val (.ref a), .val (.int (Int32.ofNat cc)), .val (.ref b)] [(.int (0 : Int32)), (.ref b), (.int (0 : Int32)), (.ref a)])) (fun _ kt => XS.iconst X1.here hx rfl (hb hby d8_21) kt) ?_
  refine OFin.to (T1.setTop (mkF m 23 #[.val (.ref a), .val (.int (Int32.ofNat cc)), .val (.ref b)] [(.ref a), (.int (0 : Int32)), (.ref b), (.int (0 : Int32)), (.ref a)])) (fun _ kt => XS.aloadN X1.here hx rfl (hb hby d8_22) rfl rfl kt) ?_
  refine OFin.to (T1.setTop (mkF m 24 #[.val (.ref a), .val (.int (Int32.ofNat cc)), .val (.ref b)] [(.int (Int32.ofNat n)), (.int (0 : Int32)), (.ref b), (.int (0 : Int32)), (.ref a)])) (fun _ kt => own_len X1 hx hZ e1 V2 (n := Int32.ofNat n) (by rw [own_rlen]) (g := (mkF m 23 #[.val (.ref a), .val (.int (Int32.ofNat cc)), .val (.ref b)] [(.ref a), (.int (0 : Int32)), (.ref b), (.int (0 : Int32)), (.ref a)])) rfl rfl (hb hby d8_23) _ kt) ?_
  refine OFin.to (T1.setTop (mkF m 25 #[.val (.ref a), .val (.int (Int32.ofNat cc)), .val (.ref b)] [(.int (Int32.ofNat cc)), (.int (Int32.ofNat n)), (.int (0 : Int32)), (.ref b), (.int (0 : Int32)), (.ref a)])) (fun _ kt => XS.iloadN X1.here hx rfl (hb hby d8_24) rfl kt) ?_
  obtain ⟨v2, T2, L2, hQ2, X2, st2⟩ := own_callS X1 hx hZ hown (hw _ (List.mem_of_getElem? (i := 44) rfl)) (hw _ (List.mem_of_getElem? (i := 45) rfl)) (hw _ (List.mem_of_getElem? (i := 33) rfl)) (hw _ (List.mem_of_getElem? (i := 46) rfl)) (by decide) e1 (rm9 l Z a0 hw [] (Int32.ofNat n) (Int32.ofNat cc) h1) 4 (by decide) (by decide) (by decide) (by decide) (g := (mkF m 25 #[.val (.ref a), .val (.int (Int32.ofNat cc)), .val (.ref b)] [(.int (Int32.ofNat cc)), (.int (Int32.ofNat n)), (.int (0 : Int32)), (.ref b), (.int (0 : Int32)), (.ref a)])) rfl (by rw [hml]; rfl) (rest := [(.int (0 : Int32)), (.ref b), (.int (0 : Int32)), (.ref a)]) (lenOf pd_1 rfl) rfl (by show 2 * 0 + _ ≤ _; exact Nat.le_of_eq rfl) (hb hby d8_25)
  obtain ⟨rfl, e2, rfl⟩ := hQ2
  rw [List.append_nil] at X2
  refine OFin.to (T2.setTop (mkF m 28 #[.val (.ref a), .val (.int (Int32.ofNat cc)), .val (.ref b)] [(.int (f9_0 (Int32.ofNat n) (Int32.ofNat cc))), (.int (0 : Int32)), (.ref b), (.int (0 : Int32)), (.ref a)])) st2 ?_
  rw [own_min n cc (by omega) (by omega)]
  obtain ⟨ka, A2⟩ := own_toArv (f := f) V2 (by omega)
  obtain ⟨kb, A1⟩ := own_toArv (f := fun _ => 0) V1 (by omega)
  have i1 := own_ix n (by omega)
  have i2 := own_ix cc (by omega)
  have i0 : (0 : Int32).toNatClampNeg = 0 := rfl
  obtain ⟨T9, h9, L9, X9, e9, N9, K9, A9, st9⟩ := cpA X2 hx hZ hown (hw _ (List.mem_of_getElem? (i := 47) rfl)) (hw _ (List.mem_of_getElem? (i := 50) rfl)) (hw _ (List.mem_of_getElem? (i := 48) rfl)) (hw _ (List.mem_of_getElem? (i := 49) rfl)) e2 A2 A1 (Or.inl ⟨rfl, rfl⟩) (sp := 0) (dp := 0) (nn := Int32.ofNat n) (by decide) (by decide) i1.1 (by rw [i0, i1.2]; omega) (by rw [i0, i1.2, i2.2]; omega) rfl (by rw [i0, i1.2, own_rlen]; omega) (n0 := n0) (Fr.nil n0) (Nat.le_trans Z0 (Nat.le_of_eq g1.symm)) (g := (mkF m 28 #[.val (.ref a), .val (.int (Int32.ofNat cc)), .val (.ref b)] [(.int (Int32.ofNat n)), (.int (0 : Int32)), (.ref b), (.int (0 : Int32)), (.ref a)])) rfl (by rw [hml]; rfl) rfl (hb hby d8_28) (by decide) (W := 0) (by show 2 * 0 + _ ≤ _; exact Nat.le_of_eq rfl) (by decide)
  refine OFin.to (T9.setTop (mkF m 31 #[.val (.ref a), .val (.int (Int32.ofNat cc)), .val (.ref b)] [])) st9 ?_
  refine OFin.to (T9.setTop (mkF m 32 #[.val (.ref a), .val (.int (Int32.ofNat cc)), .val (.ref b)] [(.ref b)])) (fun _ kt => XS.aloadN X9.here hx rfl (hb hby d8_31) rfl rfl kt) ?_
  refine OFin.retA X9 hx hret rfl hlk (hb hby d8_32) (by decide) (by decide) ⟨b, rfl, Nat.le_of_eq g1.symm, ?_, ?_, N9⟩
  · rw [e9]; exact own_ofArv A9 (by omega) (own_cpy n cc (by omega) (by omega) f)
  · rw [e9]; exact ((Keep.refl h0 []).ext E1).trans K9 (fun x hx' => Or.inr (by cases List.mem_singleton.mp hx'; exact Nat.le_of_eq g1.symm))
theorem own_cap (k n : Nat) (hk : k < 64) (hkn : n ≤ k) (hn : n ≤ 64) : ∃ cc : Nat, ((f7_0 (f6_0 (((Int32.ofNat k).toInt64) + (1 : Int64)) ((2 : Int64) * ((Int32.ofNat n).toInt64))) (2147483639 : Int64)).toInt32) = Int32.ofNat cc ∧ k < cc ∧ n < cc ∧ cc ≤ max 64 (2 * n) := by
  have key : ∀ (k : Fin 64) (n : Fin 65), n.1 ≤ k.1 → ((f7_0 (f6_0 (((Int32.ofNat k.1).toInt64) + (1 : Int64)) ((2 : Int64) * ((Int32.ofNat n.1).toInt64))) (2147483639 : Int64)).toInt32) = Int32.ofNat (max (k.1 + 1) (2 * n.1)) := by decide +kernel
  exact ⟨max (k + 1) (2 * n), key ⟨k, hk⟩ ⟨n, by omega⟩ hkn, by omega, by omega, by omega⟩
theorem d5_0 : decode prog_71_method_5_code 0 = .ok (.iload_n 1, 1) := by decide +kernel
theorem d5_1 : decode prog_71_method_5_code 1 = .ok (.ldc 26, 2) := by decide +kernel
theorem d5_3 : decode prog_71_method_5_code 3 = .ok (.if_icmp .lt 13, 3) := by decide +kernel
theorem d5_16 : decode prog_71_method_5_code 16 = .ok (.aload_n 0, 1) := by decide +kernel
theorem d5_17 : decode prog_71_method_5_code 17 = .ok (.getfield 13, 3) := by decide +kernel
theorem d5_20 : decode prog_71_method_5_code 20 = .ok (.arraylength, 1) := by decide +kernel
theorem d5_21 : decode prog_71_method_5_code 21 = .ok (.istore_n 2, 1) := by decide +kernel
theorem d5_22 : decode prog_71_method_5_code 22 = .ok (.iload_n 1, 1) := by decide +kernel
theorem d5_23 : decode prog_71_method_5_code 23 = .ok (.i2l, 1) := by decide +kernel
theorem d5_24 : decode prog_71_method_5_code 24 = .ok (.lconst 1, 1) := by decide +kernel
theorem d5_25 : decode prog_71_method_5_code 25 = .ok (.ladd, 1) := by decide +kernel
theorem d5_26 : decode prog_71_method_5_code 26 = .ok (.ldc2_w 34, 3) := by decide +kernel
theorem d5_29 : decode prog_71_method_5_code 29 = .ok (.iload_n 2, 1) := by decide +kernel
theorem d5_30 : decode prog_71_method_5_code 30 = .ok (.i2l, 1) := by decide +kernel
theorem d5_31 : decode prog_71_method_5_code 31 = .ok (.lmul, 1) := by decide +kernel
theorem d5_32 : decode prog_71_method_5_code 32 = .ok (.invokestatic 36, 3) := by decide +kernel
theorem d5_35 : decode prog_71_method_5_code 35 = .ok (.ldc2_w 42, 3) := by decide +kernel
theorem d5_38 : decode prog_71_method_5_code 38 = .ok (.invokestatic 44, 3) := by decide +kernel
theorem d5_41 : decode prog_71_method_5_code 41 = .ok (.l2i, 1) := by decide +kernel
theorem d5_42 : decode prog_71_method_5_code 42 = .ok (.istore_n 3, 1) := by decide +kernel
theorem d5_43 : decode prog_71_method_5_code 43 = .ok (.aload_n 0, 1) := by decide +kernel
theorem d5_44 : decode prog_71_method_5_code 44 = .ok (.aload_n 0, 1) := by decide +kernel
theorem d5_45 : decode prog_71_method_5_code 45 = .ok (.getfield 13, 3) := by decide +kernel
theorem d5_48 : decode prog_71_method_5_code 48 = .ok (.iload_n 3, 1) := by decide +kernel
theorem d5_49 : decode prog_71_method_5_code 49 = .ok (.invokestatic 47, 3) := by decide +kernel
theorem d5_52 : decode prog_71_method_5_code 52 = .ok (.putfield 13, 3) := by decide +kernel
theorem d5_55 : decode prog_71_method_5_code 55 = .ok (.aload_n 0, 1) := by decide +kernel
theorem d5_56 : decode prog_71_method_5_code 56 = .ok (.getfield 13, 3) := by decide +kernel
theorem d5_59 : decode prog_71_method_5_code 59 = .ok (.iload_n 2, 1) := by decide +kernel
theorem d5_60 : decode prog_71_method_5_code 60 = .ok (.iload_n 3, 1) := by decide +kernel
theorem d5_61 : decode prog_71_method_5_code 61 = .ok (.aload_n 0, 1) := by decide +kernel
theorem d5_62 : decode prog_71_method_5_code 62 = .ok (.getfield 16, 3) := by decide +kernel
theorem d5_65 : decode prog_71_method_5_code 65 = .ok (.invokestatic 53, 3) := by decide +kernel
theorem d5_68 : decode prog_71_method_5_code 68 = .ok (.return_, 1) := by decide +kernel
theorem pn_5 : plainName "com/example/fixpoint_checker/fixpointchecker/formula/IntColumn" = true := by first | (simp [plainName, overriddenIn]; done) | decide +kernel
theorem ef_5 (m : MethodId) (a0 : Addr) (p1 : Int32) : entryFrame m #[(.ref a0), (.int p1)] 4 = mkF m 0 #[.val (.ref a0), .val (.int p1), .unset, .unset] [] := by first | (simp [entryFrame, mkF, argsToLocals, Value.category]; done) | rfl
set_option maxRecDepth 65536 in
set_option maxHeartbeats 40000000 in
theorem rm5 (l : Launch) (Z : State) (a0 : Array Value) (hw : ∀ d ∈ tables_1, d.before a0 Z = true) (ws : List Jvm.Cond) (o a : Addr) (k n : Nat) (hk : k < 64) (hkn : n ≤ k) (hn : n ≤ 64) (f : Nat → Int32) (d : Int32) (h0 : Heap) (n0 : Nat) (Z0 : n0 ≤ h0.size) (g_o : n0 ≤ o) (HC : OCol Z h0 o a n f d) :
    MetFree l (⟨"com/example/fixpoint_checker/fixpointchecker/formula/IntColumn", "grow", "(I)V"⟩ : MethodName) (head1 (Jvm.Cond.code (⟨"com/example/fixpoint_checker/fixpointchecker/formula/IntColumn", "grow", "(I)V"⟩ : MethodName) prog_71_method_5_code 4 none :: ws) ({ frames := 2, cells := 1, slots := 128, locals := 64 } : Room)) (fun a_ U => a_ = #[(.ref o), (.int (Int32.ofNat k))] ∧ Z.Warmed39 U.vm ∧ U.heap = h0) (fun _ _ _ _ _ => True) (fun _ U o_ U' => ∃ v L, o_ = .returned v ∧ OQ (fun v h L => v = none ∧ ∃ a' cc, n0 ≤ a' ∧ k < cc ∧ n < cc ∧ cc ≤ max 64 (2 * n) ∧ OCol Z h o a' cc (fun j => if n ≤ j then d else f j) d ∧ h0.size ≤ h.size ∧ Fr n0 L) v U'.heap L ∧ FrameEnd U o_ U' L ({ frames := 2, cells := 1, slots := 128, locals := 64 } : Room).cells ({ frames := 2, cells := 1, slots := 128, locals := 64 } : Room).slots) := by
  refine MetFree.of_bodySF (plainFor_of_name pn_5) hisR ?_
  intro p e s m args below meth c s₁ Bd hml0 hP hK
  obtain ⟨rfl, hZ, hh⟩ := hP
  have hx := Bd.exec
  have hby := Bd.bytes
  have hml : c.maxLocals = 4 := hml0
  have hown : s.vm.findClass "com/example/fixpoint_checker/fixpointchecker/formula/IntColumn" = some m.cls := findClass_of_methodNamed Bd.named
  have hnm := (name_of_methodNamed Bd.named Bd.method).1
  have hret := Bd.returns
  have hlk : meth.locks = false := Bd.notSynchronized
  have X0 : Stand p l e ({ frames := 2, cells := 1, slots := 128, locals := 64 } : Room) s m #[(.ref o), (.int (Int32.ofNat k))] below meth c s₁ [] 0 0 := Stand.of_body Bd
  have e0 : s₁.heap = h0 := by rw [← hh, Bd.state]; rfl
  refine OFin.start (Q := fun v h L => v = none ∧ ∃ a' cc, n0 ≤ a' ∧ k < cc ∧ n < cc ∧ cc ≤ max 64 (2 * n) ∧ OCol Z h o a' cc (fun j => if n ≤ j then d else f j) d ∧ h0.size ≤ h.size ∧ Fr n0 L) (s := s) (fun t kt => castTop (ef_5 m (o) ((Int32.ofNat k))) kt) ?_
  obtain ⟨E_o, F_v, F_d, V0⟩ := HC
  refine OFin.to (s₁.setTop (mkF m 1 #[.val (.ref o), .val (.int (Int32.ofNat k)), .unset, .unset] [(.int (Int32.ofNat k))])) (fun _ kt => XS.iloadN X0.here hx rfl (hb hby d5_0) rfl kt) ?_
  refine OFin.to (s₁.setTop (mkF m 3 #[.val (.ref o), .val (.int (Int32.ofNat k)), .unset, .unset] [(.int (2147483639 : Int32)), (.int (Int32.ofNat k))])) (fun _ kt => X0.ldcI hx hown (mvT hZ (hw _ (List.mem_of_getElem? (i := 29) rfl))) (g := (mkF m 1 #[.val (.ref o), .val (.int (Int32.ofNat k)), .unset, .unset] [(.int (Int32.ofNat k))])) rfl (hb hby d5_1) kt) ?_
  refine OFin.to (s₁.setTop (mkF m 16 #[.val (.ref o), .val (.int (Int32.ofNat k)), .unset, .unset] [])) (fun _ kt => XS.icmpYes X0.here hx rfl (pc0 := 3) (pc' := 16) rfl (hb hby d5_3) rfl (XT.ii_lt_t ((own_ofLt k 2147483639 (by omega) (by decide)).mpr (by omega))) (by decide) (by decide) kt) ?_
  refine OFin.to (s₁.setTop (mkF m 17 #[.val (.ref o), .val (.int (Int32.ofNat k)), .unset, .unset] [(.ref o)])) (fun _ kt => XS.aloadN X0.here hx rfl (hb hby d5_16) rfl rfl kt) ?_
  obtain ⟨T1, X1, e1, st1⟩ := getF X0 hx hZ hown (host := "") (Or.inl (hw _ (List.mem_of_getElem? (i := 11) rfl))) Via.refl e0 F_v (g := (mkF m 17 #[.val (.ref o), .val (.int (Int32.ofNat k)), .unset, .unset] [(.ref o)])) rfl rfl (hb hby d5_17)
  refine OFin.to (T1.setTop (mkF m 20 #[.val (.ref o), .val (.int (Int32.ofNat k)), .unset, .unset] [(.ref a)])) st1 ?_
  refine OFin.to (T1.setTop (mkF m 21 #[.val (.ref o), .val (.int (Int32.ofNat k)), .unset, .unset] [(.int (Int32.ofNat n))])) (fun _ kt => own_len X1 hx hZ e1 V0 (n := Int32.ofNat n) (by rw [own_rlen]) (g := (mkF m 20 #[.val (.ref o), .val (.int (Int32.ofNat k)), .unset, .unset] [(.ref a)])) rfl rfl (hb hby d5_20) _ kt) ?_
  refine OFin.to (T1.setTop (mkF m 22 #[.val (.ref o), .val (.int (Int32.ofNat k)), .val (.int (Int32.ofNat n)), .unset] [])) (fun _ kt => XS.istoreN X1.here hx rfl (hb hby d5_21) rfl (l' := #[.val (.ref o), .val (.int (Int32.ofNat k)), .val (.int (Int32.ofNat n)), .unset]) rfl kt) ?_
  refine OFin.to (T1.setTop (mkF m 23 #[.val (.ref o), .val (.int (Int32.ofNat k)), .val (.int (Int32.ofNat n)), .unset] [(.int (Int32.ofNat k))])) (fun _ kt => XS.iloadN X1.here hx rfl (hb hby d5_22) rfl kt) ?_
  refine OFin.to (T1.setTop (mkF m 24 #[.val (.ref o), .val (.int (Int32.ofNat k)), .val (.int (Int32.ofNat n)), .unset] [(.long ((Int32.ofNat k).toInt64))])) (fun _ kt => XS.i2l X1.here hx rfl (hb hby d5_23) rfl kt) ?_
  refine OFin.to (T1.setTop (mkF m 25 #[.val (.ref o), .val (.int (Int32.ofNat k)), .val (.int (Int32.ofNat n)), .unset] [(.long (1 : Int64)), (.long ((Int32.ofNat k).toInt64))])) (fun _ kt => XS.lconst X1.here hx rfl (hb hby d5_24) kt) ?_
  refine OFin.to (T1.setTop (mkF m 26 #[.val (.ref o), .val (.int (Int32.ofNat k)), .val (.int (Int32.ofNat n)), .unset] [(.long (((Int32.ofNat k).toInt64) + (1 : Int64)))])) (fun _ kt => XS.ladd X1.here hx rfl (hb hby d5_25) rfl kt) ?_
  refine OFin.to (T1.setTop (mkF m 29 #[.val (.ref o), .val (.int (Int32.ofNat k)), .val (.int (Int32.ofNat n)), .unset] [(.long (2 : Int64)), (.long (((Int32.ofNat k).toInt64) + (1 : Int64)))])) (fun _ kt => X1.ldc2J hx hown (mvT hZ (hw _ (List.mem_of_getElem? (i := 30) rfl))) (g := (mkF m 26 #[.val (.ref o), .val (.int (Int32.ofNat k)), .val (.int (Int32.ofNat n)), .unset] [(.long (((Int32.ofNat k).toInt64) + (1 : Int64)))])) rfl (hb hby d5_26) kt) ?_
  refine OFin.to (T1.setTop (mkF m 30 #[.val (.ref o), .val (.int (Int32.ofNat k)), .val (.int (Int32.ofNat n)), .unset] [(.int (Int32.ofNat n)), (.long (2 : Int64)), (.long (((Int32.ofNat k).toInt64) + (1 : Int64)))])) (fun _ kt => XS.iloadN X1.here hx rfl (hb hby d5_29) rfl kt) ?_
  refine OFin.to (T1.setTop (mkF m 31 #[.val (.ref o), .val (.int (Int32.ofNat k)), .val (.int (Int32.ofNat n)), .unset] [(.long ((Int32.ofNat n).toInt64)), (.long (2 : Int64)), (.long (((Int32.ofNat k).toInt64) + (1 : Int64)))])) (fun _ kt => XS.i2l X1.here hx rfl (hb hby d5_30) rfl kt) ?_
  refine OFin.to (T1.setTop (mkF m 32 #[.val (.ref o), .val (.int (Int32.ofNat k)), .val (.int (Int32.ofNat n)), .unset] [(.long ((2 : Int64) * ((Int32.ofNat n).toInt64))), (.long (((Int32.ofNat k).toInt64) + (1 : Int64)))])) (fun _ kt => XS.lmul X1.here hx rfl (hb hby d5_31) rfl kt) ?_
  obtain ⟨v2, T2, L2, hQ2, X2, st2⟩ := own_callS X1 hx hZ hown (hw _ (List.mem_of_getElem? (i := 31) rfl)) (hw _ (List.mem_of_getElem? (i := 32) rfl)) (hw _ (List.mem_of_getElem? (i := 33) rfl)) (hw _ (List.mem_of_getElem? (i := 34) rfl)) (by decide) e1 (rm6 l Z a0 hw [] (((Int32.ofNat k).toInt64) + (1 : Int64)) ((2 : Int64) * ((Int32.ofNat n).toInt64)) h0) 0 (by decide) (by decide) (by decide) (by decide) (g := (mkF m 32 #[.val (.ref o), .val (.int (Int32.ofNat k)), .val (.int (Int32.ofNat n)), .unset] [(.long ((2 : Int64) * ((Int32.ofNat n).toInt64))), (.long (((Int32.ofNat k).toInt64) + (1 : Int64)))])) rfl (by rw [hml]; rfl) (rest := []) (lenOf pd_2 rfl) rfl (by show 2 * 0 + _ ≤ _; exact Nat.le_of_eq rfl) (hb hby d5_32)
  obtain ⟨rfl, e2, rfl⟩ := hQ2
  rw [List.append_nil] at X2
  refine OFin.to (T2.setTop (mkF m 35 #[.val (.ref o), .val (.int (Int32.ofNat k)), .val (.int (Int32.ofNat n)), .unset] [(.long (f6_0 (((Int32.ofNat k).toInt64) + (1 : Int64)) ((2 : Int64) * ((Int32.ofNat n).toInt64))))])) st2 ?_
  refine OFin.to (T2.setTop (mkF m 38 #[.val (.ref o), .val (.int (Int32.ofNat k)), .val (.int (Int32.ofNat n)), .unset] [(.long (2147483639 : Int64)), (.long (f6_0 (((Int32.ofNat k).toInt64) + (1 : Int64)) ((2 : Int64) * ((Int32.ofNat n).toInt64))))])) (fun _ kt => X2.ldc2J hx hown (mvT hZ (hw _ (List.mem_of_getElem? (i := 35) rfl))) (g := (mkF m 35 #[.val (.ref o), .val (.int (Int32.ofNat k)), .val (.int (Int32.ofNat n)), .unset] [(.long (f6_0 (((Int32.ofNat k).toInt64) + (1 : Int64)) ((2 : Int64) * ((Int32.ofNat n).toInt64))))])) rfl (hb hby d5_35) kt) ?_
  obtain ⟨v3, T3, L3, hQ3, X3, st3⟩ := own_callS X2 hx hZ hown (hw _ (List.mem_of_getElem? (i := 36) rfl)) (hw _ (List.mem_of_getElem? (i := 37) rfl)) (hw _ (List.mem_of_getElem? (i := 33) rfl)) (hw _ (List.mem_of_getElem? (i := 38) rfl)) (by decide) e2 (rm7 l Z a0 hw [] (f6_0 (((Int32.ofNat k).toInt64) + (1 : Int64)) ((2 : Int64) * ((Int32.ofNat n).toInt64))) (2147483639 : Int64) h0) 0 (by decide) (by decide) (by decide) (by decide) (g := (mkF m 38 #[.val (.ref o), .val (.int (Int32.ofNat k)), .val (.int (Int32.ofNat n)), .unset] [(.long (2147483639 : Int64)), (.long (f6_0 (((Int32.ofNat k).toInt64) + (1 : Int64)) ((2 : Int64) * ((Int32.ofNat n).toInt64))))])) rfl (by rw [hml]; rfl) (rest := []) (lenOf pd_2 rfl) rfl (by show 2 * 0 + _ ≤ _; exact Nat.le_of_eq rfl) (hb hby d5_38)
  obtain ⟨rfl, e3, rfl⟩ := hQ3
  rw [List.append_nil] at X3
  refine OFin.to (T3.setTop (mkF m 41 #[.val (.ref o), .val (.int (Int32.ofNat k)), .val (.int (Int32.ofNat n)), .unset] [(.long (f7_0 (f6_0 (((Int32.ofNat k).toInt64) + (1 : Int64)) ((2 : Int64) * ((Int32.ofNat n).toInt64))) (2147483639 : Int64)))])) st3 ?_
  refine OFin.to (T3.setTop (mkF m 42 #[.val (.ref o), .val (.int (Int32.ofNat k)), .val (.int (Int32.ofNat n)), .unset] [(.int ((f7_0 (f6_0 (((Int32.ofNat k).toInt64) + (1 : Int64)) ((2 : Int64) * ((Int32.ofNat n).toInt64))) (2147483639 : Int64)).toInt32))])) (fun _ kt => XS.l2i X3.here hx rfl (hb hby d5_41) rfl kt) ?_
  obtain ⟨cc, hcc, hk1, hn1, hc1⟩ := own_cap k n hk hkn hn
  rw [hcc]
  refine OFin.to (T3.setTop (mkF m 43 #[.val (.ref o), .val (.int (Int32.ofNat k)), .val (.int (Int32.ofNat n)), .val (.int (Int32.ofNat cc))] [])) (fun _ kt => XS.istoreN X3.here hx rfl (hb hby d5_42) rfl (l' := #[.val (.ref o), .val (.int (Int32.ofNat k)), .val (.int (Int32.ofNat n)), .val (.int (Int32.ofNat cc))]) rfl kt) ?_
  refine OFin.to (T3.setTop (mkF m 44 #[.val (.ref o), .val (.int (Int32.ofNat k)), .val (.int (Int32.ofNat n)), .val (.int (Int32.ofNat cc))] [(.ref o)])) (fun _ kt => XS.aloadN X3.here hx rfl (hb hby d5_43) rfl rfl kt) ?_
  refine OFin.to (T3.setTop (mkF m 45 #[.val (.ref o), .val (.int (Int32.ofNat k)), .val (.int (Int32.ofNat n)), .val (.int (Int32.ofNat cc))] [(.ref o), (.ref o)])) (fun _ kt => XS.aloadN X3.here hx rfl (hb hby d5_44) rfl rfl kt) ?_
  obtain ⟨T4, X4, e4, st4⟩ := getF X3 hx hZ hown (host := "") (Or.inl (hw _ (List.mem_of_getElem? (i := 11) rfl))) Via.refl e3 F_v (g := (mkF m 45 #[.val (.ref o), .val (.int (Int32.ofNat k)), .val (.int (Int32.ofNat n)), .val (.int (Int32.ofNat cc))] [(.ref o), (.ref o)])) rfl rfl (hb hby d5_45)
  refine OFin.to (T4.setTop (mkF m 48 #[.val (.ref o), .val (.int (Int32.ofNat k)), .val (.int (Int32.ofNat n)), .val (.int (Int32.ofNat cc))] [(.ref a), (.ref o)])) st4 ?_
  refine OFin.to (T4.setTop (mkF m 49 #[.val (.ref o), .val (.int (Int32.ofNat k)), .val (.int (Int32.ofNat n)), .val (.int (Int32.ofNat cc))] [(.int (Int32.ofNat cc)), (.ref a), (.ref o)])) (fun _ kt => XS.iloadN X4.here hx rfl (hb hby d5_48) rfl kt) ?_
  obtain ⟨v5, T5, L5, hQ5, X5, st5⟩ := own_callS X4 hx hZ hown (hw _ (List.mem_of_getElem? (i := 39) rfl)) (hw _ (List.mem_of_getElem? (i := 40) rfl)) (hw _ (List.mem_of_getElem? (i := 41) rfl)) (hw _ (List.mem_of_getElem? (i := 42) rfl)) (by decide) e4 (rm8 l Z a0 hw [] a n cc (by omega) (by omega) f h0 n0 Z0 V0) 1 (by decide) (by decide) (by decide) (by decide) (g := (mkF m 49 #[.val (.ref o), .val (.int (Int32.ofNat k)), .val (.int (Int32.ofNat n)), .val (.int (Int32.ofNat cc))] [(.int (Int32.ofNat cc)), (.ref a), (.ref o)])) rfl (by rw [hml]; rfl) (rest := [(.ref o)]) (lenOf pd_3 rfl) rfl (by show 2 * 0 + _ ≤ _; exact Nat.le_of_eq rfl) (hb hby d5_49)
  obtain ⟨b, rfl, hb', Vb, Kb, Nb⟩ := hQ5
  refine OFin.to (T5.setTop (mkF m 52 #[.val (.ref o), .val (.int (Int32.ofNat k)), .val (.int (Int32.ofNat n)), .val (.int (Int32.ofNat cc))] [(.ref b), (.ref o)])) st5 ?_
  have E_o := E_o.keep Kb
  have F_v := F_v.keep Kb nin0
  have F_d := F_d.keep Kb nin0
  have ne_b_o : b ≠ o := own_neVO E_o (hw _ (List.mem_of_getElem? (i := 1) rfl)) Vb
  rw [List.nil_append] at X5
  obtain ⟨T6, h6, X6, e6, W6, st6⟩ := putF X5 hx hZ hown (host := "") (Or.inl (hw _ (List.mem_of_getElem? (i := 11) rfl))) Via.refl rfl F_v E_o (Or.inl (hw _ (List.mem_of_getElem? (i := 12) rfl))) (hw _ (List.mem_of_getElem? (i := 1) rfl)) (ty := (.array .int)) (by decide) rfl rfl (g := (mkF m 52 #[.val (.ref o), .val (.int (Int32.ofNat k)), .val (.int (Int32.ofNat n)), .val (.int (Int32.ofNat cc))] [(.ref b), (.ref o)])) rfl rfl (hb hby d5_52)
  have E_o_6 := E_o.wr W6
  have F_d_6 := F_d.other W6 (Or.inr (slot_ne (Or.inr (hw _ (List.mem_of_getElem? (i := 14) rfl))) (Or.inl (hw _ (List.mem_of_getElem? (i := 12) rfl))) (by decide) (t := .int) (t' := (.array .int)) (by decide) (by decide)))
  have Vb_6 := Vb.other W6 ne_b_o
  have F_v_6 := F_v.same W6
  have N6 := Fr.snoc X6 Nb g_o
  refine OFin.to (T6.setTop (mkF m 55 #[.val (.ref o), .val (.int (Int32.ofNat k)), .val (.int (Int32.ofNat n)), .val (.int (Int32.ofNat cc))] [])) st6 ?_
  refine OFin.to (T6.setTop (mkF m 56 #[.val (.ref o), .val (.int (Int32.ofNat k)), .val (.int (Int32.ofNat n)), .val (.int (Int32.ofNat cc))] [(.ref o)])) (fun _ kt => XS.aloadN X6.here hx rfl (hb hby d5_55) rfl rfl kt) ?_
  obtain ⟨T7, X7, e7, st7⟩ := getF X6 hx hZ hown (host := "") (Or.inl (hw _ (List.mem_of_getElem? (i := 11) rfl))) Via.refl e6 F_v_6 (g := (mkF m 56 #[.val (.ref o), .val (.int (Int32.ofNat k)), .val (.int (Int32.ofNat n)), .val (.int (Int32.ofNat cc))] [(.ref o)])) rfl rfl (hb hby d5_56)
  refine OFin.to (T7.setTop (mkF m 59 #[.val (.ref o), .val (.int (Int32.ofNat k)), .val (.int (Int32.ofNat n)), .val (.int (Int32.ofNat cc))] [(.ref b)])) st7 ?_
  refine OFin.to (T7.setTop (mkF m 60 #[.val (.ref o), .val (.int (Int32.ofNat k)), .val (.int (Int32.ofNat n)), .val (.int (Int32.ofNat cc))] [(.int (Int32.ofNat n)), (.ref b)])) (fun _ kt => XS.iloadN X7.here hx rfl (hb hby d5_59) rfl kt) ?_
  refine OFin.to (T7.setTop (mkF m 61 #[.val (.ref o), .val (.int (Int32.ofNat k)), .val (.int (Int32.ofNat n)), .val (.int (Int32.ofNat cc))] [(.int (Int32.ofNat cc)), (.int (Int32.ofNat n)), (.ref b)])) (fun _ kt => XS.iloadN X7.here hx rfl (hb hby d5_60) rfl kt) ?_
  refine OFin.to (T7.setTop (mkF m 62 #[.val (.ref o), .val (.int (Int32.ofNat k)), .val (.int (Int32.ofNat n)), .val (.int (Int32.ofNat cc))] [(.ref o), (.int (Int32.ofNat cc)), (.int (Int32.ofNat n)), (.ref b)])) (fun _ kt => XS.aloadN X7.here hx rfl (hb hby d5_61) rfl rfl kt) ?_
  obtain ⟨T8, X8, e8, st8⟩ := getF X7 hx hZ hown (host := "") (Or.inl (hw _ (List.mem_of_getElem? (i := 13) rfl))) Via.refl e7 F_d_6 (g := (mkF m 62 #[.val (.ref o), .val (.int (Int32.ofNat k)), .val (.int (Int32.ofNat n)), .val (.int (Int32.ofNat cc))] [(.ref o), (.int (Int32.ofNat cc)), (.int (Int32.ofNat n)), (.ref b)])) rfl rfl (hb hby d5_62)
  refine OFin.to (T8.setTop (mkF m 65 #[.val (.ref o), .val (.int (Int32.ofNat k)), .val (.int (Int32.ofNat n)), .val (.int (Int32.ofNat cc))] [(.int d), (.int (Int32.ofNat cc)), (.int (Int32.ofNat n)), (.ref b)])) st8 ?_
  have gb : n0 ≤ b := Nat.le_trans Z0 hb'
  obtain ⟨v9, T9, L9, hQ9, X9, st9⟩ := own_callS X8 hx hZ hown (hw _ (List.mem_of_getElem? (i := 51) rfl)) (hw _ (List.mem_of_getElem? (i := 52) rfl)) (hw _ (List.mem_of_getElem? (i := 41) rfl)) (hw _ (List.mem_of_getElem? (i := 53) rfl)) (by decide) e8 (rm10 l Z a0 hw [] b n cc (by omega) (by omega) d _ h6 n0 gb Vb_6) 0 (by decide) (by decide) (by decide) (by decide) (g := (mkF m 65 #[.val (.ref o), .val (.int (Int32.ofNat k)), .val (.int (Int32.ofNat n)), .val (.int (Int32.ofNat cc))] [(.int d), (.int (Int32.ofNat cc)), (.int (Int32.ofNat n)), (.ref b)])) rfl (by rw [hml]; rfl) (rest := []) (lenOf pd_4 rfl) rfl (by show 2 * 0 + _ ≤ _; exact Nat.le_of_eq rfl) (hb hby d5_65)
  obtain ⟨rfl, Vf, Kf, Nf⟩ := hQ9
  refine OFin.to (T9.setTop (mkF m 68 #[.val (.ref o), .val (.int (Int32.ofNat k)), .val (.int (Int32.ofNat n)), .val (.int (Int32.ofNat cc))] [])) st9 ?_
  refine OFin.retV X9 hx hret hlk (hb hby d5_68) (by decide) (by decide) ⟨rfl, b, cc, gb, hk1, hn1, hc1, ⟨E_o_6.keep Kf, F_v_6.keep Kf (ninS ne_b_o.symm nin0), F_d_6.keep Kf (ninS ne_b_o.symm nin0), own_fnC Vf (fun j hj => ?_)⟩, ?_, Fr.app N6 Nf⟩
  · by_cases q : n ≤ j
    · simp [q]
    · simp [q, show j < n by omega]
  · exact Nat.le_trans (Nat.le_trans Kb.1 (Keep.of_wr W6).1) Kf.1
theorem d3_0 : decode prog_71_method_2_code 0 = .ok (.iload_n 1, 1) := by decide +kernel
theorem d3_1 : decode prog_71_method_2_code 1 = .ok (.aload_n 0, 1) := by decide +kernel
theorem d3_2 : decode prog_71_method_2_code 2 = .ok (.getfield 13, 3) := by decide +kernel
theorem d3_5 : decode prog_71_method_2_code 5 = .ok (.arraylength, 1) := by decide +kernel
theorem d3_6 : decode prog_71_method_2_code 6 = .ok (.if_icmp .ge 12, 3) := by decide +kernel
theorem d3_9 : decode prog_71_method_2_code 9 = .ok (.aload_n 0, 1) := by decide +kernel
theorem d3_10 : decode prog_71_method_2_code 10 = .ok (.getfield 13, 3) := by decide +kernel
theorem d3_13 : decode prog_71_method_2_code 13 = .ok (.iload_n 1, 1) := by decide +kernel
theorem d3_14 : decode prog_71_method_2_code 14 = .ok (.iaload, 1) := by decide +kernel
theorem d3_15 : decode prog_71_method_2_code 15 = .ok (.goto 7, 3) := by decide +kernel
theorem d3_18 : decode prog_71_method_2_code 18 = .ok (.aload_n 0, 1) := by decide +kernel
theorem d3_19 : decode prog_71_method_2_code 19 = .ok (.getfield 16, 3) := by decide +kernel
theorem d3_22 : decode prog_71_method_2_code 22 = .ok (.ireturn, 1) := by decide +kernel
theorem pn_3 : plainName "com/example/fixpoint_checker/fixpointchecker/formula/IntColumn" = true := by first | (simp [plainName, overriddenIn]; done) | decide +kernel
theorem ef_3 (m : MethodId) (a0 : Addr) (p1 : Int32) : entryFrame m #[(.ref a0), (.int p1)] 2 = mkF m 0 #[.val (.ref a0), .val (.int p1)] [] := by first | (simp [entryFrame, mkF, argsToLocals, Value.category]; done) | rfl
set_option maxRecDepth 65536 in
set_option maxHeartbeats 40000000 in
theorem rm3 (l : Launch) (Z : State) (a0 : Array Value) (hw : ∀ d ∈ tables_1, d.before a0 Z = true) (ws : List Jvm.Cond) (o a : Addr) (k n : Nat) (hk : k < 128) (hn : n ≤ 128) (f : Nat → Int32) (d : Int32) (h0 : Heap) (HC : OCol Z h0 o a n f d) :
    MetFree l (⟨"com/example/fixpoint_checker/fixpointchecker/formula/IntColumn", "get", "(I)I"⟩ : MethodName) (head1 (Jvm.Cond.code (⟨"com/example/fixpoint_checker/fixpointchecker/formula/IntColumn", "get", "(I)I"⟩ : MethodName) prog_71_method_2_code 2 (some .int) :: ws) ({ frames := 0, cells := 0, slots := 0, locals := 0 } : Room)) (fun a_ U => a_ = #[(.ref o), (.int (Int32.ofNat k))] ∧ Z.Warmed39 U.vm ∧ U.heap = h0) (fun _ _ _ _ _ => True) (fun _ U o_ U' => ∃ v L, o_ = .returned v ∧ OQ (fun v h L => v = some (.int (own_get n f d k)) ∧ h = h0 ∧ L = []) v U'.heap L ∧ FrameEnd U o_ U' L ({ frames := 0, cells := 0, slots := 0, locals := 0 } : Room).cells ({ frames := 0, cells := 0, slots := 0, locals := 0 } : Room).slots) := by
  refine MetFree.of_bodySF (plainFor_of_name pn_3) hisR ?_
  intro p e s m args below meth c s₁ Bd hml0 hP hK
  obtain ⟨rfl, hZ, hh⟩ := hP
  have hx := Bd.exec
  have hby := Bd.bytes
  have hml : c.maxLocals = 2 := hml0
  have hown : s.vm.findClass "com/example/fixpoint_checker/fixpointchecker/formula/IntColumn" = some m.cls := findClass_of_methodNamed Bd.named
  have hnm := (name_of_methodNamed Bd.named Bd.method).1
  have hret := Bd.returns
  have hlk : meth.locks = false := Bd.notSynchronized
  have X0 : Stand p l e ({ frames := 0, cells := 0, slots := 0, locals := 0 } : Room) s m #[(.ref o), (.int (Int32.ofNat k))] below meth c s₁ [] 0 0 := Stand.of_body Bd
  have e0 : s₁.heap = h0 := by rw [← hh, Bd.state]; rfl
  refine OFin.start (Q := fun v h L => v = some (.int (own_get n f d k)) ∧ h = h0 ∧ L = []) (s := s) (fun t kt => castTop (ef_3 m (o) ((Int32.ofNat k))) kt) ?_
  obtain ⟨E_o, F_v, F_d, V0⟩ := HC
  refine OFin.to (s₁.setTop (mkF m 1 #[.val (.ref o), .val (.int (Int32.ofNat k))] [(.int (Int32.ofNat k))])) (fun _ kt => XS.iloadN X0.here hx rfl (hb hby d3_0) rfl kt) ?_
  refine OFin.to (s₁.setTop (mkF m 2 #[.val (.ref o), .val (.int (Int32.ofNat k))] [(.ref o), (.int (Int32.ofNat k))])) (fun _ kt => XS.aloadN X0.here hx rfl (hb hby d3_1) rfl rfl kt) ?_
  obtain ⟨T1, X1, e1, st1⟩ := getF X0 hx hZ hown (host := "") (Or.inl (hw _ (List.mem_of_getElem? (i := 11) rfl))) Via.refl e0 F_v (g := (mkF m 2 #[.val (.ref o), .val (.int (Int32.ofNat k))] [(.ref o), (.int (Int32.ofNat k))])) rfl rfl (hb hby d3_2)
  refine OFin.to (T1.setTop (mkF m 5 #[.val (.ref o), .val (.int (Int32.ofNat k))] [(.ref a), (.int (Int32.ofNat k))])) st1 ?_
  refine OFin.to (T1.setTop (mkF m 6 #[.val (.ref o), .val (.int (Int32.ofNat k))] [(.int (Int32.ofNat n)), (.int (Int32.ofNat k))])) (fun _ kt => own_len X1 hx hZ e1 V0 (n := Int32.ofNat n) (by rw [own_rlen]) (g := (mkF m 5 #[.val (.ref o), .val (.int (Int32.ofNat k))] [(.ref a), (.int (Int32.ofNat k))])) rfl rfl (hb hby d3_5) _ kt) ?_
  by_cases hkn : k < n
  case pos =>
    refine OFin.to (T1.setTop (mkF m 9 #[.val (.ref o), .val (.int (Int32.ofNat k))] [])) (fun _ kt => XS.icmpNo X1.here hx rfl (hb hby d3_6) rfl (XT.ii_ge_f ((own_ofLt k n (by omega) (by omega)).mpr hkn)) kt) ?_
    refine OFin.to (T1.setTop (mkF m 10 #[.val (.ref o), .val (.int (Int32.ofNat k))] [(.ref o)])) (fun _ kt => XS.aloadN X1.here hx rfl (hb hby d3_9) rfl rfl kt) ?_
    obtain ⟨T2, X2, e2, st2⟩ := getF X1 hx hZ hown (host := "") (Or.inl (hw _ (List.mem_of_getElem? (i := 11) rfl))) Via.refl e1 F_v (g := (mkF m 10 #[.val (.ref o), .val (.int (Int32.ofNat k))] [(.ref o)])) rfl rfl (hb hby d3_10)
    refine OFin.to (T2.setTop (mkF m 13 #[.val (.ref o), .val (.int (Int32.ofNat k))] [(.ref a)])) st2 ?_
    refine OFin.to (T2.setTop (mkF m 14 #[.val (.ref o), .val (.int (Int32.ofNat k))] [(.int (Int32.ofNat k)), (.ref a)])) (fun _ kt => XS.iloadN X2.here hx rfl (hb hby d3_13) rfl kt) ?_
    refine OFin.to (T2.setTop (mkF m 15 #[.val (.ref o), .val (.int (Int32.ofNat k))] [(.int (f k))])) (fun _ kt => own_ldI X2 hx hZ e2 V0 (j := Int32.ofNat k) (own_ix k (by omega)).1 (by rw [(own_ix k (by omega)).2, own_rat _ hkn]) (g := (mkF m 14 #[.val (.ref o), .val (.int (Int32.ofNat k))] [(.int (Int32.ofNat k)), (.ref a)])) rfl rfl (hb hby d3_14) _ kt) ?_
    refine OFin.to (T2.setTop (mkF m 22 #[.val (.ref o), .val (.int (Int32.ofNat k))] [(.int (f k))])) (fun _ kt => XS.goto X2.here hx rfl (pc0 := 15) (pc' := 22) rfl (hb hby d3_15) (by decide) (by decide) kt) ?_
    exact OFin.retI X2 hx hret hlk (hb hby d3_22) (Nat.zero_le _) (Nat.zero_le _) ⟨by rw [own_get, if_pos hkn], e2, rfl⟩
  refine OFin.to (T1.setTop (mkF m 18 #[.val (.ref o), .val (.int (Int32.ofNat k))] [])) (fun _ kt => XS.icmpYes X1.here hx rfl (pc0 := 6) (pc' := 18) rfl (hb hby d3_6) rfl (XT.ii_ge_t (fun q => hkn ((own_ofLt k n (by omega) (by omega)).mp q))) (by decide) (by decide) kt) ?_
  refine OFin.to (T1.setTop (mkF m 19 #[.val (.ref o), .val (.int (Int32.ofNat k))] [(.ref o)])) (fun _ kt => XS.aloadN X1.here hx rfl (hb hby d3_18) rfl rfl kt) ?_
  obtain ⟨T3, X3, e3, st3⟩ := getF X1 hx hZ hown (host := "") (Or.inl (hw _ (List.mem_of_getElem? (i := 13) rfl))) Via.refl e1 F_d (g := (mkF m 19 #[.val (.ref o), .val (.int (Int32.ofNat k))] [(.ref o)])) rfl rfl (hb hby d3_19)
  refine OFin.to (T3.setTop (mkF m 22 #[.val (.ref o), .val (.int (Int32.ofNat k))] [(.int d)])) st3 ?_
  exact OFin.retI X3 hx hret hlk (hb hby d3_22) (Nat.zero_le _) (Nat.zero_le _) ⟨by rw [own_get, if_neg hkn], e3, rfl⟩
theorem d4_0 : decode prog_71_method_3_code 0 = .ok (.iload_n 1, 1) := by decide +kernel
theorem d4_1 : decode prog_71_method_3_code 1 = .ok (.aload_n 0, 1) := by decide +kernel
theorem d4_2 : decode prog_71_method_3_code 2 = .ok (.getfield 13, 3) := by decide +kernel
theorem d4_5 : decode prog_71_method_3_code 5 = .ok (.arraylength, 1) := by decide +kernel
theorem d4_6 : decode prog_71_method_3_code 6 = .ok (.if_icmp .ge 13, 3) := by decide +kernel
theorem d4_9 : decode prog_71_method_3_code 9 = .ok (.aload_n 0, 1) := by decide +kernel
theorem d4_10 : decode prog_71_method_3_code 10 = .ok (.getfield 13, 3) := by decide +kernel
theorem d4_13 : decode prog_71_method_3_code 13 = .ok (.iload_n 1, 1) := by decide +kernel
theorem d4_14 : decode prog_71_method_3_code 14 = .ok (.iload_n 2, 1) := by decide +kernel
theorem d4_15 : decode prog_71_method_3_code 15 = .ok (.iastore, 1) := by decide +kernel
theorem d4_16 : decode prog_71_method_3_code 16 = .ok (.goto 23, 3) := by decide +kernel
theorem d4_19 : decode prog_71_method_3_code 19 = .ok (.iload_n 2, 1) := by decide +kernel
theorem d4_20 : decode prog_71_method_3_code 20 = .ok (.aload_n 0, 1) := by decide +kernel
theorem d4_21 : decode prog_71_method_3_code 21 = .ok (.getfield 16, 3) := by decide +kernel
theorem d4_24 : decode prog_71_method_3_code 24 = .ok (.if_icmp .eq 15, 3) := by decide +kernel
theorem d4_27 : decode prog_71_method_3_code 27 = .ok (.aload_n 0, 1) := by decide +kernel
theorem d4_28 : decode prog_71_method_3_code 28 = .ok (.iload_n 1, 1) := by decide +kernel
theorem d4_29 : decode prog_71_method_3_code 29 = .ok (.invokevirtual 20, 3) := by decide +kernel
theorem d4_32 : decode prog_71_method_3_code 32 = .ok (.aload_n 0, 1) := by decide +kernel
theorem d4_33 : decode prog_71_method_3_code 33 = .ok (.getfield 13, 3) := by decide +kernel
theorem d4_36 : decode prog_71_method_3_code 36 = .ok (.iload_n 1, 1) := by decide +kernel
theorem d4_37 : decode prog_71_method_3_code 37 = .ok (.iload_n 2, 1) := by decide +kernel
theorem d4_38 : decode prog_71_method_3_code 38 = .ok (.iastore, 1) := by decide +kernel
theorem d4_39 : decode prog_71_method_3_code 39 = .ok (.return_, 1) := by decide +kernel
theorem pn_4 : plainName "com/example/fixpoint_checker/fixpointchecker/formula/IntColumn" = true := by first | (simp [plainName, overriddenIn]; done) | decide +kernel
theorem ef_4 (m : MethodId) (a0 : Addr) (p1 : Int32) (p2 : Int32) : entryFrame m #[(.ref a0), (.int p1), (.int p2)] 3 = mkF m 0 #[.val (.ref a0), .val (.int p1), .val (.int p2)] [] := by first | (simp [entryFrame, mkF, argsToLocals, Value.category]; done) | rfl
set_option maxRecDepth 65536 in
set_option maxHeartbeats 40000000 in
theorem rm4 (l : Launch) (Z : State) (a0 : Array Value) (hw : ∀ d ∈ tables_1, d.before a0 Z = true) (ws : List Jvm.Cond) (o a : Addr) (k n : Nat) (hk : k < 64) (hn : n ≤ 64) (w : Int32) (f : Nat → Int32) (d : Int32) (h0 : Heap) (n0 : Nat) (Z0 : n0 ≤ h0.size) (g_o : n0 ≤ o) (hnew : 0 < n → n0 ≤ a) (HC : OCol Z h0 o a n f d) :
    MetFree l (⟨"com/example/fixpoint_checker/fixpointchecker/formula/IntColumn", "set", "(II)V"⟩ : MethodName) (head1 (Jvm.Cond.code (⟨"com/example/fixpoint_checker/fixpointchecker/formula/IntColumn", "set", "(II)V"⟩ : MethodName) prog_71_method_3_code 3 none :: ws) ({ frames := 3, cells := 1, slots := 128, locals := 80 } : Room)) (fun a_ U => a_ = #[(.ref o), (.int (Int32.ofNat k)), (.int w)] ∧ Z.Warmed39 U.vm ∧ U.heap = h0) (fun _ _ _ _ _ => True) (fun _ U o_ U' => ∃ v L, o_ = .returned v ∧ OQ (fun v h L => v = none ∧ ∃ a' n' f', (0 < n' → n0 ≤ a') ∧ n' ≤ max 64 (2 * n) ∧ OCol Z h o a' n' f' d ∧ (∀ j, own_get n' f' d j = if j = k then w else own_get n f d j) ∧ h0.size ≤ h.size ∧ Fr n0 L) v U'.heap L ∧ FrameEnd U o_ U' L ({ frames := 3, cells := 1, slots := 128, locals := 80 } : Room).cells ({ frames := 3, cells := 1, slots := 128, locals := 80 } : Room).slots) := by
  refine MetFree.of_bodySF (plainFor_of_name pn_4) hisR ?_
  intro p e s m args below meth c s₁ Bd hml0 hP hK
  obtain ⟨rfl, hZ, hh⟩ := hP
  have hx := Bd.exec
  have hby := Bd.bytes
  have hml : c.maxLocals = 3 := hml0
  have hown : s.vm.findClass "com/example/fixpoint_checker/fixpointchecker/formula/IntColumn" = some m.cls := findClass_of_methodNamed Bd.named
  have hnm := (name_of_methodNamed Bd.named Bd.method).1
  have hret := Bd.returns
  have hlk : meth.locks = false := Bd.notSynchronized
  have X0 : Stand p l e ({ frames := 3, cells := 1, slots := 128, locals := 80 } : Room) s m #[(.ref o), (.int (Int32.ofNat k)), (.int w)] below meth c s₁ [] 0 0 := Stand.of_body Bd
  have e0 : s₁.heap = h0 := by rw [← hh, Bd.state]; rfl
  refine OFin.start (Q := fun v h L => v = none ∧ ∃ a' n' f', (0 < n' → n0 ≤ a') ∧ n' ≤ max 64 (2 * n) ∧ OCol Z h o a' n' f' d ∧ (∀ j, own_get n' f' d j = if j = k then w else own_get n f d j) ∧ h0.size ≤ h.size ∧ Fr n0 L) (s := s) (fun t kt => castTop (ef_4 m (o) ((Int32.ofNat k)) (w)) kt) ?_
  have HC' := HC
  obtain ⟨E_o, F_v, F_d, V0⟩ := HC
  refine OFin.to (s₁.setTop (mkF m 1 #[.val (.ref o), .val (.int (Int32.ofNat k)), .val (.int w)] [(.int (Int32.ofNat k))])) (fun _ kt => XS.iloadN X0.here hx rfl (hb hby d4_0) rfl kt) ?_
  refine OFin.to (s₁.setTop (mkF m 2 #[.val (.ref o), .val (.int (Int32.ofNat k)), .val (.int w)] [(.ref o), (.int (Int32.ofNat k))])) (fun _ kt => XS.aloadN X0.here hx rfl (hb hby d4_1) rfl rfl kt) ?_
  obtain ⟨T1, X1, e1, st1⟩ := getF X0 hx hZ hown (host := "") (Or.inl (hw _ (List.mem_of_getElem? (i := 11) rfl))) Via.refl e0 F_v (g := (mkF m 2 #[.val (.ref o), .val (.int (Int32.ofNat k)), .val (.int w)] [(.ref o), (.int (Int32.ofNat k))])) rfl rfl (hb hby d4_2)
  refine OFin.to (T1.setTop (mkF m 5 #[.val (.ref o), .val (.int (Int32.ofNat k)), .val (.int w)] [(.ref a), (.int (Int32.ofNat k))])) st1 ?_
  refine OFin.to (T1.setTop (mkF m 6 #[.val (.ref o), .val (.int (Int32.ofNat k)), .val (.int w)] [(.int (Int32.ofNat n)), (.int (Int32.ofNat k))])) (fun _ kt => own_len X1 hx hZ e1 V0 (n := Int32.ofNat n) (by rw [own_rlen]) (g := (mkF m 5 #[.val (.ref o), .val (.int (Int32.ofNat k)), .val (.int w)] [(.ref a), (.int (Int32.ofNat k))])) rfl rfl (hb hby d4_5) _ kt) ?_
  by_cases hkn : k < n
  case pos =>
    refine OFin.to (T1.setTop (mkF m 9 #[.val (.ref o), .val (.int (Int32.ofNat k)), .val (.int w)] [])) (fun _ kt => XS.icmpNo X1.here hx rfl (hb hby d4_6) rfl (XT.ii_ge_f ((own_ofLt k n (by omega) (by omega)).mpr hkn)) kt) ?_
    refine OFin.to (T1.setTop (mkF m 10 #[.val (.ref o), .val (.int (Int32.ofNat k)), .val (.int w)] [(.ref o)])) (fun _ kt => XS.aloadN X1.here hx rfl (hb hby d4_9) rfl rfl kt) ?_
    obtain ⟨T2, X2, e2, st2⟩ := getF X1 hx hZ hown (host := "") (Or.inl (hw _ (List.mem_of_getElem? (i := 11) rfl))) Via.refl e1 F_v (g := (mkF m 10 #[.val (.ref o), .val (.int (Int32.ofNat k)), .val (.int w)] [(.ref o)])) rfl rfl (hb hby d4_10)
    refine OFin.to (T2.setTop (mkF m 13 #[.val (.ref o), .val (.int (Int32.ofNat k)), .val (.int w)] [(.ref a)])) st2 ?_
    refine OFin.to (T2.setTop (mkF m 14 #[.val (.ref o), .val (.int (Int32.ofNat k)), .val (.int w)] [(.int (Int32.ofNat k)), (.ref a)])) (fun _ kt => XS.iloadN X2.here hx rfl (hb hby d4_13) rfl kt) ?_
    refine OFin.to (T2.setTop (mkF m 15 #[.val (.ref o), .val (.int (Int32.ofNat k)), .val (.int w)] [(.int w), (.int (Int32.ofNat k)), (.ref a)])) (fun _ kt => XS.iloadN X2.here hx rfl (hb hby d4_14) rfl kt) ?_
    obtain ⟨T3, h3, X3, e3, W3, -, st3⟩ := own_stI X2 hx hZ e2 V0 k (own_ix k (by omega)).1 (own_ix k (by omega)).2 (by rw [own_rlen]; omega) (g := (mkF m 15 #[.val (.ref o), .val (.int (Int32.ofNat k)), .val (.int w)] [(.int w), (.int (Int32.ofNat k)), (.ref a)])) rfl rfl (hb hby d4_15)
    refine OFin.to (T3.setTop (mkF m 16 #[.val (.ref o), .val (.int (Int32.ofNat k)), .val (.int w)] [])) st3 ?_
    have N3 := Fr.snoc X3 (Fr.nil n0) (hnew (by omega))
    refine OFin.to (T3.setTop (mkF m 39 #[.val (.ref o), .val (.int (Int32.ofNat k)), .val (.int w)] [])) (fun _ kt => XS.goto X3.here hx rfl (pc0 := 16) (pc' := 39) rfl (hb hby d4_16) (by decide) (by decide) kt) ?_
    have ne := own_neVO E_o (hw _ (List.mem_of_getElem? (i := 1) rfl)) V0
    refine OFin.retV X3 hx hret hlk (hb hby d4_39) (by decide) (by decide) ⟨rfl, a, n, (fun j => if j = k then w else f j), hnew, by omega, (by rw [e3]; exact ⟨E_o.wr W3, F_v.other W3 (Or.inl ne.symm), F_d.other W3 (Or.inl ne.symm), own_fnC (OFn.set V0 W3) (fun j hj => by by_cases q : j = k <;> simp [q])⟩), own_setA n k f d w hkn, (by rw [e3]; exact (Keep.of_wr W3).1), N3⟩
  refine OFin.to (T1.setTop (mkF m 19 #[.val (.ref o), .val (.int (Int32.ofNat k)), .val (.int w)] [])) (fun _ kt => XS.icmpYes X1.here hx rfl (pc0 := 6) (pc' := 19) rfl (hb hby d4_6) rfl (XT.ii_ge_t (fun q => hkn ((own_ofLt k n (by omega) (by omega)).mp q))) (by decide) (by decide) kt) ?_
  refine OFin.to (T1.setTop (mkF m 20 #[.val (.ref o), .val (.int (Int32.ofNat k)), .val (.int w)] [(.int w)])) (fun _ kt => XS.iloadN X1.here hx rfl (hb hby d4_19) rfl kt) ?_
  refine OFin.to (T1.setTop (mkF m 21 #[.val (.ref o), .val (.int (Int32.ofNat k)), .val (.int w)] [(.ref o), (.int w)])) (fun _ kt => XS.aloadN X1.here hx rfl (hb hby d4_20) rfl rfl kt) ?_
  obtain ⟨T4, X4, e4, st4⟩ := getF X1 hx hZ hown (host := "") (Or.inl (hw _ (List.mem_of_getElem? (i := 13) rfl))) Via.refl e1 F_d (g := (mkF m 21 #[.val (.ref o), .val (.int (Int32.ofNat k)), .val (.int w)] [(.ref o), (.int w)])) rfl rfl (hb hby d4_21)
  refine OFin.to (T4.setTop (mkF m 24 #[.val (.ref o), .val (.int (Int32.ofNat k)), .val (.int w)] [(.int d), (.int w)])) st4 ?_
  by_cases hwd : w = d
  case pos =>
    refine OFin.to (T4.setTop (mkF m 39 #[.val (.ref o), .val (.int (Int32.ofNat k)), .val (.int w)] [])) (fun _ kt => XS.icmpYes X4.here hx rfl (pc0 := 24) (pc' := 39) rfl (hb hby d4_24) rfl (XT.ii_eq_t hwd) (by decide) (by decide) kt) ?_
    exact OFin.retV X4 hx hret hlk (hb hby d4_39) (by decide) (by decide) ⟨rfl, a, n, f, hnew, by omega, (by rw [e4]; exact HC'), own_setB n k f d w hkn hwd, (by rw [e4]; exact Nat.le_refl _), Fr.nil _⟩
  refine OFin.to (T4.setTop (mkF m 27 #[.val (.ref o), .val (.int (Int32.ofNat k)), .val (.int w)] [])) (fun _ kt => XS.icmpNo X4.here hx rfl (hb hby d4_24) rfl (XT.ii_eq_f hwd) kt) ?_
  refine OFin.to (T4.setTop (mkF m 28 #[.val (.ref o), .val (.int (Int32.ofNat k)), .val (.int w)] [(.ref o)])) (fun _ kt => XS.aloadN X4.here hx rfl (hb hby d4_27) rfl rfl kt) ?_
  refine OFin.to (T4.setTop (mkF m 29 #[.val (.ref o), .val (.int (Int32.ofNat k)), .val (.int w)] [(.int (Int32.ofNat k)), (.ref o)])) (fun _ kt => XS.iloadN X4.here hx rfl (hb hby d4_28) rfl kt) ?_
  obtain ⟨v5, T5, L5, hQ5, X5, st5⟩ := own_callP X4 hx hZ hown (hw _ (List.mem_of_getElem? (i := 25) rfl)) (own_selP hZ (hw _ (List.mem_of_getElem? (i := 18) rfl)) rfl (hw _ (List.mem_of_getElem? (i := 27) rfl)) (hw _ (List.mem_of_getElem? (i := 26) rfl)) (by decide)) (hw _ (List.mem_of_getElem? (i := 27) rfl)) (hw _ (List.mem_of_getElem? (i := 26) rfl)) (hw _ (List.mem_of_getElem? (i := 28) rfl)) (hw _ (List.mem_of_getElem? (i := 2) rfl)) (by decide) e4 E_o (rm5 l Z a0 hw [] o a k n hk (by omega) hn f d h0 n0 Z0 g_o HC') 0 (by decide) (by decide) (by decide) (by decide) (g := (mkF m 29 #[.val (.ref o), .val (.int (Int32.ofNat k)), .val (.int w)] [(.int (Int32.ofNat k)), (.ref o)])) rfl (by rw [hml]; rfl) (rest := []) (lenOf pd_5 rfl) rfl (by show 2 * 0 + _ ≤ _; exact Nat.le_of_eq rfl) (hb hby d4_29)
  obtain ⟨rfl, b, cc, gb, hk1, hn1, hc1, ⟨E1, F1, D1, V1⟩, S1, N1⟩ := hQ5
  refine OFin.to (T5.setTop (mkF m 32 #[.val (.ref o), .val (.int (Int32.ofNat k)), .val (.int w)] [])) st5 ?_
  rw [List.nil_append] at X5
  refine OFin.to (T5.setTop (mkF m 33 #[.val (.ref o), .val (.int (Int32.ofNat k)), .val (.int w)] [(.ref o)])) (fun _ kt => XS.aloadN X5.here hx rfl (hb hby d4_32) rfl rfl kt) ?_
  obtain ⟨T6, X6, e6, st6⟩ := getF X5 hx hZ hown (host := "") (Or.inl (hw _ (List.mem_of_getElem? (i := 11) rfl))) Via.refl rfl F1 (g := (mkF m 33 #[.val (.ref o), .val (.int (Int32.ofNat k)), .val (.int w)] [(.ref o)])) rfl rfl (hb hby d4_33)
  refine OFin.to (T6.setTop (mkF m 36 #[.val (.ref o), .val (.int (Int32.ofNat k)), .val (.int w)] [(.ref b)])) st6 ?_
  refine OFin.to (T6.setTop (mkF m 37 #[.val (.ref o), .val (.int (Int32.ofNat k)), .val (.int w)] [(.int (Int32.ofNat k)), (.ref b)])) (fun _ kt => XS.iloadN X6.here hx rfl (hb hby d4_36) rfl kt) ?_
  refine OFin.to (T6.setTop (mkF m 38 #[.val (.ref o), .val (.int (Int32.ofNat k)), .val (.int w)] [(.int w), (.int (Int32.ofNat k)), (.ref b)])) (fun _ kt => XS.iloadN X6.here hx rfl (hb hby d4_37) rfl kt) ?_
  obtain ⟨T7, h7, X7, e7, W7, -, st7⟩ := own_stI X6 hx hZ e6 V1 k (own_ix k (by omega)).1 (own_ix k (by omega)).2 (by rw [own_rlen]; omega) (g := (mkF m 38 #[.val (.ref o), .val (.int (Int32.ofNat k)), .val (.int w)] [(.int w), (.int (Int32.ofNat k)), (.ref b)])) rfl rfl (hb hby d4_38)
  refine OFin.to (T7.setTop (mkF m 39 #[.val (.ref o), .val (.int (Int32.ofNat k)), .val (.int w)] [])) st7 ?_
  have N7 := Fr.snoc X7 N1 gb
  have ne := own_neVO E1 (hw _ (List.mem_of_getElem? (i := 1) rfl)) V1
  exact OFin.retV X7 hx hret hlk (hb hby d4_39) (by decide) (by decide) ⟨rfl, b, cc, (fun j => if j = k then w else if n ≤ j then d else f j), fun _ => gb, hc1, (by rw [e7]; exact ⟨E1.wr W7, F1.other W7 (Or.inl ne.symm), D1.other W7 (Or.inl ne.symm), own_fnC (OFn.set V1 W7) (fun j hj => by by_cases q : j = k <;> simp [q])⟩), own_setC n cc k f d w hkn hk1 hn1, (by rw [e7]; exact Nat.le_trans S1 (Keep.of_wr W7).1), N7⟩
theorem d1_0 : decode prog_71_method_1_code 0 = .ok (.aload_n 0, 1) := by decide +kernel
theorem d1_1 : decode prog_71_method_1_code 1 = .ok (.invokespecial 1, 3) := by decide +kernel
theorem d1_4 : decode prog_71_method_1_code 4 = .ok (.aload_n 0, 1) := by decide +kernel
theorem d1_5 : decode prog_71_method_1_code 5 = .ok (.getstatic 7, 3) := by decide +kernel
theorem d1_8 : decode prog_71_method_1_code 8 = .ok (.putfield 13, 3) := by decide +kernel
theorem d1_11 : decode prog_71_method_1_code 11 = .ok (.aload_n 0, 1) := by decide +kernel
theorem d1_12 : decode prog_71_method_1_code 12 = .ok (.iload_n 1, 1) := by decide +kernel
theorem d1_13 : decode prog_71_method_1_code 13 = .ok (.putfield 16, 3) := by decide +kernel
theorem d1_16 : decode prog_71_method_1_code 16 = .ok (.return_, 1) := by decide +kernel
theorem pn_1 : plainName "com/example/fixpoint_checker/fixpointchecker/formula/IntColumn" = true := by first | (simp [plainName, overriddenIn]; done) | decide +kernel
theorem ef_1 (m : MethodId) (a0 : Addr) (p1 : Int32) : entryFrame m #[(.ref a0), (.int p1)] 2 = mkF m 0 #[.val (.ref a0), .val (.int p1)] [] := by first | (simp [entryFrame, mkF, argsToLocals, Value.category]; done) | rfl
set_option maxRecDepth 65536 in
set_option maxHeartbeats 40000000 in
theorem rm1 (l : Launch) (Z : State) (a0 : Array Value) (hw : ∀ d ∈ tables_1, d.before a0 Z = true) (ws : List Jvm.Cond) (o a : Addr) (d : Int32) (h0 : Heap) (n0 : Nat) (g_o : n0 ≤ o) (S0 : Sta Z h0 "com/example/fixpoint_checker/fixpointchecker/formula/IntColumn" "NONE" "[I" (.ref a)) (E_o : Exa Z h0 o "com/example/fixpoint_checker/fixpointchecker/formula/IntColumn") (F_v : Fld Z h0 o "com/example/fixpoint_checker/fixpointchecker/formula/IntColumn" "values" "[I" .null) (F_d : Fld Z h0 o "com/example/fixpoint_checker/fixpointchecker/formula/IntColumn" "defaultValue" "I" (.int (0 : Int32))) :
    MetFree l (⟨"com/example/fixpoint_checker/fixpointchecker/formula/IntColumn", "<init>", "(I)V"⟩ : MethodName) (head1 (Jvm.Cond.code (⟨"com/example/fixpoint_checker/fixpointchecker/formula/IntColumn", "<init>", "(I)V"⟩ : MethodName) prog_71_method_1_code 2 none :: ws) ({ frames := 1, cells := 0, slots := 0, locals := 12 } : Room)) (fun a_ U => a_ = #[(.ref o), (.int d)] ∧ Z.Warmed39 U.vm ∧ U.heap = h0) (fun _ _ _ _ _ => True) (fun _ U o_ U' => ∃ v L, o_ = .returned v ∧ OQ (fun v h L => v = none ∧ Exa Z h o "com/example/fixpoint_checker/fixpointchecker/formula/IntColumn" ∧ Fld Z h o "com/example/fixpoint_checker/fixpointchecker/formula/IntColumn" "values" "[I" (.ref a) ∧ Fld Z h o "com/example/fixpoint_checker/fixpointchecker/formula/IntColumn" "defaultValue" "I" (.int d) ∧ Keep h0 h [o] ∧ Fr n0 L) v U'.heap L ∧ FrameEnd U o_ U' L ({ frames := 1, cells := 0, slots := 0, locals := 12 } : Room).cells ({ frames := 1, cells := 0, slots := 0, locals := 12 } : Room).slots) := by
  refine MetFree.of_bodySF (plainFor_of_name pn_1) hisR ?_
  intro p e s m args below meth c s₁ Bd hml0 hP hK
  obtain ⟨rfl, hZ, hh⟩ := hP
  have hx := Bd.exec
  have hby := Bd.bytes
  have hml : c.maxLocals = 2 := hml0
  have hown : s.vm.findClass "com/example/fixpoint_checker/fixpointchecker/formula/IntColumn" = some m.cls := findClass_of_methodNamed Bd.named
  have hnm := (name_of_methodNamed Bd.named Bd.method).1
  have hret := Bd.returns
  have hlk : meth.locks = false := Bd.notSynchronized
  have X0 : Stand p l e ({ frames := 1, cells := 0, slots := 0, locals := 12 } : Room) s m #[(.ref o), (.int d)] below meth c s₁ [] 0 0 := Stand.of_body Bd
  have e0 : s₁.heap = h0 := by rw [← hh, Bd.state]; rfl
  refine OFin.start (Q := fun v h L => v = none ∧ Exa Z h o "com/example/fixpoint_checker/fixpointchecker/formula/IntColumn" ∧ Fld Z h o "com/example/fixpoint_checker/fixpointchecker/formula/IntColumn" "values" "[I" (.ref a) ∧ Fld Z h o "com/example/fixpoint_checker/fixpointchecker/formula/IntColumn" "defaultValue" "I" (.int d) ∧ Keep h0 h [o] ∧ Fr n0 L) (s := s) (fun t kt => castTop (ef_1 m (o) (d)) kt) ?_
  refine OFin.to (s₁.setTop (mkF m 1 #[.val (.ref o), .val (.int d)] [(.ref o)])) (fun _ kt => XS.aloadN X0.here hx rfl (hb hby d1_0) rfl rfl kt) ?_
  obtain ⟨T1, X1, e1, st1⟩ := initO X0 hx hZ hown (hw _ (List.mem_of_getElem? (i := 6) rfl)) (hw _ (List.mem_of_getElem? (i := 7) rfl)) (hw _ (List.mem_of_getElem? (i := 8) rfl)) e0 (g := (mkF m 1 #[.val (.ref o), .val (.int d)] [(.ref o)])) rfl (by rw [hml]; rfl) rfl (hb hby d1_1) (by decide) (W := 0) (by show 2 * 0 + _ ≤ _; exact Nat.le_of_eq rfl) (by decide)
  refine OFin.to (T1.setTop (mkF m 4 #[.val (.ref o), .val (.int d)] [])) st1 ?_
  refine OFin.to (T1.setTop (mkF m 5 #[.val (.ref o), .val (.int d)] [(.ref o)])) (fun _ kt => XS.aloadN X1.here hx rfl (hb hby d1_4) rfl rfl kt) ?_
  obtain ⟨T2, X2, e2, st2⟩ := getS2 X1 hx hZ hown (host := "") (Or.inl (hw _ (List.mem_of_getElem? (i := 9) rfl))) Via.refl e1 S0 (g := (mkF m 5 #[.val (.ref o), .val (.int d)] [(.ref o)])) rfl (hb hby d1_5)
  refine OFin.to (T2.setTop (mkF m 8 #[.val (.ref o), .val (.int d)] [(.ref a), (.ref o)])) st2 ?_
  obtain ⟨T3, h3, X3, e3, W3, st3⟩ := putF X2 hx hZ hown (host := "") (Or.inl (hw _ (List.mem_of_getElem? (i := 11) rfl))) Via.refl e2 F_v E_o (Or.inl (hw _ (List.mem_of_getElem? (i := 12) rfl))) (hw _ (List.mem_of_getElem? (i := 1) rfl)) (ty := (.array .int)) (by decide) rfl rfl (g := (mkF m 8 #[.val (.ref o), .val (.int d)] [(.ref a), (.ref o)])) rfl rfl (hb hby d1_8)
  have E_o_3 := E_o.wr W3
  have F_d_3 := F_d.other W3 (Or.inr (slot_ne (Or.inr (hw _ (List.mem_of_getElem? (i := 14) rfl))) (Or.inl (hw _ (List.mem_of_getElem? (i := 12) rfl))) (by decide) (t := .int) (t' := (.array .int)) (by decide) (by decide)))
  have F_v_3 := F_v.same W3
  have K3 := (Keep.refl h0 [o]).wr W3 (Or.inl (by simp))
  have N3 := Fr.snoc X3 (Fr.nil n0) g_o
  refine OFin.to (T3.setTop (mkF m 11 #[.val (.ref o), .val (.int d)] [])) st3 ?_
  refine OFin.to (T3.setTop (mkF m 12 #[.val (.ref o), .val (.int d)] [(.ref o)])) (fun _ kt => XS.aloadN X3.here hx rfl (hb hby d1_11) rfl rfl kt) ?_
  refine OFin.to (T3.setTop (mkF m 13 #[.val (.ref o), .val (.int d)] [(.int d), (.ref o)])) (fun _ kt => XS.iloadN X3.here hx rfl (hb hby d1_12) rfl kt) ?_
  obtain ⟨T4, h4, X4, e4, W4, st4⟩ := putF X3 hx hZ hown (host := "") (Or.inl (hw _ (List.mem_of_getElem? (i := 13) rfl))) Via.refl e3 F_d_3 E_o_3 (Or.inr ⟨(hw _ (List.mem_of_getElem? (i := 14) rfl)), rfl, hnm⟩) (hw _ (List.mem_of_getElem? (i := 1) rfl)) (ty := .int) (by decide) rfl rfl (g := (mkF m 13 #[.val (.ref o), .val (.int d)] [(.int d), (.ref o)])) rfl rfl (hb hby d1_13)
  have E_o_4 := E_o_3.wr W4
  have F_v_4 := F_v_3.other W4 (Or.inr (slot_ne (Or.inl (hw _ (List.mem_of_getElem? (i := 12) rfl))) (Or.inr (hw _ (List.mem_of_getElem? (i := 14) rfl))) (by decide) (t := (.array .int)) (t' := .int) (by decide) (by decide)))
  have F_d_4 := F_d_3.same W4
  have K4 := K3.wr W4 (Or.inl (by simp))
  have N4 := Fr.snoc X4 N3 g_o
  refine OFin.to (T4.setTop (mkF m 16 #[.val (.ref o), .val (.int d)] [])) st4 ?_
  exact OFin.retV X4 hx hret hlk (hb hby d1_16) (by decide) (by decide) (by rw [e4]; exact ⟨rfl, E_o_4, F_v_4, F_d_4, K4, N4⟩)
theorem pn_0 : plainName "com/example/fixpoint_checker/fixpointchecker/formula/IntColumnGetPinLaw" = true := by first | (simp [plainName, overriddenIn]; done) | decide +kernel
theorem ef_0 (m : MethodId) (p0 : Int32) (p1 : Int32) (p2 : Int32) (p3 : Int32) (p4 : Int32) (p5 : Int32) : entryFrame m #[(.int p0), (.int p1), (.int p2), (.int p3), (.int p4), (.int p5)] maxLocals = mkF m 0 #[.val (.int p0), .val (.int p1), .val (.int p2), .val (.int p3), .val (.int p4), .val (.int p5), .unset, .unset, .unset, .unset, .unset, .unset, .unset, .unset, .unset] [] := by first | (simp [entryFrame, mkF, argsToLocals, Value.category, maxLocals]; done) | rfl
set_option maxRecDepth 65536 in
set_option maxHeartbeats 40000000 in
theorem rm0 (l : Launch) (Z : State) (a0 : Array Value) (hw : ∀ d ∈ tables_1, d.before a0 Z = true) (ws : List Jvm.Cond) (p0 : Int32) (p1 : Int32) (p2 : Int32) (p3 : Int32) (p4 : Int32) (p5 : Int32) (h0 : Heap) (aN : Addr) (S0 : Sta Z h0 "com/example/fixpoint_checker/fixpointchecker/formula/IntColumn" "NONE" "[I" (.ref aN)) (V0 : OFn Z h0 aN .int 0 (fun j => .int ((fun _ => 0 : Nat → Int32) j))) :
    MetFree l x (head1 (Jvm.Cond.code x code maxLocals ret :: ws) (room_1)) (fun a_ U => a_ = #[(.int p0), (.int p1), (.int p2), (.int p3), (.int p4), (.int p5)] ∧ Z.Warmed39 U.vm ∧ U.heap = h0) (fun _ _ _ _ _ => True) (fun _ U o_ U' => ∃ v L, o_ = .returned v ∧ OQ (fun v h L => v = some (.int (1 : Int32)) ∧ Fr h0.size L) v U'.heap L ∧ FrameEnd U o_ U' L (room_1).cells (room_1).slots) := by
  refine MetFree.of_bodySF (plainFor_of_name pn_0) hisR ?_
  intro p e s m args below meth c s₁ Bd hml0 hP hK
  obtain ⟨rfl, hZ, hh⟩ := hP
  have hx := Bd.exec
  have hby := Bd.bytes
  have hml : c.maxLocals = 15 := hml0
  have hown : s.vm.findClass "com/example/fixpoint_checker/fixpointchecker/formula/IntColumnGetPinLaw" = some m.cls := findClass_of_methodNamed Bd.named
  have hnm := (name_of_methodNamed Bd.named Bd.method).1
  have hret := Bd.returns
  have hlk : meth.locks = false := Bd.notSynchronized
  have X0 : Stand p l e (room_1) s m #[(.int p0), (.int p1), (.int p2), (.int p3), (.int p4), (.int p5)] below meth c s₁ [] 0 0 := Stand.of_body Bd
  have e0 : s₁.heap = h0 := by rw [← hh, Bd.state]; rfl
  refine OFin.start (Q := fun v h L => v = some (.int (1 : Int32)) ∧ Fr h0.size L) (s := s) (fun t kt => castTop (ef_0 m p0 p1 p2 p3 p4 p5) kt) ?_
  have N0 := Fr.nil h0.size
  have Z0 : h0.size ≤ h0.size := Nat.le_refl _
  refine OFin.to (s₁.setTop (mkF m 1 #[.val (.int p0), .val (.int p1), .val (.int p2), .val (.int p3), .val (.int p4), .val (.int p5), .unset, .unset, .unset, .unset, .unset, .unset, .unset, .unset, .unset] [(.int p1)])) (fun _ kt => XS.iloadN X0.here hx rfl (hb hby at_0) rfl kt) ?_
  refine OFin.to (s₁.setTop (mkF m 3 #[.val (.int p0), .val (.int p1), .val (.int p2), .val (.int p3), .val (.int p4), .val (.int p5), .unset, .unset, .unset, .unset, .unset, .unset, .unset, .unset, .unset] [(.int (63 : Int32)), (.int p1)])) (fun _ kt => XS.bipush X0.here hx rfl (hb hby at_1) kt) ?_
  refine OFin.to (s₁.setTop (mkF m 4 #[.val (.int p0), .val (.int p1), .val (.int p2), .val (.int p3), .val (.int p4), .val (.int p5), .unset, .unset, .unset, .unset, .unset, .unset, .unset, .unset, .unset] [(.int (p1 &&& (63 : Int32)))])) (fun _ kt => XS.iand X0.here hx rfl (hb hby at_3) rfl kt) ?_
  obtain ⟨ka, hka, eka⟩ := own_low p1 63 6 (by decide) (by decide)
  rw [eka]
  refine OFin.to (s₁.setTop (mkF m 6 #[.val (.int p0), .val (.int p1), .val (.int p2), .val (.int p3), .val (.int p4), .val (.int p5), .val (.int (Int32.ofNat ka)), .unset, .unset, .unset, .unset, .unset, .unset, .unset, .unset] [])) (fun _ kt => XS.istore X0.here hx rfl (hb hby at_4) rfl (l' := #[.val (.int p0), .val (.int p1), .val (.int p2), .val (.int p3), .val (.int p4), .val (.int p5), .val (.int (Int32.ofNat ka)), .unset, .unset, .unset, .unset, .unset, .unset, .unset, .unset]) rfl kt) ?_
  refine OFin.to (s₁.setTop (mkF m 7 #[.val (.int p0), .val (.int p1), .val (.int p2), .val (.int p3), .val (.int p4), .val (.int p5), .val (.int (Int32.ofNat ka)), .unset, .unset, .unset, .unset, .unset, .unset, .unset, .unset] [(.int p3)])) (fun _ kt => XS.iloadN X0.here hx rfl (hb hby at_6) rfl kt) ?_
  refine OFin.to (s₁.setTop (mkF m 9 #[.val (.int p0), .val (.int p1), .val (.int p2), .val (.int p3), .val (.int p4), .val (.int p5), .val (.int (Int32.ofNat ka)), .unset, .unset, .unset, .unset, .unset, .unset, .unset, .unset] [(.int (63 : Int32)), (.int p3)])) (fun _ kt => XS.bipush X0.here hx rfl (hb hby at_7) kt) ?_
  refine OFin.to (s₁.setTop (mkF m 10 #[.val (.int p0), .val (.int p1), .val (.int p2), .val (.int p3), .val (.int p4), .val (.int p5), .val (.int (Int32.ofNat ka)), .unset, .unset, .unset, .unset, .unset, .unset, .unset, .unset] [(.int (p3 &&& (63 : Int32)))])) (fun _ kt => XS.iand X0.here hx rfl (hb hby at_9) rfl kt) ?_
  obtain ⟨kb, hkb, ekb⟩ := own_low p3 63 6 (by decide) (by decide)
  rw [ekb]
  refine OFin.to (s₁.setTop (mkF m 12 #[.val (.int p0), .val (.int p1), .val (.int p2), .val (.int p3), .val (.int p4), .val (.int p5), .val (.int (Int32.ofNat ka)), .val (.int (Int32.ofNat kb)), .unset, .unset, .unset, .unset, .unset, .unset, .unset] [])) (fun _ kt => XS.istore X0.here hx rfl (hb hby at_10) rfl (l' := #[.val (.int p0), .val (.int p1), .val (.int p2), .val (.int p3), .val (.int p4), .val (.int p5), .val (.int (Int32.ofNat ka)), .val (.int (Int32.ofNat kb)), .unset, .unset, .unset, .unset, .unset, .unset, .unset]) rfl kt) ?_
  refine OFin.to (s₁.setTop (mkF m 14 #[.val (.int p0), .val (.int p1), .val (.int p2), .val (.int p3), .val (.int p4), .val (.int p5), .val (.int (Int32.ofNat ka)), .val (.int (Int32.ofNat kb)), .unset, .unset, .unset, .unset, .unset, .unset, .unset] [(.int p5)])) (fun _ kt => XS.iload X0.here hx rfl (hb hby at_12) rfl kt) ?_
  refine OFin.to (s₁.setTop (mkF m 16 #[.val (.int p0), .val (.int p1), .val (.int p2), .val (.int p3), .val (.int p4), .val (.int p5), .val (.int (Int32.ofNat ka)), .val (.int (Int32.ofNat kb)), .unset, .unset, .unset, .unset, .unset, .unset, .unset] [(.int (127 : Int32)), (.int p5)])) (fun _ kt => XS.bipush X0.here hx rfl (hb hby at_14) kt) ?_
  refine OFin.to (s₁.setTop (mkF m 17 #[.val (.int p0), .val (.int p1), .val (.int p2), .val (.int p3), .val (.int p4), .val (.int p5), .val (.int (Int32.ofNat ka)), .val (.int (Int32.ofNat kb)), .unset, .unset, .unset, .unset, .unset, .unset, .unset] [(.int (p5 &&& (127 : Int32)))])) (fun _ kt => XS.iand X0.here hx rfl (hb hby at_16) rfl kt) ?_
  obtain ⟨kq, hkq, ekq⟩ := own_low p5 127 7 (by decide) (by decide)
  rw [ekq]
  refine OFin.to (s₁.setTop (mkF m 19 #[.val (.int p0), .val (.int p1), .val (.int p2), .val (.int p3), .val (.int p4), .val (.int p5), .val (.int (Int32.ofNat ka)), .val (.int (Int32.ofNat kb)), .val (.int (Int32.ofNat kq)), .unset, .unset, .unset, .unset, .unset, .unset] [])) (fun _ kt => XS.istore X0.here hx rfl (hb hby at_17) rfl (l' := #[.val (.int p0), .val (.int p1), .val (.int p2), .val (.int p3), .val (.int p4), .val (.int p5), .val (.int (Int32.ofNat ka)), .val (.int (Int32.ofNat kb)), .val (.int (Int32.ofNat kq)), .unset, .unset, .unset, .unset, .unset, .unset]) rfl kt) ?_
  obtain ⟨T1, h1, X1, e1, E1, A1, D1, -, st1⟩ := newO X0 hx hZ hown (hw _ (List.mem_of_getElem? (i := 0) rfl)) (hw _ (List.mem_of_getElem? (i := 1) rfl)) (hw _ (List.mem_of_getElem? (i := 2) rfl)) e0 (g := (mkF m 19 #[.val (.int p0), .val (.int p1), .val (.int p2), .val (.int p3), .val (.int p4), .val (.int p5), .val (.int (Int32.ofNat ka)), .val (.int (Int32.ofNat kb)), .val (.int (Int32.ofNat kq)), .unset, .unset, .unset, .unset, .unset, .unset] [])) rfl (hb hby at_19) (by decide) (by decide)
  obtain ⟨b1, g1⟩ : ∃ z, z = h0.size := ⟨_, rfl⟩
  rw [← g1] at A1 D1 st1
  have g_b1 : h0.size ≤ b1 := by rw [g1]; exact Z0
  have ne_aN_b1 : aN ≠ b1 := by rw [g1]; exact Nat.ne_of_lt V0.lt
  have V0_1 := V0.ext E1
  have S0_1 := S0.ext E1
  have Z1 := Nat.le_trans Z0 E1.1
  have E_b1 := A1
  have F_values_b1 : Fld Z h1 b1 "com/example/fixpoint_checker/fixpointchecker/formula/IntColumn" "values" "[I" .null := D1 (Or.inl (hw _ (List.mem_of_getElem? (i := 12) rfl))) (ty := (.array .int)) (by decide)
  have F_defaultValue_b1 : Fld Z h1 b1 "com/example/fixpoint_checker/fixpointchecker/formula/IntColumn" "defaultValue" "I" (.int (0 : Int32)) := D1 (Or.inr (hw _ (List.mem_of_getElem? (i := 14) rfl))) (ty := .int) (by decide)
  refine OFin.to (T1.setTop (mkF m 22 #[.val (.int p0), .val (.int p1), .val (.int p2), .val (.int p3), .val (.int p4), .val (.int p5), .val (.int (Int32.ofNat ka)), .val (.int (Int32.ofNat kb)), .val (.int (Int32.ofNat kq)), .unset, .unset, .unset, .unset, .unset, .unset] [(.ref b1)])) st1 ?_
  refine OFin.to (T1.setTop (mkF m 23 #[.val (.int p0), .val (.int p1), .val (.int p2), .val (.int p3), .val (.int p4), .val (.int p5), .val (.int (Int32.ofNat ka)), .val (.int (Int32.ofNat kb)), .val (.int (Int32.ofNat kq)), .unset, .unset, .unset, .unset, .unset, .unset] [(.ref b1), (.ref b1)])) (fun _ kt => XS.dup X1.here hx rfl (hb hby at_22) rfl rfl kt) ?_
  refine OFin.to (T1.setTop (mkF m 24 #[.val (.int p0), .val (.int p1), .val (.int p2), .val (.int p3), .val (.int p4), .val (.int p5), .val (.int (Int32.ofNat ka)), .val (.int (Int32.ofNat kb)), .val (.int (Int32.ofNat kq)), .unset, .unset, .unset, .unset, .unset, .unset] [(.int p0), (.ref b1), (.ref b1)])) (fun _ kt => XS.iloadN X1.here hx rfl (hb hby at_23) rfl kt) ?_
  obtain ⟨v2, T2, L2, hQ2, X2, st2⟩ := own_callN X1 hx hZ hown rfl (hw _ (List.mem_of_getElem? (i := 3) rfl)) (hw _ (List.mem_of_getElem? (i := 4) rfl)) (hw _ (List.mem_of_getElem? (i := 5) rfl)) (hw _ (List.mem_of_getElem? (i := 2) rfl)) (by decide) e1 (rm1 l Z a0 hw [] b1 aN p0 h1 h0.size g_b1 S0_1 E_b1 F_values_b1 F_defaultValue_b1) 1 (by decide) (by decide) (by decide) (by decide) (g := (mkF m 24 #[.val (.int p0), .val (.int p1), .val (.int p2), .val (.int p3), .val (.int p4), .val (.int p5), .val (.int (Int32.ofNat ka)), .val (.int (Int32.ofNat kb)), .val (.int (Int32.ofNat kq)), .unset, .unset, .unset, .unset, .unset, .unset] [(.int p0), (.ref b1), (.ref b1)])) rfl (by rw [hml]; rfl) (rest := [(.ref b1)]) (lenOf pd_5 rfl) rfl (by show 2 * 0 + _ ≤ _; exact Nat.le_of_eq rfl) (hb hby at_24)
  obtain ⟨rfl, E1, F1, D1, K1, M1⟩ := hQ2
  refine OFin.to (T2.setTop (mkF m 27 #[.val (.int p0), .val (.int p1), .val (.int p2), .val (.int p3), .val (.int p4), .val (.int p5), .val (.int (Int32.ofNat ka)), .val (.int (Int32.ofNat kb)), .val (.int (Int32.ofNat kq)), .unset, .unset, .unset, .unset, .unset, .unset] [(.ref b1)])) st2 ?_
  have N1 := Fr.app N0 M1
  have HC : OCol Z T2.heap b1 aN 0 (fun _ => 0) p0 := ⟨E1, F1, D1, V0_1.keep K1 (ninS ne_aN_b1 nin0)⟩
  have Z1 := Nat.le_trans Z1 K1.1
  refine OFin.to (T2.setTop (mkF m 29 #[.val (.int p0), .val (.int p1), .val (.int p2), .val (.int p3), .val (.int p4), .val (.int p5), .val (.int (Int32.ofNat ka)), .val (.int (Int32.ofNat kb)), .val (.int (Int32.ofNat kq)), .val (.ref b1), .unset, .unset, .unset, .unset, .unset] [])) (fun _ kt => XS.astore X2.here hx rfl (hb hby at_27) rfl rfl (l' := #[.val (.int p0), .val (.int p1), .val (.int p2), .val (.int p3), .val (.int p4), .val (.int p5), .val (.int (Int32.ofNat ka)), .val (.int (Int32.ofNat kb)), .val (.int (Int32.ofNat kq)), .val (.ref b1), .unset, .unset, .unset, .unset, .unset]) rfl kt) ?_
  refine OFin.to (T2.setTop (mkF m 31 #[.val (.int p0), .val (.int p1), .val (.int p2), .val (.int p3), .val (.int p4), .val (.int p5), .val (.int (Int32.ofNat ka)), .val (.int (Int32.ofNat kb)), .val (.int (Int32.ofNat kq)), .val (.ref b1), .unset, .unset, .unset, .unset, .unset] [(.ref b1)])) (fun _ kt => XS.aload X2.here hx rfl (hb hby at_29) rfl rfl kt) ?_
  refine OFin.to (T2.setTop (mkF m 33 #[.val (.int p0), .val (.int p1), .val (.int p2), .val (.int p3), .val (.int p4), .val (.int p5), .val (.int (Int32.ofNat ka)), .val (.int (Int32.ofNat kb)), .val (.int (Int32.ofNat kq)), .val (.ref b1), .unset, .unset, .unset, .unset, .unset] [(.int (Int32.ofNat kq)), (.ref b1)])) (fun _ kt => XS.iload X2.here hx rfl (hb hby at_31) rfl kt) ?_
  obtain ⟨v3, T3, L3, hQ3, X3, st3⟩ := own_callV X2 hx hZ hown (hw _ (List.mem_of_getElem? (i := 15) rfl)) (hw _ (List.mem_of_getElem? (i := 16) rfl)) (hw _ (List.mem_of_getElem? (i := 18) rfl)) (hw _ (List.mem_of_getElem? (i := 17) rfl)) (hw _ (List.mem_of_getElem? (i := 19) rfl)) (hw _ (List.mem_of_getElem? (i := 2) rfl)) (by decide) rfl HC.1 (rm3 l Z a0 hw [] b1 aN kq 0 (by omega) (by omega) (fun _ => 0) p0 T2.heap HC) 0 (by decide) (by decide) (by decide) (by decide) (g := (mkF m 33 #[.val (.int p0), .val (.int p1), .val (.int p2), .val (.int p3), .val (.int p4), .val (.int p5), .val (.int (Int32.ofNat ka)), .val (.int (Int32.ofNat kb)), .val (.int (Int32.ofNat kq)), .val (.ref b1), .unset, .unset, .unset, .unset, .unset] [(.int (Int32.ofNat kq)), (.ref b1)])) rfl (by rw [hml]; rfl) (rest := []) (lenOf pd_6 rfl) rfl (by show 2 * 0 + _ ≤ _; exact Nat.le_of_eq rfl) (hb hby at_33)
  obtain ⟨rfl, e3, rfl⟩ := hQ3
  rw [List.append_nil] at X3
  refine OFin.to (T3.setTop (mkF m 36 #[.val (.int p0), .val (.int p1), .val (.int p2), .val (.int p3), .val (.int p4), .val (.int p5), .val (.int (Int32.ofNat ka)), .val (.int (Int32.ofNat kb)), .val (.int (Int32.ofNat kq)), .val (.ref b1), .unset, .unset, .unset, .unset, .unset] [(.int (own_get 0 (fun _ => 0) p0 kq))])) st3 ?_
  refine OFin.to (T3.setTop (mkF m 37 #[.val (.int p0), .val (.int p1), .val (.int p2), .val (.int p3), .val (.int p4), .val (.int p5), .val (.int (Int32.ofNat ka)), .val (.int (Int32.ofNat kb)), .val (.int (Int32.ofNat kq)), .val (.ref b1), .unset, .unset, .unset, .unset, .unset] [(.int p0), (.int (own_get 0 (fun _ => 0) p0 kq))])) (fun _ kt => XS.iloadN X3.here hx rfl (hb hby at_36) rfl kt) ?_
  refine OFin.to (T3.setTop (mkF m 40 #[.val (.int p0), .val (.int p1), .val (.int p2), .val (.int p3), .val (.int p4), .val (.int p5), .val (.int (Int32.ofNat ka)), .val (.int (Int32.ofNat kb)), .val (.int (Int32.ofNat kq)), .val (.ref b1), .unset, .unset, .unset, .unset, .unset] [])) (fun _ kt => XS.icmpNo X3.here hx rfl (hb hby at_37) rfl (XT.ii_ne_f rfl) kt) ?_
  refine OFin.to (T3.setTop (mkF m 41 #[.val (.int p0), .val (.int p1), .val (.int p2), .val (.int p3), .val (.int p4), .val (.int p5), .val (.int (Int32.ofNat ka)), .val (.int (Int32.ofNat kb)), .val (.int (Int32.ofNat kq)), .val (.ref b1), .unset, .unset, .unset, .unset, .unset] [(.int (1 : Int32))])) (fun _ kt => XS.iconst X3.here hx rfl (hb hby at_40) kt) ?_
  refine OFin.to (T3.setTop (mkF m 45 #[.val (.int p0), .val (.int p1), .val (.int p2), .val (.int p3), .val (.int p4), .val (.int p5), .val (.int (Int32.ofNat ka)), .val (.int (Int32.ofNat kb)), .val (.int (Int32.ofNat kq)), .val (.ref b1), .unset, .unset, .unset, .unset, .unset] [(.int (1 : Int32))])) (fun _ kt => XS.goto X3.here hx rfl (pc0 := 41) (pc' := 45) rfl (hb hby at_41) (by decide) (by decide) kt) ?_
  refine OFin.to (T3.setTop (mkF m 47 #[.val (.int p0), .val (.int p1), .val (.int p2), .val (.int p3), .val (.int p4), .val (.int p5), .val (.int (Int32.ofNat ka)), .val (.int (Int32.ofNat kb)), .val (.int (Int32.ofNat kq)), .val (.ref b1), .val (.int (1 : Int32)), .unset, .unset, .unset, .unset] [])) (fun _ kt => XS.istore X3.here hx rfl (hb hby at_45) rfl (l' := #[.val (.int p0), .val (.int p1), .val (.int p2), .val (.int p3), .val (.int p4), .val (.int p5), .val (.int (Int32.ofNat ka)), .val (.int (Int32.ofNat kb)), .val (.int (Int32.ofNat kq)), .val (.ref b1), .val (.int (1 : Int32)), .unset, .unset, .unset, .unset]) rfl kt) ?_
  refine OFin.to (T3.setTop (mkF m 49 #[.val (.int p0), .val (.int p1), .val (.int p2), .val (.int p3), .val (.int p4), .val (.int p5), .val (.int (Int32.ofNat ka)), .val (.int (Int32.ofNat kb)), .val (.int (Int32.ofNat kq)), .val (.ref b1), .val (.int (1 : Int32)), .unset, .unset, .unset, .unset] [(.ref b1)])) (fun _ kt => XS.aload X3.here hx rfl (hb hby at_47) rfl rfl kt) ?_
  refine OFin.to (T3.setTop (mkF m 51 #[.val (.int p0), .val (.int p1), .val (.int p2), .val (.int p3), .val (.int p4), .val (.int p5), .val (.int (Int32.ofNat ka)), .val (.int (Int32.ofNat kb)), .val (.int (Int32.ofNat kq)), .val (.ref b1), .val (.int (1 : Int32)), .unset, .unset, .unset, .unset] [(.int (Int32.ofNat ka)), (.ref b1)])) (fun _ kt => XS.iload X3.here hx rfl (hb hby at_49) rfl kt) ?_
  refine OFin.to (T3.setTop (mkF m 52 #[.val (.int p0), .val (.int p1), .val (.int p2), .val (.int p3), .val (.int p4), .val (.int p5), .val (.int (Int32.ofNat ka)), .val (.int (Int32.ofNat kb)), .val (.int (Int32.ofNat kq)), .val (.ref b1), .val (.int (1 : Int32)), .unset, .unset, .unset, .unset] [(.int p2), (.int (Int32.ofNat ka)), (.ref b1)])) (fun _ kt => XS.iloadN X3.here hx rfl (hb hby at_51) rfl kt) ?_
  obtain ⟨v4, T4, L4, hQ4, X4, st4⟩ := own_callV X3 hx hZ hown (hw _ (List.mem_of_getElem? (i := 20) rfl)) (hw _ (List.mem_of_getElem? (i := 21) rfl)) (hw _ (List.mem_of_getElem? (i := 23) rfl)) (hw _ (List.mem_of_getElem? (i := 22) rfl)) (hw _ (List.mem_of_getElem? (i := 24) rfl)) (hw _ (List.mem_of_getElem? (i := 2) rfl)) (by decide) e3 HC.1 (rm4 l Z a0 hw [] b1 aN ka 0 (by omega) (by omega) p2 (fun _ => 0) p0 T2.heap h0.size Z1 g_b1 (fun q => absurd q (by decide)) HC) 0 (by decide) (by decide) (by decide) (by decide) (g := (mkF m 52 #[.val (.int p0), .val (.int p1), .val (.int p2), .val (.int p3), .val (.int p4), .val (.int p5), .val (.int (Int32.ofNat ka)), .val (.int (Int32.ofNat kb)), .val (.int (Int32.ofNat kq)), .val (.ref b1), .val (.int (1 : Int32)), .unset, .unset, .unset, .unset] [(.int p2), (.int (Int32.ofNat ka)), (.ref b1)])) rfl (by rw [hml]; rfl) (rest := []) (lenOf pd_7 rfl) rfl (by show 2 * 0 + _ ≤ _; exact Nat.le_of_eq rfl) (hb hby at_52)
  obtain ⟨rfl, aA, nA, fA, GA, BA, HCA, PA, SA, MA⟩ := hQ4
  refine OFin.to (T4.setTop (mkF m 55 #[.val (.int p0), .val (.int p1), .val (.int p2), .val (.int p3), .val (.int p4), .val (.int p5), .val (.int (Int32.ofNat ka)), .val (.int (Int32.ofNat kb)), .val (.int (Int32.ofNat kq)), .val (.ref b1), .val (.int (1 : Int32)), .unset, .unset, .unset, .unset] [])) st4 ?_
  have NAx := Fr.app N1 MA
  have ZAx := Nat.le_trans Z1 SA
  have BA' : nA ≤ 64 := by omega
  refine OFin.to (T4.setTop (mkF m 57 #[.val (.int p0), .val (.int p1), .val (.int p2), .val (.int p3), .val (.int p4), .val (.int p5), .val (.int (Int32.ofNat ka)), .val (.int (Int32.ofNat kb)), .val (.int (Int32.ofNat kq)), .val (.ref b1), .val (.int (1 : Int32)), .unset, .unset, .unset, .unset] [(.int (Int32.ofNat kq))])) (fun _ kt => XS.iload X4.here hx rfl (hb hby at_55) rfl kt) ?_
  refine OFin.to (T4.setTop (mkF m 59 #[.val (.int p0), .val (.int p1), .val (.int p2), .val (.int p3), .val (.int p4), .val (.int p5), .val (.int (Int32.ofNat ka)), .val (.int (Int32.ofNat kb)), .val (.int (Int32.ofNat kq)), .val (.ref b1), .val (.int (1 : Int32)), .unset, .unset, .unset, .unset] [(.int (Int32.ofNat ka)), (.int (Int32.ofNat kq))])) (fun _ kt => XS.iload X4.here hx rfl (hb hby at_57) rfl kt) ?_
  have J1 : ∀ ex : Int32, own_get nA fA p0 kq = ex → OFin p e below s (room_1).cells (room_1).slots (fun v h L => v = some (.int (1 : Int32)) ∧ Fr h0.size L) (T4.setTop (mkF m 67 #[.val (.int p0), .val (.int p1), .val (.int p2), .val (.int p3), .val (.int p4), .val (.int p5), .val (.int (Int32.ofNat ka)), .val (.int (Int32.ofNat kb)), .val (.int (Int32.ofNat kq)), .val (.ref b1), .val (.int (1 : Int32)), .unset, .unset, .unset, .unset] [(.int ex)])) := by
    intro ex hex
    refine OFin.to (T4.setTop (mkF m 69 #[.val (.int p0), .val (.int p1), .val (.int p2), .val (.int p3), .val (.int p4), .val (.int p5), .val (.int (Int32.ofNat ka)), .val (.int (Int32.ofNat kb)), .val (.int (Int32.ofNat kq)), .val (.ref b1), .val (.int (1 : Int32)), .val (.int ex), .unset, .unset, .unset] [])) (fun _ kt => XS.istore X4.here hx rfl (hb hby at_67) rfl (l' := #[.val (.int p0), .val (.int p1), .val (.int p2), .val (.int p3), .val (.int p4), .val (.int p5), .val (.int (Int32.ofNat ka)), .val (.int (Int32.ofNat kb)), .val (.int (Int32.ofNat kq)), .val (.ref b1), .val (.int (1 : Int32)), .val (.int ex), .unset, .unset, .unset]) rfl kt) ?_
    refine OFin.to (T4.setTop (mkF m 71 #[.val (.int p0), .val (.int p1), .val (.int p2), .val (.int p3), .val (.int p4), .val (.int p5), .val (.int (Int32.ofNat ka)), .val (.int (Int32.ofNat kb)), .val (.int (Int32.ofNat kq)), .val (.ref b1), .val (.int (1 : Int32)), .val (.int ex), .unset, .unset, .unset] [(.ref b1)])) (fun _ kt => XS.aload X4.here hx rfl (hb hby at_69) rfl rfl kt) ?_
    refine OFin.to (T4.setTop (mkF m 73 #[.val (.int p0), .val (.int p1), .val (.int p2), .val (.int p3), .val (.int p4), .val (.int p5), .val (.int (Int32.ofNat ka)), .val (.int (Int32.ofNat kb)), .val (.int (Int32.ofNat kq)), .val (.ref b1), .val (.int (1 : Int32)), .val (.int ex), .unset, .unset, .unset] [(.int (Int32.ofNat kq)), (.ref b1)])) (fun _ kt => XS.iload X4.here hx rfl (hb hby at_71) rfl kt) ?_
    obtain ⟨v5, T5, L5, hQ5, X5, st5⟩ := own_callV X4 hx hZ hown (hw _ (List.mem_of_getElem? (i := 15) rfl)) (hw _ (List.mem_of_getElem? (i := 16) rfl)) (hw _ (List.mem_of_getElem? (i := 18) rfl)) (hw _ (List.mem_of_getElem? (i := 17) rfl)) (hw _ (List.mem_of_getElem? (i := 19) rfl)) (hw _ (List.mem_of_getElem? (i := 2) rfl)) (by decide) rfl HCA.1 (rm3 l Z a0 hw [] b1 aA kq nA (by omega) (by omega) fA p0 T4.heap HCA) 0 (by decide) (by decide) (by decide) (by decide) (g := (mkF m 73 #[.val (.int p0), .val (.int p1), .val (.int p2), .val (.int p3), .val (.int p4), .val (.int p5), .val (.int (Int32.ofNat ka)), .val (.int (Int32.ofNat kb)), .val (.int (Int32.ofNat kq)), .val (.ref b1), .val (.int (1 : Int32)), .val (.int ex), .unset, .unset, .unset] [(.int (Int32.ofNat kq)), (.ref b1)])) rfl (by rw [hml]; rfl) (rest := []) (lenOf pd_6 rfl) rfl (by show 2 * 0 + _ ≤ _; exact Nat.le_of_eq rfl) (hb hby at_73)
    obtain ⟨rfl, e5, rfl⟩ := hQ5
    rw [List.append_nil] at X5
    refine OFin.to (T5.setTop (mkF m 76 #[.val (.int p0), .val (.int p1), .val (.int p2), .val (.int p3), .val (.int p4), .val (.int p5), .val (.int (Int32.ofNat ka)), .val (.int (Int32.ofNat kb)), .val (.int (Int32.ofNat kq)), .val (.ref b1), .val (.int (1 : Int32)), .val (.int ex), .unset, .unset, .unset] [(.int (own_get nA fA p0 kq))])) st5 ?_
    refine OFin.to (T5.setTop (mkF m 78 #[.val (.int p0), .val (.int p1), .val (.int p2), .val (.int p3), .val (.int p4), .val (.int p5), .val (.int (Int32.ofNat ka)), .val (.int (Int32.ofNat kb)), .val (.int (Int32.ofNat kq)), .val (.ref b1), .val (.int (1 : Int32)), .val (.int ex), .unset, .unset, .unset] [(.int ex), (.int (own_get nA fA p0 kq))])) (fun _ kt => XS.iload X5.here hx rfl (hb hby at_76) rfl kt) ?_
    refine OFin.to (T5.setTop (mkF m 81 #[.val (.int p0), .val (.int p1), .val (.int p2), .val (.int p3), .val (.int p4), .val (.int p5), .val (.int (Int32.ofNat ka)), .val (.int (Int32.ofNat kb)), .val (.int (Int32.ofNat kq)), .val (.ref b1), .val (.int (1 : Int32)), .val (.int ex), .unset, .unset, .unset] [])) (fun _ kt => XS.icmpNo X5.here hx rfl (hb hby at_78) rfl (XT.ii_ne_f hex) kt) ?_
    refine OFin.to (T5.setTop (mkF m 82 #[.val (.int p0), .val (.int p1), .val (.int p2), .val (.int p3), .val (.int p4), .val (.int p5), .val (.int (Int32.ofNat ka)), .val (.int (Int32.ofNat kb)), .val (.int (Int32.ofNat kq)), .val (.ref b1), .val (.int (1 : Int32)), .val (.int ex), .unset, .unset, .unset] [(.int (1 : Int32))])) (fun _ kt => XS.iconst X5.here hx rfl (hb hby at_81) kt) ?_
    refine OFin.to (T5.setTop (mkF m 86 #[.val (.int p0), .val (.int p1), .val (.int p2), .val (.int p3), .val (.int p4), .val (.int p5), .val (.int (Int32.ofNat ka)), .val (.int (Int32.ofNat kb)), .val (.int (Int32.ofNat kq)), .val (.ref b1), .val (.int (1 : Int32)), .val (.int ex), .unset, .unset, .unset] [(.int (1 : Int32))])) (fun _ kt => XS.goto X5.here hx rfl (pc0 := 82) (pc' := 86) rfl (hb hby at_82) (by decide) (by decide) kt) ?_
    refine OFin.to (T5.setTop (mkF m 88 #[.val (.int p0), .val (.int p1), .val (.int p2), .val (.int p3), .val (.int p4), .val (.int p5), .val (.int (Int32.ofNat ka)), .val (.int (Int32.ofNat kb)), .val (.int (Int32.ofNat kq)), .val (.ref b1), .val (.int (1 : Int32)), .val (.int ex), .val (.int (1 : Int32)), .unset, .unset] [])) (fun _ kt => XS.istore X5.here hx rfl (hb hby at_86) rfl (l' := #[.val (.int p0), .val (.int p1), .val (.int p2), .val (.int p3), .val (.int p4), .val (.int p5), .val (.int (Int32.ofNat ka)), .val (.int (Int32.ofNat kb)), .val (.int (Int32.ofNat kq)), .val (.ref b1), .val (.int (1 : Int32)), .val (.int ex), .val (.int (1 : Int32)), .unset, .unset]) rfl kt) ?_
    refine OFin.to (T5.setTop (mkF m 90 #[.val (.int p0), .val (.int p1), .val (.int p2), .val (.int p3), .val (.int p4), .val (.int p5), .val (.int (Int32.ofNat ka)), .val (.int (Int32.ofNat kb)), .val (.int (Int32.ofNat kq)), .val (.ref b1), .val (.int (1 : Int32)), .val (.int ex), .val (.int (1 : Int32)), .unset, .unset] [(.ref b1)])) (fun _ kt => XS.aload X5.here hx rfl (hb hby at_88) rfl rfl kt) ?_
    refine OFin.to (T5.setTop (mkF m 92 #[.val (.int p0), .val (.int p1), .val (.int p2), .val (.int p3), .val (.int p4), .val (.int p5), .val (.int (Int32.ofNat ka)), .val (.int (Int32.ofNat kb)), .val (.int (Int32.ofNat kq)), .val (.ref b1), .val (.int (1 : Int32)), .val (.int ex), .val (.int (1 : Int32)), .unset, .unset] [(.int (Int32.ofNat kb)), (.ref b1)])) (fun _ kt => XS.iload X5.here hx rfl (hb hby at_90) rfl kt) ?_
    refine OFin.to (T5.setTop (mkF m 94 #[.val (.int p0), .val (.int p1), .val (.int p2), .val (.int p3), .val (.int p4), .val (.int p5), .val (.int (Int32.ofNat ka)), .val (.int (Int32.ofNat kb)), .val (.int (Int32.ofNat kq)), .val (.ref b1), .val (.int (1 : Int32)), .val (.int ex), .val (.int (1 : Int32)), .unset, .unset] [(.int p4), (.int (Int32.ofNat kb)), (.ref b1)])) (fun _ kt => XS.iload X5.here hx rfl (hb hby at_92) rfl kt) ?_
    obtain ⟨v6, T6, L6, hQ6, X6, st6⟩ := own_callV X5 hx hZ hown (hw _ (List.mem_of_getElem? (i := 20) rfl)) (hw _ (List.mem_of_getElem? (i := 21) rfl)) (hw _ (List.mem_of_getElem? (i := 23) rfl)) (hw _ (List.mem_of_getElem? (i := 22) rfl)) (hw _ (List.mem_of_getElem? (i := 24) rfl)) (hw _ (List.mem_of_getElem? (i := 2) rfl)) (by decide) e5 HCA.1 (rm4 l Z a0 hw [] b1 aA kb nA (by omega) (by omega) p4 fA p0 T4.heap h0.size ZAx g_b1 GA HCA) 0 (by decide) (by decide) (by decide) (by decide) (g := (mkF m 94 #[.val (.int p0), .val (.int p1), .val (.int p2), .val (.int p3), .val (.int p4), .val (.int p5), .val (.int (Int32.ofNat ka)), .val (.int (Int32.ofNat kb)), .val (.int (Int32.ofNat kq)), .val (.ref b1), .val (.int (1 : Int32)), .val (.int ex), .val (.int (1 : Int32)), .unset, .unset] [(.int p4), (.int (Int32.ofNat kb)), (.ref b1)])) rfl (by rw [hml]; rfl) (rest := []) (lenOf pd_7 rfl) rfl (by show 2 * 0 + _ ≤ _; exact Nat.le_of_eq rfl) (hb hby at_94)
    obtain ⟨rfl, aB, nB, fB, GB, BB, HCB, PB, SB, MB⟩ := hQ6
    refine OFin.to (T6.setTop (mkF m 97 #[.val (.int p0), .val (.int p1), .val (.int p2), .val (.int p3), .val (.int p4), .val (.int p5), .val (.int (Int32.ofNat ka)), .val (.int (Int32.ofNat kb)), .val (.int (Int32.ofNat kq)), .val (.ref b1), .val (.int (1 : Int32)), .val (.int ex), .val (.int (1 : Int32)), .unset, .unset] [])) st6 ?_
    have NBx := Fr.app NAx MB
    have ZBx := Nat.le_trans ZAx SB
    refine OFin.to (T6.setTop (mkF m 99 #[.val (.int p0), .val (.int p1), .val (.int p2), .val (.int p3), .val (.int p4), .val (.int p5), .val (.int (Int32.ofNat ka)), .val (.int (Int32.ofNat kb)), .val (.int (Int32.ofNat kq)), .val (.ref b1), .val (.int (1 : Int32)), .val (.int ex), .val (.int (1 : Int32)), .unset, .unset] [(.int (Int32.ofNat kq))])) (fun _ kt => XS.iload X6.here hx rfl (hb hby at_97) rfl kt) ?_
    refine OFin.to (T6.setTop (mkF m 101 #[.val (.int p0), .val (.int p1), .val (.int p2), .val (.int p3), .val (.int p4), .val (.int p5), .val (.int (Int32.ofNat ka)), .val (.int (Int32.ofNat kb)), .val (.int (Int32.ofNat kq)), .val (.ref b1), .val (.int (1 : Int32)), .val (.int ex), .val (.int (1 : Int32)), .unset, .unset] [(.int (Int32.ofNat kb)), (.int (Int32.ofNat kq))])) (fun _ kt => XS.iload X6.here hx rfl (hb hby at_99) rfl kt) ?_
    have J2 : ∀ ey : Int32, own_get nB fB p0 kq = ey → OFin p e below s (room_1).cells (room_1).slots (fun v h L => v = some (.int (1 : Int32)) ∧ Fr h0.size L) (T6.setTop (mkF m 127 #[.val (.int p0), .val (.int p1), .val (.int p2), .val (.int p3), .val (.int p4), .val (.int p5), .val (.int (Int32.ofNat ka)), .val (.int (Int32.ofNat kb)), .val (.int (Int32.ofNat kq)), .val (.ref b1), .val (.int (1 : Int32)), .val (.int ex), .val (.int (1 : Int32)), .val (.int ey), .unset] [])) := by
      intro ey hey
      refine OFin.to (T6.setTop (mkF m 129 #[.val (.int p0), .val (.int p1), .val (.int p2), .val (.int p3), .val (.int p4), .val (.int p5), .val (.int (Int32.ofNat ka)), .val (.int (Int32.ofNat kb)), .val (.int (Int32.ofNat kq)), .val (.ref b1), .val (.int (1 : Int32)), .val (.int ex), .val (.int (1 : Int32)), .val (.int ey), .unset] [(.ref b1)])) (fun _ kt => XS.aload X6.here hx rfl (hb hby at_127) rfl rfl kt) ?_
      refine OFin.to (T6.setTop (mkF m 131 #[.val (.int p0), .val (.int p1), .val (.int p2), .val (.int p3), .val (.int p4), .val (.int p5), .val (.int (Int32.ofNat ka)), .val (.int (Int32.ofNat kb)), .val (.int (Int32.ofNat kq)), .val (.ref b1), .val (.int (1 : Int32)), .val (.int ex), .val (.int (1 : Int32)), .val (.int ey), .unset] [(.int (Int32.ofNat kq)), (.ref b1)])) (fun _ kt => XS.iload X6.here hx rfl (hb hby at_129) rfl kt) ?_
      obtain ⟨v7, T7, L7, hQ7, X7, st7⟩ := own_callV X6 hx hZ hown (hw _ (List.mem_of_getElem? (i := 15) rfl)) (hw _ (List.mem_of_getElem? (i := 16) rfl)) (hw _ (List.mem_of_getElem? (i := 18) rfl)) (hw _ (List.mem_of_getElem? (i := 17) rfl)) (hw _ (List.mem_of_getElem? (i := 19) rfl)) (hw _ (List.mem_of_getElem? (i := 2) rfl)) (by decide) rfl HCB.1 (rm3 l Z a0 hw [] b1 aB kq nB (by omega) (by omega) fB p0 T6.heap HCB) 0 (by decide) (by decide) (by decide) (by decide) (g := (mkF m 131 #[.val (.int p0), .val (.int p1), .val (.int p2), .val (.int p3), .val (.int p4), .val (.int p5), .val (.int (Int32.ofNat ka)), .val (.int (Int32.ofNat kb)), .val (.int (Int32.ofNat kq)), .val (.ref b1), .val (.int (1 : Int32)), .val (.int ex), .val (.int (1 : Int32)), .val (.int ey), .unset] [(.int (Int32.ofNat kq)), (.ref b1)])) rfl (by rw [hml]; rfl) (rest := []) (lenOf pd_6 rfl) rfl (by show 2 * 0 + _ ≤ _; exact Nat.le_of_eq rfl) (hb hby at_131)
      obtain ⟨rfl, e7, rfl⟩ := hQ7
      rw [List.append_nil] at X7
      refine OFin.to (T7.setTop (mkF m 134 #[.val (.int p0), .val (.int p1), .val (.int p2), .val (.int p3), .val (.int p4), .val (.int p5), .val (.int (Int32.ofNat ka)), .val (.int (Int32.ofNat kb)), .val (.int (Int32.ofNat kq)), .val (.ref b1), .val (.int (1 : Int32)), .val (.int ex), .val (.int (1 : Int32)), .val (.int ey), .unset] [(.int (own_get nB fB p0 kq))])) st7 ?_
      refine OFin.to (T7.setTop (mkF m 136 #[.val (.int p0), .val (.int p1), .val (.int p2), .val (.int p3), .val (.int p4), .val (.int p5), .val (.int (Int32.ofNat ka)), .val (.int (Int32.ofNat kb)), .val (.int (Int32.ofNat kq)), .val (.ref b1), .val (.int (1 : Int32)), .val (.int ex), .val (.int (1 : Int32)), .val (.int ey), .unset] [(.int ey), (.int (own_get nB fB p0 kq))])) (fun _ kt => XS.iload X7.here hx rfl (hb hby at_134) rfl kt) ?_
      refine OFin.to (T7.setTop (mkF m 139 #[.val (.int p0), .val (.int p1), .val (.int p2), .val (.int p3), .val (.int p4), .val (.int p5), .val (.int (Int32.ofNat ka)), .val (.int (Int32.ofNat kb)), .val (.int (Int32.ofNat kq)), .val (.ref b1), .val (.int (1 : Int32)), .val (.int ex), .val (.int (1 : Int32)), .val (.int ey), .unset] [])) (fun _ kt => XS.icmpNo X7.here hx rfl (hb hby at_136) rfl (XT.ii_ne_f hey) kt) ?_
      refine OFin.to (T7.setTop (mkF m 140 #[.val (.int p0), .val (.int p1), .val (.int p2), .val (.int p3), .val (.int p4), .val (.int p5), .val (.int (Int32.ofNat ka)), .val (.int (Int32.ofNat kb)), .val (.int (Int32.ofNat kq)), .val (.ref b1), .val (.int (1 : Int32)), .val (.int ex), .val (.int (1 : Int32)), .val (.int ey), .unset] [(.int (1 : Int32))])) (fun _ kt => XS.iconst X7.here hx rfl (hb hby at_139) kt) ?_
      refine OFin.to (T7.setTop (mkF m 144 #[.val (.int p0), .val (.int p1), .val (.int p2), .val (.int p3), .val (.int p4), .val (.int p5), .val (.int (Int32.ofNat ka)), .val (.int (Int32.ofNat kb)), .val (.int (Int32.ofNat kq)), .val (.ref b1), .val (.int (1 : Int32)), .val (.int ex), .val (.int (1 : Int32)), .val (.int ey), .unset] [(.int (1 : Int32))])) (fun _ kt => XS.goto X7.here hx rfl (pc0 := 140) (pc' := 144) rfl (hb hby at_140) (by decide) (by decide) kt) ?_
      refine OFin.to (T7.setTop (mkF m 146 #[.val (.int p0), .val (.int p1), .val (.int p2), .val (.int p3), .val (.int p4), .val (.int p5), .val (.int (Int32.ofNat ka)), .val (.int (Int32.ofNat kb)), .val (.int (Int32.ofNat kq)), .val (.ref b1), .val (.int (1 : Int32)), .val (.int ex), .val (.int (1 : Int32)), .val (.int ey), .val (.int (1 : Int32))] [])) (fun _ kt => XS.istore X7.here hx rfl (hb hby at_144) rfl (l' := #[.val (.int p0), .val (.int p1), .val (.int p2), .val (.int p3), .val (.int p4), .val (.int p5), .val (.int (Int32.ofNat ka)), .val (.int (Int32.ofNat kb)), .val (.int (Int32.ofNat kq)), .val (.ref b1), .val (.int (1 : Int32)), .val (.int ex), .val (.int (1 : Int32)), .val (.int ey), .val (.int (1 : Int32))]) rfl kt) ?_
      refine OFin.to (T7.setTop (mkF m 148 #[.val (.int p0), .val (.int p1), .val (.int p2), .val (.int p3), .val (.int p4), .val (.int p5), .val (.int (Int32.ofNat ka)), .val (.int (Int32.ofNat kb)), .val (.int (Int32.ofNat kq)), .val (.ref b1), .val (.int (1 : Int32)), .val (.int ex), .val (.int (1 : Int32)), .val (.int ey), .val (.int (1 : Int32))] [(.int (1 : Int32))])) (fun _ kt => XS.iload X7.here hx rfl (hb hby at_146) rfl kt) ?_
      refine OFin.to (T7.setTop (mkF m 151 #[.val (.int p0), .val (.int p1), .val (.int p2), .val (.int p3), .val (.int p4), .val (.int p5), .val (.int (Int32.ofNat ka)), .val (.int (Int32.ofNat kb)), .val (.int (Int32.ofNat kq)), .val (.ref b1), .val (.int (1 : Int32)), .val (.int ex), .val (.int (1 : Int32)), .val (.int ey), .val (.int (1 : Int32))] [])) (fun _ kt => XS.ifNo X7.here hx rfl (hb hby at_148) rfl (XT.i0_eq_f (by decide)) kt) ?_
      refine OFin.to (T7.setTop (mkF m 153 #[.val (.int p0), .val (.int p1), .val (.int p2), .val (.int p3), .val (.int p4), .val (.int p5), .val (.int (Int32.ofNat ka)), .val (.int (Int32.ofNat kb)), .val (.int (Int32.ofNat kq)), .val (.ref b1), .val (.int (1 : Int32)), .val (.int ex), .val (.int (1 : Int32)), .val (.int ey), .val (.int (1 : Int32))] [(.int (1 : Int32))])) (fun _ kt => XS.iload X7.here hx rfl (hb hby at_151) rfl kt) ?_
      refine OFin.to (T7.setTop (mkF m 156 #[.val (.int p0), .val (.int p1), .val (.int p2), .val (.int p3), .val (.int p4), .val (.int p5), .val (.int (Int32.ofNat ka)), .val (.int (Int32.ofNat kb)), .val (.int (Int32.ofNat kq)), .val (.ref b1), .val (.int (1 : Int32)), .val (.int ex), .val (.int (1 : Int32)), .val (.int ey), .val (.int (1 : Int32))] [])) (fun _ kt => XS.ifNo X7.here hx rfl (hb hby at_153) rfl (XT.i0_eq_f (by decide)) kt) ?_
      refine OFin.to (T7.setTop (mkF m 158 #[.val (.int p0), .val (.int p1), .val (.int p2), .val (.int p3), .val (.int p4), .val (.int p5), .val (.int (Int32.ofNat ka)), .val (.int (Int32.ofNat kb)), .val (.int (Int32.ofNat kq)), .val (.ref b1), .val (.int (1 : Int32)), .val (.int ex), .val (.int (1 : Int32)), .val (.int ey), .val (.int (1 : Int32))] [(.int (1 : Int32))])) (fun _ kt => XS.iload X7.here hx rfl (hb hby at_156) rfl kt) ?_
      refine OFin.to (T7.setTop (mkF m 161 #[.val (.int p0), .val (.int p1), .val (.int p2), .val (.int p3), .val (.int p4), .val (.int p5), .val (.int (Int32.ofNat ka)), .val (.int (Int32.ofNat kb)), .val (.int (Int32.ofNat kq)), .val (.ref b1), .val (.int (1 : Int32)), .val (.int ex), .val (.int (1 : Int32)), .val (.int ey), .val (.int (1 : Int32))] [])) (fun _ kt => XS.ifNo X7.here hx rfl (hb hby at_158) rfl (XT.i0_eq_f (by decide)) kt) ?_
      refine OFin.to (T7.setTop (mkF m 162 #[.val (.int p0), .val (.int p1), .val (.int p2), .val (.int p3), .val (.int p4), .val (.int p5), .val (.int (Int32.ofNat ka)), .val (.int (Int32.ofNat kb)), .val (.int (Int32.ofNat kq)), .val (.ref b1), .val (.int (1 : Int32)), .val (.int ex), .val (.int (1 : Int32)), .val (.int ey), .val (.int (1 : Int32))] [(.int (1 : Int32))])) (fun _ kt => XS.iconst X7.here hx rfl (hb hby at_161) kt) ?_
      refine OFin.to (T7.setTop (mkF m 166 #[.val (.int p0), .val (.int p1), .val (.int p2), .val (.int p3), .val (.int p4), .val (.int p5), .val (.int (Int32.ofNat ka)), .val (.int (Int32.ofNat kb)), .val (.int (Int32.ofNat kq)), .val (.ref b1), .val (.int (1 : Int32)), .val (.int ex), .val (.int (1 : Int32)), .val (.int ey), .val (.int (1 : Int32))] [(.int (1 : Int32))])) (fun _ kt => XS.goto X7.here hx rfl (pc0 := 162) (pc' := 166) rfl (hb hby at_162) (by decide) (by decide) kt) ?_
      exact OFin.retZ X7 hx (t := .boolean) hret (by simp) hlk (hb hby at_166) (by decide) (by decide) ⟨by rw [own_nar1], NBx⟩
    have pB := PB kq
    have pA := PA kq
    by_cases hqb : kq = kb
    case pos =>
      refine OFin.to (T6.setTop (mkF m 104 #[.val (.int p0), .val (.int p1), .val (.int p2), .val (.int p3), .val (.int p4), .val (.int p5), .val (.int (Int32.ofNat ka)), .val (.int (Int32.ofNat kb)), .val (.int (Int32.ofNat kq)), .val (.ref b1), .val (.int (1 : Int32)), .val (.int ex), .val (.int (1 : Int32)), .unset, .unset] [])) (fun _ kt => XS.icmpNo X6.here hx rfl (hb hby at_101) rfl (XT.ii_ne_f (by rw [hqb])) kt) ?_
      refine OFin.to (T6.setTop (mkF m 106 #[.val (.int p0), .val (.int p1), .val (.int p2), .val (.int p3), .val (.int p4), .val (.int p5), .val (.int (Int32.ofNat ka)), .val (.int (Int32.ofNat kb)), .val (.int (Int32.ofNat kq)), .val (.ref b1), .val (.int (1 : Int32)), .val (.int ex), .val (.int (1 : Int32)), .unset, .unset] [(.int p4)])) (fun _ kt => XS.iload X6.here hx rfl (hb hby at_104) rfl kt) ?_
      refine OFin.to (T6.setTop (mkF m 108 #[.val (.int p0), .val (.int p1), .val (.int p2), .val (.int p3), .val (.int p4), .val (.int p5), .val (.int (Int32.ofNat ka)), .val (.int (Int32.ofNat kb)), .val (.int (Int32.ofNat kq)), .val (.ref b1), .val (.int (1 : Int32)), .val (.int ex), .val (.int (1 : Int32)), .val (.int p4), .unset] [])) (fun _ kt => XS.istore X6.here hx rfl (hb hby at_106) rfl (l' := #[.val (.int p0), .val (.int p1), .val (.int p2), .val (.int p3), .val (.int p4), .val (.int p5), .val (.int (Int32.ofNat ka)), .val (.int (Int32.ofNat kb)), .val (.int (Int32.ofNat kq)), .val (.ref b1), .val (.int (1 : Int32)), .val (.int ex), .val (.int (1 : Int32)), .val (.int p4), .unset]) rfl kt) ?_
      refine OFin.to (T6.setTop (mkF m 127 #[.val (.int p0), .val (.int p1), .val (.int p2), .val (.int p3), .val (.int p4), .val (.int p5), .val (.int (Int32.ofNat ka)), .val (.int (Int32.ofNat kb)), .val (.int (Int32.ofNat kq)), .val (.ref b1), .val (.int (1 : Int32)), .val (.int ex), .val (.int (1 : Int32)), .val (.int p4), .unset] [])) (fun _ kt => XS.goto X6.here hx rfl (pc0 := 108) (pc' := 127) rfl (hb hby at_108) (by decide) (by decide) kt) ?_
      exact J2 _ (by rw [pB, if_pos hqb])
    refine OFin.to (T6.setTop (mkF m 111 #[.val (.int p0), .val (.int p1), .val (.int p2), .val (.int p3), .val (.int p4), .val (.int p5), .val (.int (Int32.ofNat ka)), .val (.int (Int32.ofNat kb)), .val (.int (Int32.ofNat kq)), .val (.ref b1), .val (.int (1 : Int32)), .val (.int ex), .val (.int (1 : Int32)), .unset, .unset] [])) (fun _ kt => XS.icmpYes X6.here hx rfl (pc0 := 101) (pc' := 111) rfl (hb hby at_101) rfl (XT.ii_ne_t (fun q => hqb ((own_ofEq kq kb (by omega) (by omega)).mp q))) (by decide) (by decide) kt) ?_
    refine OFin.to (T6.setTop (mkF m 113 #[.val (.int p0), .val (.int p1), .val (.int p2), .val (.int p3), .val (.int p4), .val (.int p5), .val (.int (Int32.ofNat ka)), .val (.int (Int32.ofNat kb)), .val (.int (Int32.ofNat kq)), .val (.ref b1), .val (.int (1 : Int32)), .val (.int ex), .val (.int (1 : Int32)), .unset, .unset] [(.int (Int32.ofNat kq))])) (fun _ kt => XS.iload X6.here hx rfl (hb hby at_111) rfl kt) ?_
    refine OFin.to (T6.setTop (mkF m 115 #[.val (.int p0), .val (.int p1), .val (.int p2), .val (.int p3), .val (.int p4), .val (.int p5), .val (.int (Int32.ofNat ka)), .val (.int (Int32.ofNat kb)), .val (.int (Int32.ofNat kq)), .val (.ref b1), .val (.int (1 : Int32)), .val (.int ex), .val (.int (1 : Int32)), .unset, .unset] [(.int (Int32.ofNat ka)), (.int (Int32.ofNat kq))])) (fun _ kt => XS.iload X6.here hx rfl (hb hby at_113) rfl kt) ?_
    rw [if_neg hqb] at pB
    by_cases hqa : kq = ka
    case pos =>
      refine OFin.to (T6.setTop (mkF m 118 #[.val (.int p0), .val (.int p1), .val (.int p2), .val (.int p3), .val (.int p4), .val (.int p5), .val (.int (Int32.ofNat ka)), .val (.int (Int32.ofNat kb)), .val (.int (Int32.ofNat kq)), .val (.ref b1), .val (.int (1 : Int32)), .val (.int ex), .val (.int (1 : Int32)), .unset, .unset] [])) (fun _ kt => XS.icmpNo X6.here hx rfl (hb hby at_115) rfl (XT.ii_ne_f (by rw [hqa])) kt) ?_
      refine OFin.to (T6.setTop (mkF m 119 #[.val (.int p0), .val (.int p1), .val (.int p2), .val (.int p3), .val (.int p4), .val (.int p5), .val (.int (Int32.ofNat ka)), .val (.int (Int32.ofNat kb)), .val (.int (Int32.ofNat kq)), .val (.ref b1), .val (.int (1 : Int32)), .val (.int ex), .val (.int (1 : Int32)), .unset, .unset] [(.int p2)])) (fun _ kt => XS.iloadN X6.here hx rfl (hb hby at_118) rfl kt) ?_
      refine OFin.to (T6.setTop (mkF m 121 #[.val (.int p0), .val (.int p1), .val (.int p2), .val (.int p3), .val (.int p4), .val (.int p5), .val (.int (Int32.ofNat ka)), .val (.int (Int32.ofNat kb)), .val (.int (Int32.ofNat kq)), .val (.ref b1), .val (.int (1 : Int32)), .val (.int ex), .val (.int (1 : Int32)), .val (.int p2), .unset] [])) (fun _ kt => XS.istore X6.here hx rfl (hb hby at_119) rfl (l' := #[.val (.int p0), .val (.int p1), .val (.int p2), .val (.int p3), .val (.int p4), .val (.int p5), .val (.int (Int32.ofNat ka)), .val (.int (Int32.ofNat kb)), .val (.int (Int32.ofNat kq)), .val (.ref b1), .val (.int (1 : Int32)), .val (.int ex), .val (.int (1 : Int32)), .val (.int p2), .unset]) rfl kt) ?_
      refine OFin.to (T6.setTop (mkF m 127 #[.val (.int p0), .val (.int p1), .val (.int p2), .val (.int p3), .val (.int p4), .val (.int p5), .val (.int (Int32.ofNat ka)), .val (.int (Int32.ofNat kb)), .val (.int (Int32.ofNat kq)), .val (.ref b1), .val (.int (1 : Int32)), .val (.int ex), .val (.int (1 : Int32)), .val (.int p2), .unset] [])) (fun _ kt => XS.goto X6.here hx rfl (pc0 := 121) (pc' := 127) rfl (hb hby at_121) (by decide) (by decide) kt) ?_
      exact J2 _ (by rw [pB, pA, if_pos hqa])
    refine OFin.to (T6.setTop (mkF m 124 #[.val (.int p0), .val (.int p1), .val (.int p2), .val (.int p3), .val (.int p4), .val (.int p5), .val (.int (Int32.ofNat ka)), .val (.int (Int32.ofNat kb)), .val (.int (Int32.ofNat kq)), .val (.ref b1), .val (.int (1 : Int32)), .val (.int ex), .val (.int (1 : Int32)), .unset, .unset] [])) (fun _ kt => XS.icmpYes X6.here hx rfl (pc0 := 115) (pc' := 124) rfl (hb hby at_115) rfl (XT.ii_ne_t (fun q => hqa ((own_ofEq kq ka (by omega) (by omega)).mp q))) (by decide) (by decide) kt) ?_
    refine OFin.to (T6.setTop (mkF m 125 #[.val (.int p0), .val (.int p1), .val (.int p2), .val (.int p3), .val (.int p4), .val (.int p5), .val (.int (Int32.ofNat ka)), .val (.int (Int32.ofNat kb)), .val (.int (Int32.ofNat kq)), .val (.ref b1), .val (.int (1 : Int32)), .val (.int ex), .val (.int (1 : Int32)), .unset, .unset] [(.int p0)])) (fun _ kt => XS.iloadN X6.here hx rfl (hb hby at_124) rfl kt) ?_
    refine OFin.to (T6.setTop (mkF m 127 #[.val (.int p0), .val (.int p1), .val (.int p2), .val (.int p3), .val (.int p4), .val (.int p5), .val (.int (Int32.ofNat ka)), .val (.int (Int32.ofNat kb)), .val (.int (Int32.ofNat kq)), .val (.ref b1), .val (.int (1 : Int32)), .val (.int ex), .val (.int (1 : Int32)), .val (.int p0), .unset] [])) (fun _ kt => XS.istore X6.here hx rfl (hb hby at_125) rfl (l' := #[.val (.int p0), .val (.int p1), .val (.int p2), .val (.int p3), .val (.int p4), .val (.int p5), .val (.int (Int32.ofNat ka)), .val (.int (Int32.ofNat kb)), .val (.int (Int32.ofNat kq)), .val (.ref b1), .val (.int (1 : Int32)), .val (.int ex), .val (.int (1 : Int32)), .val (.int p0), .unset]) rfl kt) ?_
    exact J2 _ (by rw [pB, pA, if_neg hqa]; rfl)
  have pA := PA kq
  by_cases hqa : kq = ka
  case pos =>
    refine OFin.to (T4.setTop (mkF m 62 #[.val (.int p0), .val (.int p1), .val (.int p2), .val (.int p3), .val (.int p4), .val (.int p5), .val (.int (Int32.ofNat ka)), .val (.int (Int32.ofNat kb)), .val (.int (Int32.ofNat kq)), .val (.ref b1), .val (.int (1 : Int32)), .unset, .unset, .unset, .unset] [])) (fun _ kt => XS.icmpNo X4.here hx rfl (hb hby at_59) rfl (XT.ii_ne_f (by rw [hqa])) kt) ?_
    refine OFin.to (T4.setTop (mkF m 63 #[.val (.int p0), .val (.int p1), .val (.int p2), .val (.int p3), .val (.int p4), .val (.int p5), .val (.int (Int32.ofNat ka)), .val (.int (Int32.ofNat kb)), .val (.int (Int32.ofNat kq)), .val (.ref b1), .val (.int (1 : Int32)), .unset, .unset, .unset, .unset] [(.int p2)])) (fun _ kt => XS.iloadN X4.here hx rfl (hb hby at_62) rfl kt) ?_
    refine OFin.to (T4.setTop (mkF m 67 #[.val (.int p0), .val (.int p1), .val (.int p2), .val (.int p3), .val (.int p4), .val (.int p5), .val (.int (Int32.ofNat ka)), .val (.int (Int32.ofNat kb)), .val (.int (Int32.ofNat kq)), .val (.ref b1), .val (.int (1 : Int32)), .unset, .unset, .unset, .unset] [(.int p2)])) (fun _ kt => XS.goto X4.here hx rfl (pc0 := 63) (pc' := 67) rfl (hb hby at_63) (by decide) (by decide) kt) ?_
    exact J1 _ (by rw [pA, if_pos hqa])
  refine OFin.to (T4.setTop (mkF m 66 #[.val (.int p0), .val (.int p1), .val (.int p2), .val (.int p3), .val (.int p4), .val (.int p5), .val (.int (Int32.ofNat ka)), .val (.int (Int32.ofNat kb)), .val (.int (Int32.ofNat kq)), .val (.ref b1), .val (.int (1 : Int32)), .unset, .unset, .unset, .unset] [])) (fun _ kt => XS.icmpYes X4.here hx rfl (pc0 := 59) (pc' := 66) rfl (hb hby at_59) rfl (XT.ii_ne_t (fun q => hqa ((own_ofEq kq ka (by omega) (by omega)).mp q))) (by decide) (by decide) kt) ?_
  refine OFin.to (T4.setTop (mkF m 67 #[.val (.int p0), .val (.int p1), .val (.int p2), .val (.int p3), .val (.int p4), .val (.int p5), .val (.int (Int32.ofNat ka)), .val (.int (Int32.ofNat kb)), .val (.int (Int32.ofNat kq)), .val (.ref b1), .val (.int (1 : Int32)), .unset, .unset, .unset, .unset] [(.int p0)])) (fun _ kt => XS.iloadN X4.here hx rfl (hb hby at_66) rfl kt) ?_
  exact J1 _ (by rw [pA, if_neg hqa]; rfl)
set_option maxRecDepth 65536 in
set_option maxHeartbeats 40000000 in
theorem comes_1 {Post : Tables → Env → Array Value → State → Outcome → State → Prop} (hpost : ∀ tb e args s v u, (limb_1_1.after args s (.returned v) u = true ∧ limb_1_2.after args s (.returned v) u = true ∧ True) → FrameEnd s (.returned v) u (Jvm.fieldLocs frame_1_writes args s ++ Jvm.arrayLocs frame_1_arrays args s ++ Jvm.staticLocs frame_1_statics s) 16 448 → Post tb e args s (.returned v) u) :
    ArmFor flags0 classFile x code maxLocals ret World_1 tables_1 room_1 Calls_1 rest_1 Pre_1 Post := by
  intro l hfl _ _ p e ha hc hk s m args below hf hA hF happ hP
  obtain ⟨hcalls, hrest, hpre⟩ := hP
  obtain ⟨-, -, -, hnamed, -, -, -, hat⟩ := (Spec.applies_iff hf).mp happ
  obtain ⟨hg, hn⟩ := and_e (Cond.before_iff.mp (show (Jvm.Cond.and given_1 narrow_1).before args s = true from hpre))
  obtain ⟨hcnt, g0⟩ := and_e hg
  obtain ⟨k0, g1⟩ := and_e g0
  obtain ⟨k1, g2⟩ := and_e g1
  obtain ⟨k2, g3⟩ := and_e g2
  obtain ⟨k3, g4⟩ := and_e g3
  obtain ⟨k4, g5⟩ := and_e g4
  obtain ⟨w0, w1, w2, w3, w4, w5, rfl⟩ : ∃ w0 w1 w2 w3 w4 w5 : Value, args = #[w0, w1, w2, w3, w4, w5] := by
    have hs : args.size = 6 := by simpa [Cond.value, given_1] using hcnt
    obtain ⟨L⟩ := args
    match L, hs with
    | [w0, w1, w2, w3, w4, w5], _ => exact ⟨w0, w1, w2, w3, w4, w5, rfl⟩
  have hw := fun d (hd : d ∈ tables_1) => atoms_spec (ws := Jvm.Cond.code x code maxLocals ret :: tables_1) hat d (List.mem_cons_of_mem _ hd)
  have hfit : Fit s := fun {y c} hc i hi => by
    obtain ⟨ha, rfl⟩ := Array.getElem?_eq_some_iff.mp hc
    have q := List.all_eq_true.mp ((Array.all_eq_true_iff_forall_mem.mp hF) _ (Array.getElem_mem ha)) i (List.mem_range.mpr hi)
    simpa [Array.getElem?_eq_getElem hi] using q
  obtain ⟨v0, ev0⟩ := is_v k0
  obtain rfl : w0 = (.int v0) := Option.some.inj ev0
  obtain ⟨v1, ev1⟩ := is_v k1
  obtain rfl : w1 = (.int v1) := Option.some.inj ev1
  obtain ⟨v2, ev2⟩ := is_v k2
  obtain rfl : w2 = (.int v2) := Option.some.inj ev2
  obtain ⟨v3, ev3⟩ := is_v k3
  obtain rfl : w3 = (.int v3) := Option.some.inj ev3
  obtain ⟨v4, ev4⟩ := is_v k4
  obtain rfl : w4 = (.int v4) := Option.some.inj ev4
  obtain ⟨v5, ev5⟩ := is_v g5
  obtain rfl : w5 = (.int v5) := Option.some.inj ev5
  obtain ⟨c0, r0⟩ := and_e hn
  obtain ⟨c1, r1⟩ := and_e r0
  obtain ⟨aN, evN⟩ := arr_v c0
  obtain ⟨cl, AN⟩ := Arr.start evN c0
  have SN := Sta.start evN (Or.inr ⟨(hw _ (List.mem_of_getElem? (i := 2) rfl)), (hw _ (List.mem_of_getElem? (i := 10) rfl))⟩)
  have VN : OFn s s.heap aN .int 0 (fun j => .int ((fun _ => 0 : Nat → Int32) j)) := ⟨cl, AN, own_len0 evN AN r1⟩
  obtain ⟨n, o, h1, h2, h3, _, L, rfl, ⟨rfl, N⟩, hq⟩ := rm0 l s _ hw tables_1 v0 v1 v2 v3 v4 v5 s.heap aN SN VN p e ha hc hk s m _ below hf ((Spec.applies_iff_loose hf).mp happ).1 ⟨rfl, State.Warmed39.refl s, rfl⟩ trivial
  refine ⟨n, _, h1, h2, h3, hpost _ _ _ _ _ _ ⟨Cond.after_iff.mpr rfl, Cond.after_iff.mpr (eq_i res_at (Term.int_eval (1)) rfl), trivial⟩ ⟨hq.1, hq.2.1, (hq.2.2.sift fun y hy => Or.inr (N y hy)).mono (by decide) (by decide)⟩⟩
theorem main_1_1 : Claimed_1_1 := comes_1 fun _ _ _ _ _ _ h hF => ⟨h.1, hF⟩
theorem main_1_2 : Claimed_1_2 := comes_1 fun _ _ _ _ _ _ h hF => ⟨h.2.1, hF⟩
end Jvm.Pilot.@@N@@
namespace Jvm.Pilot.@@N@@
open Jvm Jvm.ClassFile Sem Op Lib Jvm.Free Jvm.Stand Jvm.Pilot.@@N@@.Jvm.D
/-! MADE BY PROGRAM (witnessworld.py) out of the Statement's table words and the real class files: 12 classes; the members and pool entries that the words name. The judged class is class 1, her method 1. -/
namespace start1
open Jvm.ClassFile
def u (s : String) : CpInfo := .utf8 (stringToUtf16 s)
/-- a pool by its gaps: so many unusable entries, then the entry; so many at the end -/
def gap : Nat → List CpInfo → List CpInfo
  | 0, r => r
  | n + 1, r => .unusable :: gap n r
def poolList (es : List (Nat × CpInfo)) (last : Nat) : List CpInfo := es.foldr (fun e r => gap e.1 (e.2 :: r)) (gap last [])
def pool (es : List (Nat × CpInfo)) (last : Nat) : Array CpInfo := ⟨poolList es last⟩
def fileOf (pool : Array CpInfo) (this : Nat) (attrs : Array Attribute := #[]) (ms : Array MethodInfo := #[]) (fl : Nat := 33) (sup : Nat := 0) (ifs : Array Nat := #[]) (fds : Array FieldInfo := #[]) : ClassFile where
  minorVersion := 0
  majorVersion := 65
  constantPool := pool
  accessFlags := fl
  thisClass := this
  superClass := sup
  interfaces := ifs
  fields := fds
  methods := ms
  attributes := attrs
def plain (name : String) (sup : Option ClassId) : Class where
  name := name
  kind := .ordinary
  loader := none
  accessFlags := 33
  super := sup
  interfaces := #[]
  cf := none
  fields := #[]
  methods := #[]
  instanceTypes := #[]
  staticTypes := #[]
  resolved := #[]
  callSites := []
  init := .initialized
  statics := none
  mirror := none

def pool0 : Array CpInfo := pool [(5, u "<init>"), (0, u "()V"), (1, .class_ 10), (1, u "java/lang/Object")] 113

def k0c0 : Code := { maxStack := 0, maxLocals := 1, code := object_method_1_code, exceptionTable := #[], attributes := #[] }
def k0m0 : Method := { name := "<init>", desc := "()V", sig := { parameters := [], returnType := none }, accessFlags := 1, code := some k0c0 }
/-- java/lang/Object -/
def k0 : Class := { plain "java/lang/Object" none with
  accessFlags := 33
  interfaces := #[]
  cf := some (fileOf pool0 8 #[] #[{ accessFlags := 1, nameIndex := 5, descriptorIndex := 6, attributes := #[] }] 33 0 #[] #[])
  fields := #[]
  methods := #[k0m0]
  instanceTypes := #[]
  staticTypes := #[]
  resolved := Array.replicate 124 none
  statics := none }

def pool1 : Array CpInfo := pool [(2, .class_ 4), (1, u "java/lang/Object"), (0, u "<init>"), (0, u "()V"), (0, .class_ 8), (0, u "com/example/fixpoint_checker/fixpointchecker/formula/IntColumn"), (0, .methodref 7 10), (0, .nameAndType 5 11), (0, u "(I)V"), (0, .methodref 7 13), (0, .nameAndType 14 15), (0, u "get"), (0, u "(I)I"), (0, .methodref 7 17), (0, .nameAndType 18 19), (0, u "set"), (0, u "(II)V"), (0, .class_ 21), (0, u "com/example/fixpoint_checker/fixpointchecker/formula/IntColumnGetPinLaw"), (2, u "law"), (0, u "(IIIIII)Z")] 3

def k1m0 : Method := { name := "<init>", desc := "()V", sig := { parameters := [], returnType := none }, accessFlags := 1, code := none }
def k1c1 : Code := { maxStack := 3, maxLocals := 15, code := code, exceptionTable := #[], attributes := #[] }
def k1m1 : Method := { name := "law", desc := "(IIIIII)Z", sig := { parameters := [.int, .int, .int, .int, .int, .int], returnType := some .boolean }, accessFlags := 9, code := some k1c1 }
/-- com/example/fixpoint_checker/fixpointchecker/formula/IntColumnGetPinLaw -/
def k1 : Class := { plain "com/example/fixpoint_checker/fixpointchecker/formula/IntColumnGetPinLaw" (some 0) with
  accessFlags := 49
  interfaces := #[]
  cf := some (fileOf pool1 20 #[] #[{ accessFlags := 1, nameIndex := 5, descriptorIndex := 6, attributes := #[] }, { accessFlags := 9, nameIndex := 24, descriptorIndex := 25, attributes := #[] }] 49 2 #[] #[])
  fields := #[]
  methods := #[k1m0, k1m1]
  instanceTypes := #[]
  staticTypes := #[]
  resolved := Array.replicate 29 none
  statics := none }

def pool2 : Array CpInfo := pool [(1, .methodref 2 3), (0, .class_ 4), (0, .nameAndType 5 6), (0, u "java/lang/Object"), (0, u "<init>"), (0, u "()V"), (0, .fieldref 8 9), (0, .class_ 10), (0, .nameAndType 11 12), (0, u "com/example/fixpoint_checker/fixpointchecker/formula/IntColumn"), (0, u "NONE"), (0, u "[I"), (0, .fieldref 8 14), (0, .nameAndType 15 12), (0, u "values"), (0, .fieldref 8 17), (0, .nameAndType 18 19), (0, u "defaultValue"), (0, u "I"), (0, .methodref 8 21), (0, .nameAndType 22 23), (0, u "grow"), (0, u "(I)V"), (2, .integer 2147483639), (7, .long 2), (1, .methodref 37 38), (0, .class_ 39), (0, .nameAndType 40 41), (0, u "java/lang/Math"), (0, u "max"), (0, u "(JJ)J"), (0, .long 2147483639), (1, .methodref 37 45), (0, .nameAndType 46 41), (0, u "min"), (0, .methodref 48 49), (0, .class_ 50), (0, .nameAndType 51 52), (0, u "java/util/Arrays"), (0, u "copyOf"), (0, u "([II)[I"), (0, .methodref 48 54), (0, .nameAndType 55 56), (0, u "fill"), (0, u "([IIII)V"), (2, u "get"), (0, u "(I)I"), (1, u "set"), (0, u "(II)V")] 5

def k2c0 : Code := { maxStack := 2, maxLocals := 2, code := prog_71_method_1_code, exceptionTable := #[], attributes := #[] }
def k2m0 : Method := { name := "<init>", desc := "(I)V", sig := { parameters := [.int], returnType := none }, accessFlags := 0, code := some k2c0 }
def k2c1 : Code := { maxStack := 2, maxLocals := 2, code := prog_71_method_2_code, exceptionTable := #[], attributes := #[] }
def k2m1 : Method := { name := "get", desc := "(I)I", sig := { parameters := [.int], returnType := some .int }, accessFlags := 0, code := some k2c1 }
def k2c2 : Code := { maxStack := 3, maxLocals := 3, code := prog_71_method_3_code, exceptionTable := #[], attributes := #[] }
def k2m2 : Method := { name := "set", desc := "(II)V", sig := { parameters := [.int, .int], returnType := none }, accessFlags := 0, code := some k2c2 }
def k2c3 : Code := { maxStack := 6, maxLocals := 4, code := prog_71_method_5_code, exceptionTable := #[], attributes := #[] }
def k2m3 : Method := { name := "grow", desc := "(I)V", sig := { parameters := [.int], returnType := none }, accessFlags := 2, code := some k2c3 }
/-- com/example/fixpoint_checker/fixpointchecker/formula/IntColumn -/
def k2 : Class := { plain "com/example/fixpoint_checker/fixpointchecker/formula/IntColumn" (some 0) with
  accessFlags := 32
  interfaces := #[]
  cf := some (fileOf pool2 8 #[] #[{ accessFlags := 0, nameIndex := 5, descriptorIndex := 23, attributes := #[] }, { accessFlags := 0, nameIndex := 59, descriptorIndex := 60, attributes := #[] }, { accessFlags := 0, nameIndex := 62, descriptorIndex := 63, attributes := #[] }, { accessFlags := 2, nameIndex := 22, descriptorIndex := 23, attributes := #[] }] 32 2 #[] #[{ accessFlags := 26, nameIndex := 11, descriptorIndex := 12, attributes := #[] }, { accessFlags := 18, nameIndex := 18, descriptorIndex := 19, attributes := #[] }, { accessFlags := 2, nameIndex := 15, descriptorIndex := 12, attributes := #[] }])
  fields := #[{ name := "NONE", type := (.array .int), accessFlags := 26, slot := 0, constantValue := 0 }, { name := "defaultValue", type := .int, accessFlags := 18, slot := 0, constantValue := 0 }, { name := "values", type := (.array .int), accessFlags := 2, slot := 1, constantValue := 0 }]
  methods := #[k2m0, k2m1, k2m2, k2m3]
  instanceTypes := #[.int, (.array .int)]
  staticTypes := #[(.array .int)]
  resolved := Array.replicate 69 none
  statics := some 0 }

def pool3 : Array CpInfo := pool [(1, .class_ 2), (0, u "java/lang/Math"), (1, .class_ 6), (1, u "java/lang/Object"), (0, u "<init>"), (0, u "()V"), (89, .class_ 100), (1, u "java/lang/Math$RandomNumberGeneratorHolder"), (20, u "(JJ)J"), (50, u "negativeZeroFloatBits"), (0, u "J"), (2, u "negativeZeroDoubleBits"), (21, u "max"), (2, u "min"), (43, u "$assertionsDisabled"), (0, u "Z"), (88, u "(II)I"), (2, u "twoToTheDoubleScaleDown"), (0, u "D"), (4, u "twoToTheDoubleScaleUp"), (9, u "E"), (3, u "PI"), (2, u "TAU"), (2, u "DEGREES_TO_RADIANS"), (0, u "RADIANS_TO_DEGREES")] 94

def k3m0 : Method := { name := "<init>", desc := "()V", sig := { parameters := [], returnType := none }, accessFlags := 2, code := none }
def k3c1 : Code := { maxStack := 4, maxLocals := 4, code := jdk_29_method_66_code, exceptionTable := #[], attributes := #[] }
def k3m1 : Method := { name := "max", desc := "(JJ)J", sig := { parameters := [.long, .long], returnType := some .long }, accessFlags := 9, code := some k3c1 }
def k3c2 : Code := { maxStack := 2, maxLocals := 2, code := jdk_29_method_69_code, exceptionTable := #[], attributes := #[] }
def k3m2 : Method := { name := "min", desc := "(II)I", sig := { parameters := [.int, .int], returnType := some .int }, accessFlags := 9, code := some k3c2 }
def k3c3 : Code := { maxStack := 4, maxLocals := 4, code := jdk_29_method_70_code, exceptionTable := #[], attributes := #[] }
def k3m3 : Method := { name := "min", desc := "(JJ)J", sig := { parameters := [.long, .long], returnType := some .long }, accessFlags := 9, code := some k3c3 }
/-- java/lang/Math -/
def k3 : Class := { plain "java/lang/Math" (some 0) with
  accessFlags := 49
  interfaces := #[]
  cf := some (fileOf pool3 1 #[.nestMembers #[98]] #[{ accessFlags := 2, nameIndex := 7, descriptorIndex := 8, attributes := #[] }, { accessFlags := 9, nameIndex := 198, descriptorIndex := 121, attributes := #[] }, { accessFlags := 9, nameIndex := 201, descriptorIndex := 335, attributes := #[] }, { accessFlags := 9, nameIndex := 201, descriptorIndex := 121, attributes := #[] }] 49 4 #[] #[{ accessFlags := 25, nameIndex := 354, descriptorIndex := 339, attributes := #[] }, { accessFlags := 25, nameIndex := 358, descriptorIndex := 339, attributes := #[] }, { accessFlags := 25, nameIndex := 361, descriptorIndex := 339, attributes := #[] }, { accessFlags := 26, nameIndex := 364, descriptorIndex := 339, attributes := #[] }, { accessFlags := 26, nameIndex := 365, descriptorIndex := 339, attributes := #[] }, { accessFlags := 26, nameIndex := 172, descriptorIndex := 173, attributes := #[] }, { accessFlags := 26, nameIndex := 176, descriptorIndex := 173, attributes := #[] }, { accessFlags := 8, nameIndex := 344, descriptorIndex := 339, attributes := #[] }, { accessFlags := 8, nameIndex := 338, descriptorIndex := 339, attributes := #[] }, { accessFlags := 4120, nameIndex := 245, descriptorIndex := 246, attributes := #[] }])
  fields := #[{ name := "E", type := .double, accessFlags := 25, slot := 0, constantValue := 0 }, { name := "PI", type := .double, accessFlags := 25, slot := 1, constantValue := 0 }, { name := "TAU", type := .double, accessFlags := 25, slot := 2, constantValue := 0 }, { name := "DEGREES_TO_RADIANS", type := .double, accessFlags := 26, slot := 3, constantValue := 0 }, { name := "RADIANS_TO_DEGREES", type := .double, accessFlags := 26, slot := 4, constantValue := 0 }, { name := "negativeZeroFloatBits", type := .long, accessFlags := 26, slot := 5, constantValue := 0 }, { name := "negativeZeroDoubleBits", type := .long, accessFlags := 26, slot := 6, constantValue := 0 }, { name := "twoToTheDoubleScaleUp", type := .double, accessFlags := 8, slot := 7, constantValue := 0 }, { name := "twoToTheDoubleScaleDown", type := .double, accessFlags := 8, slot := 8, constantValue := 0 }, { name := "$assertionsDisabled", type := .boolean, accessFlags := 4120, slot := 9, constantValue := 0 }]
  methods := #[k3m0, k3m1, k3m2, k3m3]
  instanceTypes := #[]
  staticTypes := #[.double, .double, .double, .double, .double, .long, .long, .double, .double, .boolean]
  resolved := Array.replicate 460 none
  statics := none }

def pool4 : Array CpInfo := pool [(2, .class_ 4), (1, u "java/lang/Object"), (0, u "<init>"), (0, u "()V"), (5, u "([IIII)V"), (0, .methodref 14 15), (0, .class_ 16), (0, .nameAndType 17 18), (0, u "java/util/Arrays"), (0, u "rangeCheck"), (0, u "(III)V"), (55, .class_ 76), (1, u "java/util/Arrays$NaturalOrder"), (36, .class_ 115), (1, u "java/util/Arrays$LegacyMergeSort"), (1, u "Z"), (32, .methodref 151 152), (0, .class_ 153), (0, .nameAndType 154 155), (0, u "java/lang/System"), (0, u "arraycopy"), (0, u "(Ljava/lang/Object;ILjava/lang/Object;II)V"), (146, u "copyOf"), (1, .methodref 305 306), (0, .class_ 307), (0, .nameAndType 308 309), (0, u "java/lang/Math"), (0, u "min"), (0, u "(II)I"), (65, .class_ 376), (0, u "java/util/Arrays$ArrayList"), (68, u "$assertionsDisabled"), (269, u "MIN_ARRAY_SORT_GRAN"), (0, u "I"), (2, u "INSERTIONSORT_THRESHOLD"), (120, u "fill"), (30, u "([II)[I"), (103, .class_ 976), (0, u "java/util/Arrays$ArrayItr")] 52

def k4m0 : Method := { name := "<init>", desc := "()V", sig := { parameters := [], returnType := none }, accessFlags := 2, code := none }
def k4c1 : Code := { maxStack := 4, maxLocals := 3, code := jdk_65_method_30_code, exceptionTable := #[], attributes := #[] }
def k4m1 : Method := { name := "rangeCheck", desc := "(III)V", sig := { parameters := [.int, .int, .int], returnType := none }, accessFlags := 8, code := some k4c1 }
def k4c2 : Code := { maxStack := 3, maxLocals := 5, code := jdk_65_method_104_code, exceptionTable := #[], attributes := #[] }
def k4m2 : Method := { name := "fill", desc := "([IIII)V", sig := { parameters := [(.array .int), .int, .int, .int], returnType := none }, accessFlags := 9, code := some k4c2 }
def k4c3 : Code := { maxStack := 6, maxLocals := 3, code := jdk_65_method_123_code, exceptionTable := #[], attributes := #[] }
def k4m3 : Method := { name := "copyOf", desc := "([II)[I", sig := { parameters := [(.array .int), .int], returnType := some (.array .int) }, accessFlags := 9, code := some k4c3 }
/-- java/util/Arrays -/
def k4 : Class := { plain "java/util/Arrays" (some 0) with
  accessFlags := 49
  interfaces := #[]
  cf := some (fileOf pool4 14 #[.nestMembers #[975, 375, 113, 74]] #[{ accessFlags := 2, nameIndex := 5, descriptorIndex := 6, attributes := #[] }, { accessFlags := 8, nameIndex := 17, descriptorIndex := 18, attributes := #[] }, { accessFlags := 9, nameIndex := 840, descriptorIndex := 12, attributes := #[] }, { accessFlags := 9, nameIndex := 302, descriptorIndex := 871, attributes := #[] }] 49 2 #[] #[{ accessFlags := 26, nameIndex := 715, descriptorIndex := 716, attributes := #[] }, { accessFlags := 26, nameIndex := 719, descriptorIndex := 716, attributes := #[] }, { accessFlags := 4120, nameIndex := 445, descriptorIndex := 117, attributes := #[] }])
  fields := #[{ name := "MIN_ARRAY_SORT_GRAN", type := .int, accessFlags := 26, slot := 0, constantValue := 0 }, { name := "INSERTIONSORT_THRESHOLD", type := .int, accessFlags := 26, slot := 1, constantValue := 0 }, { name := "$assertionsDisabled", type := .boolean, accessFlags := 4120, slot := 2, constantValue := 0 }]
  methods := #[k4m0, k4m1, k4m2, k4m3]
  instanceTypes := #[]
  staticTypes := #[.int, .int, .boolean]
  resolved := Array.replicate 1029 none
  statics := none }

def pool5 : Array CpInfo := pool [(2, .class_ 4), (1, u "java/lang/Object"), (0, u "<init>"), (0, u "()V"), (1, .class_ 10), (1, u "java/lang/System"), (0, u "allowSecurityManager"), (0, u "I"), (16, u "cons"), (0, u "Ljava/io/Console;"), (77, .class_ 110), (1, u "java/lang/System$CallersHolder"), (43, u "initialErrStream"), (0, u "Ljava/io/PrintStream;"), (19, u "security"), (0, u "Ljava/lang/SecurityManager;"), (31, .class_ 209), (0, u "java/lang/System$1"), (7, u "props"), (0, u "Ljava/util/Properties;"), (2, u "lineSeparator"), (0, u "Ljava/lang/String;"), (96, .class_ 321), (1, u "java/lang/System$LoggerFinder"), (5, .class_ 328), (0, u "java/lang/System$Logger"), (67, u "err"), (2, u "out"), (91, u "notSupportedJnuEncoding"), (15, u "in"), (17, u "initialIn"), (0, u "Ljava/io/InputStream;"), (35, u "bootLayer"), (0, u "Ljava/lang/ModuleLayer;"), (99, .class_ 664), (0, u "java/lang/System$2"), (9, u "NEVER"), (2, u "MAYBE"), (49, u "arraycopy"), (0, u "(Ljava/lang/Object;ILjava/lang/Object;II)V"), (72, .class_ 802), (0, u "java/lang/System$Logger$Level")] 31

def k5m0 : Method := { name := "<init>", desc := "()V", sig := { parameters := [], returnType := none }, accessFlags := 2, code := none }
def k5m1 : Method := { name := "arraycopy", desc := "(Ljava/lang/Object;ILjava/lang/Object;II)V", sig := { parameters := [(.object "java/lang/Object"), .int, (.object "java/lang/Object"), .int, .int], returnType := none }, accessFlags := 265, code := none }
/-- java/lang/System -/
def k5 : Class := { plain "java/lang/System" (some 0) with
  accessFlags := 49
  interfaces := #[]
  cf := some (fileOf pool5 8 #[.nestMembers #[319, 327, 801, 108, 663, 208]] #[{ accessFlags := 2, nameIndex := 5, descriptorIndex := 6, attributes := #[] }, { accessFlags := 265, nameIndex := 727, descriptorIndex := 728, attributes := #[] }] 49 2 #[] #[{ accessFlags := 25, nameIndex := 507, descriptorIndex := 526, attributes := #[] }, { accessFlags := 25, nameIndex := 399, descriptorIndex := 155, attributes := #[] }, { accessFlags := 25, nameIndex := 396, descriptorIndex := 155, attributes := #[] }, { accessFlags := 10, nameIndex := 525, descriptorIndex := 526, attributes := #[] }, { accessFlags := 26, nameIndex := 674, descriptorIndex := 12, attributes := #[] }, { accessFlags := 26, nameIndex := 677, descriptorIndex := 12, attributes := #[] }, { accessFlags := 10, nameIndex := 11, descriptorIndex := 12, attributes := #[] }, { accessFlags := 74, nameIndex := 175, descriptorIndex := 176, attributes := #[] }, { accessFlags := 10, nameIndex := 491, descriptorIndex := 222, attributes := #[] }, { accessFlags := 74, nameIndex := 29, descriptorIndex := 30, attributes := #[] }, { accessFlags := 74, nameIndex := 154, descriptorIndex := 155, attributes := #[] }, { accessFlags := 10, nameIndex := 217, descriptorIndex := 218, attributes := #[] }, { accessFlags := 10, nameIndex := 221, descriptorIndex := 222, attributes := #[] }, { accessFlags := 8, nameIndex := 562, descriptorIndex := 563, attributes := #[] }])
  fields := #[{ name := "in", type := (.object "java/io/InputStream"), accessFlags := 25, slot := 0, constantValue := 0 }, { name := "out", type := (.object "java/io/PrintStream"), accessFlags := 25, slot := 1, constantValue := 0 }, { name := "err", type := (.object "java/io/PrintStream"), accessFlags := 25, slot := 2, constantValue := 0 }, { name := "initialIn", type := (.object "java/io/InputStream"), accessFlags := 10, slot := 3, constantValue := 0 }, { name := "NEVER", type := .int, accessFlags := 26, slot := 4, constantValue := 0 }, { name := "MAYBE", type := .int, accessFlags := 26, slot := 5, constantValue := 0 }, { name := "allowSecurityManager", type := .int, accessFlags := 10, slot := 6, constantValue := 0 }, { name := "security", type := (.object "java/lang/SecurityManager"), accessFlags := 74, slot := 7, constantValue := 0 }, { name := "notSupportedJnuEncoding", type := (.object "java/lang/String"), accessFlags := 10, slot := 8, constantValue := 0 }, { name := "cons", type := (.object "java/io/Console"), accessFlags := 74, slot := 9, constantValue := 0 }, { name := "initialErrStream", type := (.object "java/io/PrintStream"), accessFlags := 74, slot := 10, constantValue := 0 }, { name := "props", type := (.object "java/util/Properties"), accessFlags := 10, slot := 11, constantValue := 0 }, { name := "lineSeparator", type := (.object "java/lang/String"), accessFlags := 10, slot := 12, constantValue := 0 }, { name := "bootLayer", type := (.object "java/lang/ModuleLayer"), accessFlags := 8, slot := 13, constantValue := 0 }]
  methods := #[k5m0, k5m1]
  instanceTypes := #[]
  staticTypes := #[(.object "java/io/InputStream"), (.object "java/io/PrintStream"), (.object "java/io/PrintStream"), (.object "java/io/InputStream"), .int, .int, .int, (.object "java/lang/SecurityManager"), (.object "java/lang/String"), (.object "java/io/Console"), (.object "java/io/PrintStream"), (.object "java/util/Properties"), (.object "java/lang/String"), (.object "java/lang/ModuleLayer")]
  resolved := Array.replicate 834 none
  statics := none }

def pool6 : Array CpInfo := pool [(1, u "java/lang/Cloneable"), (0, .class_ 1), (0, u "java/lang/Object"), (0, .class_ 3)] 3

/-- java/lang/Cloneable -/
def k6 : Class := { plain "java/lang/Cloneable" (some 0) with
  accessFlags := 1537
  interfaces := #[]
  cf := some (fileOf pool6 2 #[] #[] 1537 4 #[] #[])
  fields := #[]
  methods := #[]
  instanceTypes := #[]
  staticTypes := #[]
  resolved := Array.replicate 8 none
  statics := none }

def pool7 : Array CpInfo := pool [(1, u "java/io/Serializable"), (0, .class_ 1), (0, u "java/lang/Object"), (0, .class_ 3)] 3

/-- java/io/Serializable -/
def k7 : Class := { plain "java/io/Serializable" (some 0) with
  accessFlags := 1537
  interfaces := #[]
  cf := some (fileOf pool7 2 #[] #[] 1537 4 #[] #[])
  fields := #[]
  methods := #[]
  instanceTypes := #[]
  staticTypes := #[]
  resolved := Array.replicate 8 none
  statics := none }

/-- the primitive byte -/
def k8 : Class := { plain "byte" none with kind := .primitive 'B', accessFlags := 0x411 }
/-- [B -/
def k9 : Class := { plain "[B" (some 0) with kind := .array 8 .byte, interfaces := #[6, 7], accessFlags := 1041 }

/-- the primitive int -/
def k10 : Class := { plain "int" none with kind := .primitive 'I', accessFlags := 0x411 }
/-- [I -/
def k11 : Class := { plain "[I" (some 0) with kind := .array 10 .int, interfaces := #[6, 7], accessFlags := 1041 }

def heap : Heap := #[{ cls := 2, slots := #[.ref 1], vm := .statics 2 },
  { cls := 11, slots := #[], vm := .none }]
def classes : Array Class := #[k0, k1, k2, k3, k4, k5, k6, k7, k8, k9, k10, k11]
def interned : List (Array UInt16 × Addr) := []
def slotsUsed : Nat := 1
def theMethod : MethodId := ⟨1, 1⟩
def args0 : Array Value := #[.int 5, .int 3, .int 7, .int 9, .int 9, .int 9]
def aboutOver (below : List Frame) : State where
  vm := { classes := classes, interned := interned.toArray }
  heap := heap
  slotsUsed := slotsUsed
  threads := #[{ frames := .invoking theMethod args0 :: below }]
def below0 : List Frame := [.native { method := ⟨0, 0⟩, args := #[] }]
def about1 : State := aboutOver below0
def p0 : Program := .bare "" "" ""
def e0 : Env := launch0.env 0 0 0
theorem w_frames : about1.frames = Frame.invoking theMethod args0 :: below0 := rfl
set_option maxRecDepth 65536 in
theorem w_args : argsFit about1.vm theMethod args0 = true := by decide +kernel
set_option maxRecDepth 65536 in
theorem w_heap : heapFits about1 = true := by decide +kernel
set_option maxRecDepth 65536 in
theorem w_runnable : about1.curStatus? = some .runnable := by decide +kernel
set_option maxRecDepth 65536 in
theorem w_alone : about1.alone = true := by decide +kernel
set_option maxRecDepth 65536 in
theorem w_named : about1.methodNamed? x = some theMethod := by decide +kernel
set_option maxRecDepth 65536 in
theorem w_hears : about1.hears theMethod below0 = true := by decide +kernel
set_option maxRecDepth 65536 in
theorem w_ripe : about1.ripe theMethod args0 below0 = true := by decide +kernel
theorem w_running : about1.status = .running := rfl
set_option maxRecDepth 65536 in
theorem w_room : about1.hasRoom e0.platform room_1 = true :=
  launch0.hasRoom_least _ room_1 (by decide +kernel) (by decide +kernel) (by decide +kernel) (by decide +kernel) (by decide +kernel) (by decide +kernel)
theorem allAtoms_all (ts : List Jvm.Cond) (a : Array Jvm.Value) (st : Jvm.State) : (allAtoms ts).before a st = ts.all (fun c => c.before a st) := by
  induction ts with
  | nil => rfl
  | cons c t ih =>
    show (Jvm.Cond.and c (allAtoms t)).before a st = _
    rw [Jvm.Cond.before_and, ih, List.all_cons]
def words1 : List Jvm.Cond := Jvm.Cond.code x code maxLocals ret :: tables_1
/-- a 'code' word, met by the world's own term for the bytes: nothing is compared byte by byte -/
theorem code_word {y : MethodName} {bytes : ByteArray} {mx : Nat} {rt : Option FieldType} {a : Array Value} {s : State} {m : MethodId} {meth : Method} {c : Code} (h1 : s.methodNamed? y = some m) (h2 : s.vm.method? m = some meth) (h3 : meth.code = some c) (h4 : c.code = bytes)
    (h5 : (c.maxLocals == mx && c.exceptionTable.isEmpty && decide (c.maxStack ≤ mostOperands) && decide (meth.sig.returnType = rt) && !meth.locks && decide (parseMethodDescriptor y.desc = some meth.sig)) = true) : (Jvm.Cond.code y bytes mx rt).before a s = true := by
  simp only [Bool.and_eq_true, beq_iff_eq, Bool.not_eq_true', decide_eq_true_eq] at h5
  obtain ⟨⟨⟨⟨⟨g1, g2⟩, g3⟩, g4⟩, g5⟩, g6⟩ := h5
  simp [Cond.before, Cond.holds, Cond.value, h1, h2, h3, h4, g1, g2, g3, g4, g5, g6]
def isCode : Jvm.Cond → Bool
  | .code _ _ _ _ => true
  | _ => false
theorem all_split {L : List Jvm.Cond} {P : Jvm.Cond → Bool} (h1 : L.all (fun c => isCode c || P c) = true) (h2 : ∀ c ∈ L.filter isCode, P c = true) : L.all P = true := by
  refine List.all_eq_true.mpr fun c hc => ?_
  have h := List.all_eq_true.mp h1 c hc
  rcases Bool.eq_false_or_eq_true (isCode c) with hi | hi
  · exact h2 c (List.mem_filter.mpr ⟨hc, hi⟩)
  · simpa [hi] using h
set_option maxRecDepth 65536 in
theorem w_c0 : (Jvm.Cond.code x code maxLocals ret).before args0 about1 = true := code_word (m := ⟨1, 1⟩) (meth := k1m1) (c := k1c1) (by decide +kernel) rfl rfl rfl (by decide +kernel)
set_option maxRecDepth 65536 in
theorem w_c1 : (Jvm.Cond.code ({ cls := "com/example/fixpoint_checker/fixpointchecker/formula/IntColumn", name := "<init>", desc := "(I)V" } : Jvm.MethodName) prog_71_method_1_code (2 : Nat) (Option.none : Option Jvm.ClassFile.FieldType)).before args0 about1 = true := code_word (m := ⟨2, 0⟩) (meth := k2m0) (c := k2c0) (by decide +kernel) rfl rfl rfl (by decide +kernel)
set_option maxRecDepth 65536 in
theorem w_c2 : (Jvm.Cond.code ({ cls := "java/lang/Object", name := "<init>", desc := "()V" } : Jvm.MethodName) object_method_1_code (1 : Nat) (Option.none : Option Jvm.ClassFile.FieldType)).before args0 about1 = true := code_word (m := ⟨0, 0⟩) (meth := k0m0) (c := k0c0) (by decide +kernel) rfl rfl rfl (by decide +kernel)
set_option maxRecDepth 65536 in
theorem w_c3 : (Jvm.Cond.code ({ cls := "com/example/fixpoint_checker/fixpointchecker/formula/IntColumn", name := "get", desc := "(I)I" } : Jvm.MethodName) prog_71_method_2_code (2 : Nat) (Option.some Jvm.ClassFile.FieldType.int)).before args0 about1 = true := code_word (m := ⟨2, 1⟩) (meth := k2m1) (c := k2c1) (by decide +kernel) rfl rfl rfl (by decide +kernel)
set_option maxRecDepth 65536 in
theorem w_c4 : (Jvm.Cond.code ({ cls := "com/example/fixpoint_checker/fixpointchecker/formula/IntColumn", name := "set", desc := "(II)V" } : Jvm.MethodName) prog_71_method_3_code (3 : Nat) (Option.none : Option Jvm.ClassFile.FieldType)).before args0 about1 = true := code_word (m := ⟨2, 2⟩) (meth := k2m2) (c := k2c2) (by decide +kernel) rfl rfl rfl (by decide +kernel)
set_option maxRecDepth 65536 in
theorem w_c5 : (Jvm.Cond.code ({ cls := "com/example/fixpoint_checker/fixpointchecker/formula/IntColumn", name := "grow", desc := "(I)V" } : Jvm.MethodName) prog_71_method_5_code (4 : Nat) (Option.none : Option Jvm.ClassFile.FieldType)).before args0 about1 = true := code_word (m := ⟨2, 3⟩) (meth := k2m3) (c := k2c3) (by decide +kernel) rfl rfl rfl (by decide +kernel)
set_option maxRecDepth 65536 in
theorem w_c6 : (Jvm.Cond.code ({ cls := "java/lang/Math", name := "max", desc := "(JJ)J" } : Jvm.MethodName) jdk_29_method_66_code (4 : Nat) (Option.some Jvm.ClassFile.FieldType.long)).before args0 about1 = true := code_word (m := ⟨3, 1⟩) (meth := k3m1) (c := k3c1) (by decide +kernel) rfl rfl rfl (by decide +kernel)
set_option maxRecDepth 65536 in
theorem w_c7 : (Jvm.Cond.code ({ cls := "java/lang/Math", name := "min", desc := "(JJ)J" } : Jvm.MethodName) jdk_29_method_70_code (4 : Nat) (Option.some Jvm.ClassFile.FieldType.long)).before args0 about1 = true := code_word (m := ⟨3, 3⟩) (meth := k3m3) (c := k3c3) (by decide +kernel) rfl rfl rfl (by decide +kernel)
set_option maxRecDepth 65536 in
theorem w_c8 : (Jvm.Cond.code ({ cls := "java/util/Arrays", name := "copyOf", desc := "([II)[I" } : Jvm.MethodName) jdk_65_method_123_code (3 : Nat) (Option.some (Jvm.ClassFile.FieldType.array Jvm.ClassFile.FieldType.int))).before args0 about1 = true := code_word (m := ⟨4, 3⟩) (meth := k4m3) (c := k4c3) (by decide +kernel) rfl rfl rfl (by decide +kernel)
set_option maxRecDepth 65536 in
theorem w_c9 : (Jvm.Cond.code ({ cls := "java/lang/Math", name := "min", desc := "(II)I" } : Jvm.MethodName) jdk_29_method_69_code (2 : Nat) (Option.some Jvm.ClassFile.FieldType.int)).before args0 about1 = true := code_word (m := ⟨3, 2⟩) (meth := k3m2) (c := k3c2) (by decide +kernel) rfl rfl rfl (by decide +kernel)
set_option maxRecDepth 65536 in
theorem w_c10 : (Jvm.Cond.code ({ cls := "java/util/Arrays", name := "fill", desc := "([IIII)V" } : Jvm.MethodName) jdk_65_method_104_code (5 : Nat) (Option.none : Option Jvm.ClassFile.FieldType)).before args0 about1 = true := code_word (m := ⟨4, 2⟩) (meth := k4m2) (c := k4c2) (by decide +kernel) rfl rfl rfl (by decide +kernel)
set_option maxRecDepth 65536 in
theorem w_c11 : (Jvm.Cond.code ({ cls := "java/util/Arrays", name := "rangeCheck", desc := "(III)V" } : Jvm.MethodName) jdk_65_method_30_code (3 : Nat) (Option.none : Option Jvm.ClassFile.FieldType)).before args0 about1 = true := code_word (m := ⟨4, 1⟩) (meth := k4m1) (c := k4c1) (by decide +kernel) rfl rfl rfl (by decide +kernel)
def codes1 : List Jvm.Cond := [Jvm.Cond.code x code maxLocals ret, Jvm.Cond.code ({ cls := "com/example/fixpoint_checker/fixpointchecker/formula/IntColumn", name := "<init>", desc := "(I)V" } : Jvm.MethodName) prog_71_method_1_code (2 : Nat) (Option.none : Option Jvm.ClassFile.FieldType), Jvm.Cond.code ({ cls := "java/lang/Object", name := "<init>", desc := "()V" } : Jvm.MethodName) object_method_1_code (1 : Nat) (Option.none : Option Jvm.ClassFile.FieldType), Jvm.Cond.code ({ cls := "com/example/fixpoint_checker/fixpointchecker/formula/IntColumn", name := "get", desc := "(I)I" } : Jvm.MethodName) prog_71_method_2_code (2 : Nat) (Option.some Jvm.ClassFile.FieldType.int), Jvm.Cond.code ({ cls := "com/example/fixpoint_checker/fixpointchecker/formula/IntColumn", name := "set", desc := "(II)V" } : Jvm.MethodName) prog_71_method_3_code (3 : Nat) (Option.none : Option Jvm.ClassFile.FieldType), Jvm.Cond.code ({ cls := "com/example/fixpoint_checker/fixpointchecker/formula/IntColumn", name := "grow", desc := "(I)V" } : Jvm.MethodName) prog_71_method_5_code (4 : Nat) (Option.none : Option Jvm.ClassFile.FieldType), Jvm.Cond.code ({ cls := "java/lang/Math", name := "max", desc := "(JJ)J" } : Jvm.MethodName) jdk_29_method_66_code (4 : Nat) (Option.some Jvm.ClassFile.FieldType.long), Jvm.Cond.code ({ cls := "java/lang/Math", name := "min", desc := "(JJ)J" } : Jvm.MethodName) jdk_29_method_70_code (4 : Nat) (Option.some Jvm.ClassFile.FieldType.long), Jvm.Cond.code ({ cls := "java/util/Arrays", name := "copyOf", desc := "([II)[I" } : Jvm.MethodName) jdk_65_method_123_code (3 : Nat) (Option.some (Jvm.ClassFile.FieldType.array Jvm.ClassFile.FieldType.int)), Jvm.Cond.code ({ cls := "java/lang/Math", name := "min", desc := "(II)I" } : Jvm.MethodName) jdk_29_method_69_code (2 : Nat) (Option.some Jvm.ClassFile.FieldType.int), Jvm.Cond.code ({ cls := "java/util/Arrays", name := "fill", desc := "([IIII)V" } : Jvm.MethodName) jdk_65_method_104_code (5 : Nat) (Option.none : Option Jvm.ClassFile.FieldType), Jvm.Cond.code ({ cls := "java/util/Arrays", name := "rangeCheck", desc := "(III)V" } : Jvm.MethodName) jdk_65_method_30_code (3 : Nat) (Option.none : Option Jvm.ClassFile.FieldType)]
set_option maxRecDepth 65536 in
theorem codes_eq : words1.filter isCode = codes1 := rfl
theorem w_codes : ∀ c ∈ words1.filter isCode, c.before args0 about1 = true := by
  rw [codes_eq]
  intro c hc
  simp only [codes1, List.mem_cons, List.not_mem_nil, or_false] at hc
  rcases hc with rfl | rfl | rfl | rfl | rfl | rfl | rfl | rfl | rfl | rfl | rfl | rfl
  · exact w_c0
  · exact w_c1
  · exact w_c2
  · exact w_c3
  · exact w_c4
  · exact w_c5
  · exact w_c6
  · exact w_c7
  · exact w_c8
  · exact w_c9
  · exact w_c10
  · exact w_c11
set_option maxRecDepth 65536 in
theorem w_t1 : (words1.take 24).all (fun c => isCode c || c.before args0 about1) = true := by decide +kernel
set_option maxRecDepth 65536 in
theorem w_t2 : ((words1.drop 24).take 24).all (fun c => isCode c || c.before args0 about1) = true := by decide +kernel
set_option maxRecDepth 65536 in
theorem w_t3 : ((words1.drop 24).drop 24).all (fun c => isCode c || c.before args0 about1) = true := by decide +kernel
theorem w_tables : (allAtoms (Jvm.Cond.code x code maxLocals ret :: tables_1)).before args0 about1 = true := by
  rw [allAtoms_all]
  show words1.all (fun c => c.before args0 about1) = true
  refine all_split ?_ w_codes
  rw [← List.take_append_drop 24 words1, List.all_append, w_t1, ← List.take_append_drop 24 (words1.drop 24), List.all_append, w_t2, w_t3]
  rfl
set_option maxRecDepth 65536 in
theorem w_case : (Jvm.Cond.and given_1 narrow_1).before args0 about1 = true := by decide +kernel
theorem w_applies : (headSpec (Jvm.Cond.code x code maxLocals ret :: tables_1) room_1).applies x e0.platform about1 = true :=
  (Spec.applies_iff w_frames).mpr ⟨w_running, w_runnable, w_alone, w_named, w_hears, w_ripe, w_room, w_tables⟩
theorem atStart : AtStart classFile x code maxLocals ret World_1 tables_1 room_1 Calls_1 rest_1 Pre_1 launch0 p0 e0 about1 theMethod args0 below0 :=
  ⟨lists_1, trivial, launch0.admits_env _ _ _, launch0.least_env, fairChoices_fair.cas, fairChoices_fair.clock, w_frames, w_args, w_heap, w_applies, trivial, trivial, w_case⟩
end start1
theorem witness_1 : WitnessClaimed_1 := ⟨start1.p0, start1.e0, start1.about1, start1.theMethod, start1.args0, start1.below0, start1.atStart⟩
end Jvm.Pilot.@@N@@
