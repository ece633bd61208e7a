import JvmDerived
import JvmDerived.Pilot.@@N@@Statement
import JvmDerived.Pilot.@@N@@Code
set_option linter.unusedVariables false
set_option linter.unusedSimpArgs false
namespace Jvm.Pilot.@@N@@
open Jvm Jvm.ClassFile Sem Op Lib Jvm.Free Jvm.Stand Jvm.LawKit Jvm.RoadKit Bundle Jvm.Pilot.@@N@@.Jvm.D
section OwnKit
variable {p : Program} {l : Launch} {e : Env} {R : Room} {s : State} {m : MethodId} {args : Array Value} {below : List Frame} {meth : Method} {c : Code} {T : State} {locs : List Loc} {cells slots : Nat} {Z : State} {a0 : Array Value} {h : Heap} {ce sl : Nat} {Q : Option Value → Heap → List Loc → Prop} {S : State}
/-- a contract's last word, under a name of its own -/
def OQ (Q : Option Value → Heap → List Loc → Prop) (v : Option Value) (h : Heap) (L : List Loc) : Prop := Q v h L
theorem own_q {z r : Int32} (hr : z = r) (eT : T.heap = h) (hQ : Q (some (.int r)) h locs) : Q (some (.int z)) T.heap locs := by subst hr; rw [eT]; exact hQ
theorem own_qJ {z r : Int64} (hr : z = r) (eT : T.heap = h) (hQ : Q (some (.long r)) h locs) : Q (some (.long z)) T.heap locs := by subst hr; rw [eT]; exact hQ
/-- from S the body runs to its return, and leaves what Q says -/
def OFin (p : Program) (e : Env) (below : List Frame) (s : State) (ce sl : Nat) (Q : Option Value → Heap → List Loc → Prop) (S : State) : Prop :=
  ∃ (t : State) (o : Outcome), Steps p.tables e below S t ∧ t.status = .running ∧ Ended t below o ∧ ∃ v L, o = .returned v ∧ Q v t.heap L ∧ FrameEnd s o t L ce sl
theorem OFin.start {S' : State} (st : ∀ target, Steps p.tables e below S' target → Steps p.tables e below S target) (k : OFin p e below s ce sl Q S') :
    ∃ (t : State) (o : Outcome), Steps p.tables e below S t ∧ t.status = .running ∧ Ended t below o ∧ ∃ v L, o = .returned v ∧ Q v t.heap L ∧ FrameEnd s o t L ce sl := by
  obtain ⟨t, o, h, r⟩ := k
  exact ⟨t, o, st _ h, r⟩
theorem OFin.to (S' : State) (st : ∀ target, Steps p.tables e below S' target → Steps p.tables e below S target) (k : OFin p e below s ce sl Q S') : OFin p e below s ce sl Q S := OFin.start st k
theorem OFin.via (S' : State) (st : Steps p.tables e below S S') (k : OFin p e below s ce sl Q S') : OFin p e below s ce sl Q S := OFin.start (fun _ h => st.trans h) k
theorem OFin.mono {Q' : Option Value → Heap → List Loc → Prop} (k : OFin p e below s ce sl Q' S) (h : ∀ v h L, Q' v h L → Q v h L) : OFin p e below s ce sl Q S := by
  obtain ⟨t, o, h1, h2, h3, v, L, h4, h5, h6⟩ := k
  exact ⟨t, o, h1, h2, h3, v, L, h4, h _ _ _ h5, h6⟩
theorem OFin.retZ (X : Stand p l e R s m args below meth c T locs cells slots) (hx : p.tables.exec = Jvm.exec) {t : FieldType} (hret : meth.sig.returnType = some t) (ht : t = .boolean ∨ t = .byte ∨ t = .char ∨ t = .short) (hlk : meth.locks = false) {pc : Nat} {Ls : Array Slot} {z : Int32} {rest : List Value}
    (hd : decode c.code pc = .ok (.ireturn, 1)) (hc : cells ≤ ce) (hs : slots ≤ sl) (hQ : Q (some (.int (nar t z))) T.heap locs) : OFin p e below s ce sl Q (T.setTop (mkF m pc Ls (.int z :: rest))) := by
  obtain ⟨fs, hr, hrun, hended, hW, hsame⟩ := X.leave (v := some (.int (nar t z))) (fun h => by rw [hret] at h; cases h) hlk
  exact ⟨_, _, retN X hx hret ht hd hr, hrun, hended, _, _, rfl, hQ, ⟨_, rfl⟩, hW, hsame.mono hc hs⟩
theorem OFin.retI (X : Stand p l e R s m args below meth c T locs cells slots) (hx : p.tables.exec = Jvm.exec) (hret : meth.sig.returnType = some .int) (hlk : meth.locks = false) {pc : Nat} {Ls : Array Slot} {z : Int32} {rest : List Value}
    (hd : decode c.code pc = .ok (.ireturn, 1)) (hc : cells ≤ ce) (hs : slots ≤ sl) (hQ : Q (some (.int z)) T.heap locs) : OFin p e below s ce sl Q (T.setTop (mkF m pc Ls (.int z :: rest))) := by
  obtain ⟨fs, hr, hrun, hended, hW, hsame⟩ := X.leave (v := some (.int z)) (fun h => by rw [hret] at h; cases h) hlk
  refine ⟨_, _, ?_, hrun, hended, _, _, rfl, hQ, ⟨_, rfl⟩, hW, hsame.mono hc hs⟩
  have hm' : T.vm.method? m = some meth := X.method'
  have hn : narrow .int (.int z) = .int z := rfl
  show Steps p.tables e below (T.setTop { method := m, pc := pc, locals := Ls, stack := _ :: rest, locked := none }) _
  jvm_step X.here [X.here.top, hx, hd, hm', hret, hn]
  first | (intro acts; rw [hr _ acts rfl rfl rfl]) | rw [hr _ _ rfl rfl rfl]
  exact Steps.refl _
theorem OFin.retJ (X : Stand p l e R s m args below meth c T locs cells slots) (hx : p.tables.exec = Jvm.exec) (hret : meth.sig.returnType = some .long) (hlk : meth.locks = false) {pc : Nat} {Ls : Array Slot} {z : Int64} {rest : List Value}
    (hd : decode c.code pc = .ok (.lreturn, 1)) (hc : cells ≤ ce) (hs : slots ≤ sl) (hQ : Q (some (.long z)) T.heap locs) : OFin p e below s ce sl Q (T.setTop (mkF m pc Ls (.long z :: rest))) := by
  obtain ⟨fs, hr, hrun, hended, hW, hsame⟩ := X.leave (v := some (.long z)) (fun h => by rw [hret] at h; cases h) hlk
  refine ⟨_, _, ?_, hrun, hended, _, _, rfl, hQ, ⟨_, rfl⟩, hW, hsame.mono hc hs⟩
  have hm' : T.vm.method? m = some meth := X.method'
  show Steps p.tables e below (T.setTop { method := m, pc := pc, locals := Ls, stack := _ :: rest, locked := none }) _
  jvm_step X.here [X.here.top, hx, hd, hm', hret, narrow]
  first | (intro acts; rw [hr _ acts rfl rfl rfl]) | rw [hr _ _ rfl rfl rfl]
  exact Steps.refl _
theorem OFin.retV (X : Stand p l e R s m args below meth c T locs cells slots) (hx : p.tables.exec = Jvm.exec) (hret : meth.sig.returnType = none) (hlk : meth.locks = false) {pc : Nat} {Ls : Array Slot}
    (hd : decode c.code pc = .ok (.return_, 1)) (hc : cells ≤ ce) (hs : slots ≤ sl) (hQ : Q none T.heap locs) : OFin p e below s ce sl Q (T.setTop (mkF m pc Ls [])) := by
  obtain ⟨fs, hr, hrun, hended, hW, hsame⟩ := X.leave (v := none) (fun _ => rfl) hlk
  exact ⟨_, _, X.returnOut hx hret hd hr, hrun, hended, _, _, rfl, hQ, ⟨_, rfl⟩, hW, hsame.mono hc hs⟩
/-- a static call by the callee's contract -/
theorem own_callS {y : MethodName} {bytes : ByteArray} {maxL : Nat} {ret : Option FieldType} {rm : Room} {as' : List Value} {QQ : Option Value → Heap → List Loc → Prop} {own : String} {index : Nat}
    (X : Stand p l e R s m args below meth c T locs cells slots) (hx : p.tables.exec = Jvm.exec) (hZ : Z.Warmed39 s.vm) (hown : s.vm.findClass own = some m.cls)
    (w1 : (Cond.methodLink own index y).before a0 Z = true) (w2 : (Cond.static y).before a0 Z = true) (w3 : (Cond.initialized y.cls).before a0 Z = true) (w4 : (Cond.code y bytes maxL ret).before a0 Z = true) (hy : y.cls ≠ "java/lang/invoke/MethodHandle" ∧ y.cls ≠ "java/lang/invoke/VarHandle") (eT : T.heap = h)
    (hM : MetFree l y (head1 [Cond.code y bytes maxL ret] rm) (fun a U => a = as'.toArray ∧ Z.Warmed39 U.vm ∧ U.heap = h) (fun _ _ _ _ _ => True) (fun _ U o U' => ∃ v L, o = .returned v ∧ OQ QQ v U'.heap L ∧ FrameEnd U o U' L rm.cells rm.slots))
    (W : Nat) (hf : rm.frames + 1 ≤ R.frames) (hl : W + (maxL + 11) + rm.locals ≤ R.locals) (hc : cells + rm.cells ≤ R.cells) (hs : slots + rm.slots ≤ R.slots)
    {g : JFrame} (hg : g.method = m) (hsize : g.locals.size = c.maxLocals) {rest : List Value} (hlen : ∀ sig, parseMethodDescriptor y.desc = some sig → as'.length = sig.parameters.length) (hstack : g.stack = as'.reverse ++ rest) (hW : 2 * g.monitorRoom + (rest.map fun v => v.category).sum ≤ W) (hd : decode c.code g.pc = .ok (.invokestatic index, 3)) :
    ∃ v T' L, QQ v T'.heap L ∧ Stand p l e R s m args below meth c T' (locs ++ L) (cells + rm.cells) (slots + rm.slots) ∧ ∀ target, Steps p.tables e below (T'.setTop { g with pc := g.pc + 3, stack := v.toList ++ rest }) target → Steps p.tables e below (T.setTop g) target := by
  obtain ⟨v, _, ⟨T', L1, k1, n1⟩, -, X', ⟨L, hQ, l1, y1, z1⟩, st⟩ := Jvm.LawKit.callS X hx (y := y) hown (mvT hZ w1) (mvT hZ w2) (mvT hZ w3) (mvT hZ w4) hy (backOf (W := W) (Q := OQ QQ) hM hZ w4 w3 hf hl) (g := g) hg hsize (argsL := as') (rest := rest) hlen hstack hW hd (fun _ _ => ⟨rfl, eT, hc, hs⟩)
  dsimp only [Pt.U, Pt.locs, Pt.cells, Pt.slots] at X' l1 y1 z1 st hQ
  subst l1 y1 z1
  exact ⟨v, T', L, hQ, X', st⟩
/-- a static call of a body that writes and makes nothing -/
theorem own_callSP {y : MethodName} {bytes : ByteArray} {maxL : Nat} {ret : Option FieldType} {rm : Room} {as' : List Value} {v : Value} {own : String} {index : Nat}
    (X : Stand p l e R s m args below meth c T locs cells slots) (hx : p.tables.exec = Jvm.exec) (hZ : Z.Warmed39 s.vm) (hown : s.vm.findClass own = some m.cls)
    (w1 : (Cond.methodLink own index y).before a0 Z = true) (w2 : (Cond.static y).before a0 Z = true) (w3 : (Cond.initialized y.cls).before a0 Z = true) (w4 : (Cond.code y bytes maxL ret).before a0 Z = true) (hy : y.cls ≠ "java/lang/invoke/MethodHandle" ∧ y.cls ≠ "java/lang/invoke/VarHandle") (eT : T.heap = h)
    (hM : MetFree l y (head1 [Cond.code y bytes maxL ret] rm) (fun a U => a = as'.toArray ∧ Z.Warmed39 U.vm ∧ U.heap = h) (fun _ _ _ _ _ => True) (fun _ U o U' => ∃ v' L, o = .returned v' ∧ OQ (fun v' h' L => v' = some v ∧ h' = h ∧ L = []) v' U'.heap L ∧ FrameEnd U o U' L rm.cells rm.slots))
    (hrc : rm.cells = 0) (hrs : rm.slots = 0) (W : Nat) (hf : rm.frames + 1 ≤ R.frames) (hl : W + (maxL + 11) + rm.locals ≤ R.locals) (hc : cells ≤ R.cells) (hs : slots ≤ R.slots)
    {g : JFrame} (hg : g.method = m) (hsize : g.locals.size = c.maxLocals) {rest : List Value} (hlen : ∀ sig, parseMethodDescriptor y.desc = some sig → as'.length = sig.parameters.length) (hstack : g.stack = as'.reverse ++ rest) (hW : 2 * g.monitorRoom + (rest.map fun v => v.category).sum ≤ W) (hd : decode c.code g.pc = .ok (.invokestatic index, 3)) :
    ∃ T', Stand p l e R s m args below meth c T' locs cells slots ∧ T'.heap = h ∧ ∀ target, Steps p.tables e below (T'.setTop { g with pc := g.pc + 3, stack := v :: rest }) target → Steps p.tables e below (T.setTop g) target := by
  obtain ⟨v', T', L, ⟨rfl, hh, rfl⟩, X', st⟩ := own_callS X hx hZ hown w1 w2 w3 w4 hy eT hM W hf hl (by rw [hrc]; exact hc) (by rw [hrs]; exact hs) hg hsize hlen hstack hW hd
  rw [hrc, hrs, List.append_nil] at X'
  exact ⟨T', X', hh, st⟩
theorem OFin.retA (X : Stand p l e R s m args below meth c T locs cells slots) (hx : p.tables.exec = Jvm.exec) {t : FieldType} (hret : meth.sig.returnType = some t) (ht : t.isReference = true) (hlk : meth.locks = false) {pc : Nat} {Ls : Array Slot} {a : Addr} {rest : List Value}
    (hd : decode c.code pc = .ok (.areturn, 1)) (hc : cells ≤ ce) (hs : slots ≤ sl) (hQ : Q (some (.ref a)) T.heap locs) : OFin p e below s ce sl Q (T.setTop (mkF m pc Ls (.ref a :: rest))) := by
  obtain ⟨fs, hr, hrun, hended, hW, hsame⟩ := X.leave (v := some (.ref a)) (fun h => by rw [hret] at h; cases h) hlk
  refine ⟨_, _, ?_, hrun, hended, _, _, rfl, hQ, ⟨_, rfl⟩, hW, hsame.mono hc hs⟩
  have hm' : T.vm.method? m = some meth := X.method'
  show Steps p.tables e below (T.setTop { method := m, pc := pc, locals := Ls, stack := _ :: rest, locked := none }) _
  jvm_step X.here [X.here.top, hx, hd, hm', hret, ht, Value.isRef]
  first | (intro acts; rw [hr _ acts rfl rfl rfl]) | rw [hr _ _ rfl rfl rfl]
  exact Steps.refl _
theorem own_nar0 : nar .boolean (0 : Int32) = 0 := by decide
theorem own_nar1 : nar .boolean (1 : Int32) = 1 := by decide
end OwnKit
theorem pd_0 : parseMethodDescriptor "(III)Z" = some ⟨[.int, .int, .int], some .boolean⟩ := by decide +kernel
theorem pd_1 : parseMethodDescriptor "(I)Z" = some ⟨[.int], some .boolean⟩ := by decide +kernel
theorem d3_0 : decode method_2_code 0 = .ok (.iload_n 0, 1) := by decide +kernel
theorem d3_1 : decode method_2_code 1 = .ok (.iload_n 1, 1) := by decide +kernel
theorem d3_2 : decode method_2_code 2 = .ok (.if_icmp .lt 12, 3) := by decide +kernel
theorem d3_5 : decode method_2_code 5 = .ok (.iload_n 0, 1) := by decide +kernel
theorem d3_6 : decode method_2_code 6 = .ok (.iload_n 2, 1) := by decide +kernel
theorem d3_7 : decode method_2_code 7 = .ok (.if_icmp .gt 7, 3) := by decide +kernel
theorem d3_10 : decode method_2_code 10 = .ok (.iconst 1, 1) := by decide +kernel
theorem d3_11 : decode method_2_code 11 = .ok (.goto 4, 3) := by decide +kernel
theorem d3_14 : decode method_2_code 14 = .ok (.iconst 0, 1) := by decide +kernel
theorem d3_15 : decode method_2_code 15 = .ok (.ireturn, 1) := by decide +kernel
def f3_15 (i0 : Int32) (i1 : Int32) (i2 : Int32) (t0 : Int32) : Int32 := (nar .boolean t0)
def f3_14 (i0 : Int32) (i1 : Int32) (i2 : Int32) : Int32 := (f3_15 i0 i1 i2 (0 : Int32))
def f3_0 (p0 : Int32) (p1 : Int32) (p2 : Int32) : Int32 := (if p0 < p1 then (f3_14 p0 p1 p2) else (if p2 < p0 then (f3_14 p0 p1 p2) else (f3_15 p0 p1 p2 (1 : Int32))))
set_option maxRecDepth 65536 in
set_option maxHeartbeats 40000000 in
theorem ro3_0 {p : Program} {l : Launch} {e : Env} {s : State} {m : MethodId} {args : Array Value} {below : List Frame} {meth : Method} {c : Code} {T : State} {locs : List Loc} {cells slots : Nat} {Z : State} {a0 : Array Value} {h : Heap} {ce sl : Nat} {Q : Option Value → Heap → List Loc → Prop} (p0 : Int32) (p1 : Int32) (p2 : Int32)
    (X : Stand p l e ({ frames := 0, cells := 0, slots := 0, locals := 0 } : Room) s m args below meth c T locs cells slots) (hx : p.tables.exec = Jvm.exec) (hZ : Z.Warmed39 s.vm) (hw : ∀ d ∈ tables_1, d.before a0 Z = true) (hby : c.code = method_2_code) (hml : c.maxLocals = 3) (hown : s.vm.findClass "com/example/sarana/sarana/model/XmlCharactersIsNameStartCharPinLaw" = some m.cls) (hret : meth.sig.returnType = some .boolean) (hlk : meth.locks = false) (eT : T.heap = h) (hc : cells ≤ ce) (hs : slots ≤ sl) (hcR : cells ≤ (({ frames := 0, cells := 0, slots := 0, locals := 0 } : Room)).cells) (hsR : slots ≤ (({ frames := 0, cells := 0, slots := 0, locals := 0 } : Room)).slots)
    (hQ : Q (some (.int (f3_0 p0 p1 p2))) h locs) : OFin p e below s ce sl Q (T.setTop (mkF m 0 #[.val (.int p0), .val (.int p1), .val (.int p2)] [])) := by
  obtain ⟨r, hr0⟩ : ∃ r, f3_0 p0 p1 p2 = r := ⟨_, rfl⟩
  rw [hr0] at hQ
  have B15 : ∀ (T : State) (i0 : Int32) (i1 : Int32) (i2 : Int32) (t0 : Int32), Stand p l e ({ frames := 0, cells := 0, slots := 0, locals := 0 } : Room) s m args below meth c T locs cells slots → T.heap = h → f3_15 i0 i1 i2 t0 = r → OFin p e below s ce sl Q (T.setTop (mkF m 15 #[.val (.int i0), .val (.int i1), .val (.int i2)] [(.int t0)])) := by
    intro T i0 i1 i2 t0 X eT hr
    exact OFin.retZ X hx (t := .boolean) hret (by simp) hlk (hb hby d3_15) hc hs (own_q (hr) eT hQ)
  have B14 : ∀ (T : State) (i0 : Int32) (i1 : Int32) (i2 : Int32), Stand p l e ({ frames := 0, cells := 0, slots := 0, locals := 0 } : Room) s m args below meth c T locs cells slots → T.heap = h → f3_14 i0 i1 i2 = r → OFin p e below s ce sl Q (T.setTop (mkF m 14 #[.val (.int i0), .val (.int i1), .val (.int i2)] [])) := by
    intro T i0 i1 i2 X eT hr
    refine OFin.to (T.setTop (mkF m 15 #[.val (.int i0), .val (.int i1), .val (.int i2)] [(.int (0 : Int32))])) (fun _ kt => XS.iconst X.here hx rfl (hb hby d3_14) kt) ?_
    exact B15 T i0 i1 i2 (0 : Int32) X eT hr
  have B0 : ∀ (T : State) (p0 : Int32) (p1 : Int32) (p2 : Int32), Stand p l e ({ frames := 0, cells := 0, slots := 0, locals := 0 } : Room) s m args below meth c T locs cells slots → T.heap = h → f3_0 p0 p1 p2 = r → OFin p e below s ce sl Q (T.setTop (mkF m 0 #[.val (.int p0), .val (.int p1), .val (.int p2)] [])) := by
    intro T p0 p1 p2 X eT hr
    refine OFin.to (T.setTop (mkF m 1 #[.val (.int p0), .val (.int p1), .val (.int p2)] [(.int p0)])) (fun _ kt => XS.iloadN X.here hx rfl (hb hby d3_0) rfl kt) ?_
    refine OFin.to (T.setTop (mkF m 2 #[.val (.int p0), .val (.int p1), .val (.int p2)] [(.int p1), (.int p0)])) (fun _ kt => XS.iloadN X.here hx rfl (hb hby d3_1) rfl kt) ?_
    by_cases hc2 : p0 < p1
    · have hr := (if_pos hc2).symm.trans hr
      refine OFin.to (T.setTop (mkF m 14 #[.val (.int p0), .val (.int p1), .val (.int p2)] [])) (fun _ kt => XS.icmpYes X.here hx rfl (pc0 := 2) (pc' := 14) rfl (hb hby d3_2) rfl (XT.ii_lt_t hc2) (by decide) (by decide) kt) ?_
      exact B14 T p0 p1 p2 X eT hr
    · have hr := (if_neg hc2).symm.trans hr
      refine OFin.to (T.setTop (mkF m 5 #[.val (.int p0), .val (.int p1), .val (.int p2)] [])) (fun _ kt => XS.icmpNo X.here hx rfl (hb hby d3_2) rfl (XT.ii_lt_f hc2) kt) ?_
      refine OFin.to (T.setTop (mkF m 6 #[.val (.int p0), .val (.int p1), .val (.int p2)] [(.int p0)])) (fun _ kt => XS.iloadN X.here hx rfl (hb hby d3_5) rfl kt) ?_
      refine OFin.to (T.setTop (mkF m 7 #[.val (.int p0), .val (.int p1), .val (.int p2)] [(.int p2), (.int p0)])) (fun _ kt => XS.iloadN X.here hx rfl (hb hby d3_6) rfl kt) ?_
      by_cases hc7 : p2 < p0
      · have hr := (if_pos hc7).symm.trans hr
        refine OFin.to (T.setTop (mkF m 14 #[.val (.int p0), .val (.int p1), .val (.int p2)] [])) (fun _ kt => XS.icmpYes X.here hx rfl (pc0 := 7) (pc' := 14) rfl (hb hby d3_7) rfl (XT.ii_gt_t hc7) (by decide) (by decide) kt) ?_
        exact B14 T p0 p1 p2 X eT hr
      · have hr := (if_neg hc7).symm.trans hr
        refine OFin.to (T.setTop (mkF m 10 #[.val (.int p0), .val (.int p1), .val (.int p2)] [])) (fun _ kt => XS.icmpNo X.here hx rfl (hb hby d3_7) rfl (XT.ii_gt_f hc7) kt) ?_
        refine OFin.to (T.setTop (mkF m 11 #[.val (.int p0), .val (.int p1), .val (.int p2)] [(.int (1 : Int32))])) (fun _ kt => XS.iconst X.here hx rfl (hb hby d3_10) kt) ?_
        refine OFin.to (T.setTop (mkF m 15 #[.val (.int p0), .val (.int p1), .val (.int p2)] [(.int (1 : Int32))])) (fun _ kt => XS.goto X.here hx rfl (pc0 := 11) (pc' := 15) rfl (hb hby d3_11) (by decide) (by decide) kt) ?_
        exact B15 T p0 p1 p2 (1 : Int32) X eT hr
  exact B0 T p0 p1 p2 X eT hr0
theorem pn_3 : plainName "com/example/sarana/sarana/model/XmlCharactersIsNameStartCharPinLaw" = true := by first | (simp [plainName, overriddenIn]; done) | decide +kernel
theorem ef_3 (m : MethodId) (p0 : Int32) (p1 : Int32) (p2 : Int32) : entryFrame m #[(.int p0), (.int p1), (.int p2)] 3 = mkF m 0 #[.val (.int p0), .val (.int p1), .val (.int p2)] [] := by first | (simp [entryFrame, mkF, argsToLocals, Value.category]; done) | rfl
set_option maxRecDepth 65536 in
set_option maxHeartbeats 40000000 in
theorem rm3 (l : Launch) (Z : State) (a0 : Array Value) (hw : ∀ d ∈ tables_1, d.before a0 Z = true) (ws : List Jvm.Cond) (p0 : Int32) (p1 : Int32) (p2 : Int32) (h0 : Heap) :
    MetFree l (⟨"com/example/sarana/sarana/model/XmlCharactersIsNameStartCharPinLaw", "between", "(III)Z"⟩ : MethodName) (head1 (Jvm.Cond.code (⟨"com/example/sarana/sarana/model/XmlCharactersIsNameStartCharPinLaw", "between", "(III)Z"⟩ : MethodName) method_2_code 3 (some .boolean) :: ws) ({ frames := 0, cells := 0, slots := 0, locals := 0 } : Room)) (fun a U => a = #[(.int p0), (.int p1), (.int p2)] ∧ Z.Warmed39 U.vm ∧ U.heap = h0) (fun _ _ _ _ _ => True) (fun _ U o U' => ∃ v L, o = .returned v ∧ OQ (fun v h L => v = some (.int (f3_0 p0 p1 p2)) ∧ h = h0 ∧ L = []) v U'.heap L ∧ FrameEnd U o U' L ({ frames := 0, cells := 0, slots := 0, locals := 0 } : Room).cells ({ frames := 0, cells := 0, slots := 0, locals := 0 } : Room).slots) := by
  refine MetFree.of_bodySF (plainFor_of_name pn_3) hisR ?_
  intro p e s m args below meth c s₁ Bd hml0 hP hK
  obtain ⟨rfl, hZ, hh⟩ := hP
  have hx := Bd.exec
  have hby := Bd.bytes
  have hml : c.maxLocals = 3 := hml0
  have hown : s.vm.findClass "com/example/sarana/sarana/model/XmlCharactersIsNameStartCharPinLaw" = some m.cls := findClass_of_methodNamed Bd.named
  have hnm := (name_of_methodNamed Bd.named Bd.method).1
  have hret := Bd.returns
  have hlk : meth.locks = false := Bd.notSynchronized
  have X0 : Stand p l e ({ frames := 0, cells := 0, slots := 0, locals := 0 } : Room) s m #[(.int p0), (.int p1), (.int p2)] below meth c s₁ [] 0 0 := Stand.of_body Bd
  have e0 : s₁.heap = h0 := by rw [← hh, Bd.state]; rfl
  refine OFin.start (Q := fun v h L => v = some (.int (f3_0 p0 p1 p2)) ∧ h = h0 ∧ L = []) (s := s) (fun t k => castTop (ef_3 m p0 p1 p2) k) ?_
  exact ro3_0 p0 p1 p2 X0 hx hZ hw hby hml hown hret hlk e0 (Nat.zero_le _) (Nat.zero_le _) (Nat.zero_le _) (Nat.zero_le _)  ⟨rfl, rfl, rfl⟩
theorem d1_0 : decode prog_114_method_5_code 0 = .ok (.iload_n 0, 1) := by decide +kernel
theorem d1_1 : decode prog_114_method_5_code 1 = .ok (.bipush 97, 2) := by decide +kernel
theorem d1_3 : decode prog_114_method_5_code 3 = .ok (.if_icmp .lt 9, 3) := by decide +kernel
theorem d1_6 : decode prog_114_method_5_code 6 = .ok (.iload_n 0, 1) := by decide +kernel
theorem d1_7 : decode prog_114_method_5_code 7 = .ok (.bipush 122, 2) := by decide +kernel
theorem d1_9 : decode prog_114_method_5_code 9 = .ok (.if_icmp .le 182, 3) := by decide +kernel
theorem d1_12 : decode prog_114_method_5_code 12 = .ok (.iload_n 0, 1) := by decide +kernel
theorem d1_13 : decode prog_114_method_5_code 13 = .ok (.bipush 65, 2) := by decide +kernel
theorem d1_15 : decode prog_114_method_5_code 15 = .ok (.if_icmp .lt 9, 3) := by decide +kernel
theorem d1_18 : decode prog_114_method_5_code 18 = .ok (.iload_n 0, 1) := by decide +kernel
theorem d1_19 : decode prog_114_method_5_code 19 = .ok (.bipush 90, 2) := by decide +kernel
theorem d1_21 : decode prog_114_method_5_code 21 = .ok (.if_icmp .le 170, 3) := by decide +kernel
theorem d1_24 : decode prog_114_method_5_code 24 = .ok (.iload_n 0, 1) := by decide +kernel
theorem d1_25 : decode prog_114_method_5_code 25 = .ok (.bipush 95, 2) := by decide +kernel
theorem d1_27 : decode prog_114_method_5_code 27 = .ok (.if_icmp .eq 164, 3) := by decide +kernel
theorem d1_30 : decode prog_114_method_5_code 30 = .ok (.iload_n 0, 1) := by decide +kernel
theorem d1_31 : decode prog_114_method_5_code 31 = .ok (.sipush 192, 3) := by decide +kernel
theorem d1_34 : decode prog_114_method_5_code 34 = .ok (.if_icmp .lt 10, 3) := by decide +kernel
theorem d1_37 : decode prog_114_method_5_code 37 = .ok (.iload_n 0, 1) := by decide +kernel
theorem d1_38 : decode prog_114_method_5_code 38 = .ok (.sipush 214, 3) := by decide +kernel
theorem d1_41 : decode prog_114_method_5_code 41 = .ok (.if_icmp .le 150, 3) := by decide +kernel
theorem d1_44 : decode prog_114_method_5_code 44 = .ok (.iload_n 0, 1) := by decide +kernel
theorem d1_45 : decode prog_114_method_5_code 45 = .ok (.sipush 216, 3) := by decide +kernel
theorem d1_48 : decode prog_114_method_5_code 48 = .ok (.if_icmp .lt 10, 3) := by decide +kernel
theorem d1_51 : decode prog_114_method_5_code 51 = .ok (.iload_n 0, 1) := by decide +kernel
theorem d1_52 : decode prog_114_method_5_code 52 = .ok (.sipush 246, 3) := by decide +kernel
theorem d1_55 : decode prog_114_method_5_code 55 = .ok (.if_icmp .le 136, 3) := by decide +kernel
theorem d1_58 : decode prog_114_method_5_code 58 = .ok (.iload_n 0, 1) := by decide +kernel
theorem d1_59 : decode prog_114_method_5_code 59 = .ok (.sipush 248, 3) := by decide +kernel
theorem d1_62 : decode prog_114_method_5_code 62 = .ok (.if_icmp .lt 10, 3) := by decide +kernel
theorem d1_65 : decode prog_114_method_5_code 65 = .ok (.iload_n 0, 1) := by decide +kernel
theorem d1_66 : decode prog_114_method_5_code 66 = .ok (.sipush 767, 3) := by decide +kernel
theorem d1_69 : decode prog_114_method_5_code 69 = .ok (.if_icmp .le 122, 3) := by decide +kernel
theorem d1_72 : decode prog_114_method_5_code 72 = .ok (.iload_n 0, 1) := by decide +kernel
theorem d1_73 : decode prog_114_method_5_code 73 = .ok (.sipush 880, 3) := by decide +kernel
theorem d1_76 : decode prog_114_method_5_code 76 = .ok (.if_icmp .lt 10, 3) := by decide +kernel
theorem d1_79 : decode prog_114_method_5_code 79 = .ok (.iload_n 0, 1) := by decide +kernel
theorem d1_80 : decode prog_114_method_5_code 80 = .ok (.sipush 893, 3) := by decide +kernel
theorem d1_83 : decode prog_114_method_5_code 83 = .ok (.if_icmp .le 108, 3) := by decide +kernel
theorem d1_86 : decode prog_114_method_5_code 86 = .ok (.iload_n 0, 1) := by decide +kernel
theorem d1_87 : decode prog_114_method_5_code 87 = .ok (.sipush 895, 3) := by decide +kernel
theorem d1_90 : decode prog_114_method_5_code 90 = .ok (.if_icmp .lt 10, 3) := by decide +kernel
theorem d1_93 : decode prog_114_method_5_code 93 = .ok (.iload_n 0, 1) := by decide +kernel
theorem d1_94 : decode prog_114_method_5_code 94 = .ok (.sipush 8191, 3) := by decide +kernel
theorem d1_97 : decode prog_114_method_5_code 97 = .ok (.if_icmp .le 94, 3) := by decide +kernel
theorem d1_100 : decode prog_114_method_5_code 100 = .ok (.iload_n 0, 1) := by decide +kernel
theorem d1_101 : decode prog_114_method_5_code 101 = .ok (.sipush 8204, 3) := by decide +kernel
theorem d1_104 : decode prog_114_method_5_code 104 = .ok (.if_icmp .lt 10, 3) := by decide +kernel
theorem d1_107 : decode prog_114_method_5_code 107 = .ok (.iload_n 0, 1) := by decide +kernel
theorem d1_108 : decode prog_114_method_5_code 108 = .ok (.sipush 8205, 3) := by decide +kernel
theorem d1_111 : decode prog_114_method_5_code 111 = .ok (.if_icmp .le 80, 3) := by decide +kernel
theorem d1_114 : decode prog_114_method_5_code 114 = .ok (.iload_n 0, 1) := by decide +kernel
theorem d1_115 : decode prog_114_method_5_code 115 = .ok (.sipush 8304, 3) := by decide +kernel
theorem d1_118 : decode prog_114_method_5_code 118 = .ok (.if_icmp .lt 10, 3) := by decide +kernel
theorem d1_121 : decode prog_114_method_5_code 121 = .ok (.iload_n 0, 1) := by decide +kernel
theorem d1_122 : decode prog_114_method_5_code 122 = .ok (.sipush 8591, 3) := by decide +kernel
theorem d1_125 : decode prog_114_method_5_code 125 = .ok (.if_icmp .le 66, 3) := by decide +kernel
theorem d1_128 : decode prog_114_method_5_code 128 = .ok (.iload_n 0, 1) := by decide +kernel
theorem d1_129 : decode prog_114_method_5_code 129 = .ok (.sipush 11264, 3) := by decide +kernel
theorem d1_132 : decode prog_114_method_5_code 132 = .ok (.if_icmp .lt 10, 3) := by decide +kernel
theorem d1_135 : decode prog_114_method_5_code 135 = .ok (.iload_n 0, 1) := by decide +kernel
theorem d1_136 : decode prog_114_method_5_code 136 = .ok (.sipush 12271, 3) := by decide +kernel
theorem d1_139 : decode prog_114_method_5_code 139 = .ok (.if_icmp .le 52, 3) := by decide +kernel
theorem d1_142 : decode prog_114_method_5_code 142 = .ok (.iload_n 0, 1) := by decide +kernel
theorem d1_143 : decode prog_114_method_5_code 143 = .ok (.sipush 12289, 3) := by decide +kernel
theorem d1_146 : decode prog_114_method_5_code 146 = .ok (.if_icmp .lt 9, 3) := by decide +kernel
theorem d1_149 : decode prog_114_method_5_code 149 = .ok (.iload_n 0, 1) := by decide +kernel
theorem d1_150 : decode prog_114_method_5_code 150 = .ok (.ldc 23, 2) := by decide +kernel
theorem d1_152 : decode prog_114_method_5_code 152 = .ok (.if_icmp .le 39, 3) := by decide +kernel
theorem d1_155 : decode prog_114_method_5_code 155 = .ok (.iload_n 0, 1) := by decide +kernel
theorem d1_156 : decode prog_114_method_5_code 156 = .ok (.ldc 28, 2) := by decide +kernel
theorem d1_158 : decode prog_114_method_5_code 158 = .ok (.if_icmp .lt 9, 3) := by decide +kernel
theorem d1_161 : decode prog_114_method_5_code 161 = .ok (.iload_n 0, 1) := by decide +kernel
theorem d1_162 : decode prog_114_method_5_code 162 = .ok (.ldc 29, 2) := by decide +kernel
theorem d1_164 : decode prog_114_method_5_code 164 = .ok (.if_icmp .le 27, 3) := by decide +kernel
theorem d1_167 : decode prog_114_method_5_code 167 = .ok (.iload_n 0, 1) := by decide +kernel
theorem d1_168 : decode prog_114_method_5_code 168 = .ok (.ldc 30, 2) := by decide +kernel
theorem d1_170 : decode prog_114_method_5_code 170 = .ok (.if_icmp .lt 9, 3) := by decide +kernel
theorem d1_173 : decode prog_114_method_5_code 173 = .ok (.iload_n 0, 1) := by decide +kernel
theorem d1_174 : decode prog_114_method_5_code 174 = .ok (.ldc 25, 2) := by decide +kernel
theorem d1_176 : decode prog_114_method_5_code 176 = .ok (.if_icmp .le 15, 3) := by decide +kernel
theorem d1_179 : decode prog_114_method_5_code 179 = .ok (.iload_n 0, 1) := by decide +kernel
theorem d1_180 : decode prog_114_method_5_code 180 = .ok (.ldc 26, 2) := by decide +kernel
theorem d1_182 : decode prog_114_method_5_code 182 = .ok (.if_icmp .lt 13, 3) := by decide +kernel
theorem d1_185 : decode prog_114_method_5_code 185 = .ok (.iload_n 0, 1) := by decide +kernel
theorem d1_186 : decode prog_114_method_5_code 186 = .ok (.ldc 31, 2) := by decide +kernel
theorem d1_188 : decode prog_114_method_5_code 188 = .ok (.if_icmp .gt 7, 3) := by decide +kernel
theorem d1_191 : decode prog_114_method_5_code 191 = .ok (.iconst 1, 1) := by decide +kernel
theorem d1_192 : decode prog_114_method_5_code 192 = .ok (.goto 4, 3) := by decide +kernel
theorem d1_195 : decode prog_114_method_5_code 195 = .ok (.iconst 0, 1) := by decide +kernel
theorem d1_196 : decode prog_114_method_5_code 196 = .ok (.ireturn, 1) := by decide +kernel
def f1_196 (i0 : Int32) (t0 : Int32) : Int32 := (nar .boolean t0)
def f1_195 (i0 : Int32) : Int32 := (f1_196 i0 (0 : Int32))
def f1_191 (i0 : Int32) : Int32 := (f1_196 i0 (1 : Int32))
def f1_179 (i0 : Int32) : Int32 := (if i0 < (65536 : Int32) then (f1_195 i0) else (if (983039 : Int32) < i0 then (f1_195 i0) else (f1_191 i0)))
def f1_167 (i0 : Int32) : Int32 := (if i0 < (65008 : Int32) then (f1_179 i0) else (if (65533 : Int32) < i0 then (f1_179 i0) else (f1_191 i0)))
def f1_155 (i0 : Int32) : Int32 := (if i0 < (63744 : Int32) then (f1_167 i0) else (if (64975 : Int32) < i0 then (f1_167 i0) else (f1_191 i0)))
def f1_142 (i0 : Int32) : Int32 := (if i0 < (12289 : Int32) then (f1_155 i0) else (if (55295 : Int32) < i0 then (f1_155 i0) else (f1_191 i0)))
def f1_128 (i0 : Int32) : Int32 := (if i0 < (11264 : Int32) then (f1_142 i0) else (if (12271 : Int32) < i0 then (f1_142 i0) else (f1_191 i0)))
def f1_114 (i0 : Int32) : Int32 := (if i0 < (8304 : Int32) then (f1_128 i0) else (if (8591 : Int32) < i0 then (f1_128 i0) else (f1_191 i0)))
def f1_100 (i0 : Int32) : Int32 := (if i0 < (8204 : Int32) then (f1_114 i0) else (if (8205 : Int32) < i0 then (f1_114 i0) else (f1_191 i0)))
def f1_86 (i0 : Int32) : Int32 := (if i0 < (895 : Int32) then (f1_100 i0) else (if (8191 : Int32) < i0 then (f1_100 i0) else (f1_191 i0)))
def f1_72 (i0 : Int32) : Int32 := (if i0 < (880 : Int32) then (f1_86 i0) else (if (893 : Int32) < i0 then (f1_86 i0) else (f1_191 i0)))
def f1_58 (i0 : Int32) : Int32 := (if i0 < (248 : Int32) then (f1_72 i0) else (if (767 : Int32) < i0 then (f1_72 i0) else (f1_191 i0)))
def f1_44 (i0 : Int32) : Int32 := (if i0 < (216 : Int32) then (f1_58 i0) else (if (246 : Int32) < i0 then (f1_58 i0) else (f1_191 i0)))
def f1_24 (i0 : Int32) : Int32 := (if i0 = (95 : Int32) then (f1_191 i0) else (if i0 < (192 : Int32) then (f1_44 i0) else (if (214 : Int32) < i0 then (f1_44 i0) else (f1_191 i0))))
def f1_12 (i0 : Int32) : Int32 := (if i0 < (65 : Int32) then (f1_24 i0) else (if (90 : Int32) < i0 then (f1_24 i0) else (f1_191 i0)))
def f1_0 (p0 : Int32) : Int32 := (if p0 < (97 : Int32) then (f1_12 p0) else (if (122 : Int32) < p0 then (f1_12 p0) else (f1_191 p0)))
set_option maxRecDepth 65536 in
set_option maxHeartbeats 40000000 in
theorem ro1_0 {p : Program} {l : Launch} {e : Env} {s : State} {m : MethodId} {args : Array Value} {below : List Frame} {meth : Method} {c : Code} {T : State} {locs : List Loc} {cells slots : Nat} {Z : State} {a0 : Array Value} {h : Heap} {ce sl : Nat} {Q : Option Value → Heap → List Loc → Prop} (p0 : Int32)
    (X : Stand p l e ({ frames := 0, cells := 0, slots := 0, locals := 0 } : Room) s m args below meth c T locs cells slots) (hx : p.tables.exec = Jvm.exec) (hZ : Z.Warmed39 s.vm) (hw : ∀ d ∈ tables_1, d.before a0 Z = true) (hby : c.code = prog_114_method_5_code) (hml : c.maxLocals = 1) (hown : s.vm.findClass "com/example/sarana/sarana/model/XmlCharacters" = some m.cls) (hret : meth.sig.returnType = some .boolean) (hlk : meth.locks = false) (eT : T.heap = h) (hc : cells ≤ ce) (hs : slots ≤ sl) (hcR : cells ≤ (({ frames := 0, cells := 0, slots := 0, locals := 0 } : Room)).cells) (hsR : slots ≤ (({ frames := 0, cells := 0, slots := 0, locals := 0 } : Room)).slots)
    (hQ : Q (some (.int (f1_0 p0))) h locs) : OFin p e below s ce sl Q (T.setTop (mkF m 0 #[.val (.int p0)] [])) := by
  obtain ⟨r, hr0⟩ : ∃ r, f1_0 p0 = r := ⟨_, rfl⟩
  rw [hr0] at hQ
  have B196 : ∀ (T : State) (i0 : Int32) (t0 : Int32), Stand p l e ({ frames := 0, cells := 0, slots := 0, locals := 0 } : Room) s m args below meth c T locs cells slots → T.heap = h → f1_196 i0 t0 = r → OFin p e below s ce sl Q (T.setTop (mkF m 196 #[.val (.int i0)] [(.int t0)])) := by
    intro T i0 t0 X eT hr
    exact OFin.retZ X hx (t := .boolean) hret (by simp) hlk (hb hby d1_196) hc hs (own_q (hr) eT hQ)
  have B195 : ∀ (T : State) (i0 : Int32), Stand p l e ({ frames := 0, cells := 0, slots := 0, locals := 0 } : Room) s m args below meth c T locs cells slots → T.heap = h → f1_195 i0 = r → OFin p e below s ce sl Q (T.setTop (mkF m 195 #[.val (.int i0)] [])) := by
    intro T i0 X eT hr
    refine OFin.to (T.setTop (mkF m 196 #[.val (.int i0)] [(.int (0 : Int32))])) (fun _ kt => XS.iconst X.here hx rfl (hb hby d1_195) kt) ?_
    exact B196 T i0 (0 : Int32) X eT hr
  have B191 : ∀ (T : State) (i0 : Int32), Stand p l e ({ frames := 0, cells := 0, slots := 0, locals := 0 } : Room) s m args below meth c T locs cells slots → T.heap = h → f1_191 i0 = r → OFin p e below s ce sl Q (T.setTop (mkF m 191 #[.val (.int i0)] [])) := by
    intro T i0 X eT hr
    refine OFin.to (T.setTop (mkF m 192 #[.val (.int i0)] [(.int (1 : Int32))])) (fun _ kt => XS.iconst X.here hx rfl (hb hby d1_191) kt) ?_
    refine OFin.to (T.setTop (mkF m 196 #[.val (.int i0)] [(.int (1 : Int32))])) (fun _ kt => XS.goto X.here hx rfl (pc0 := 192) (pc' := 196) rfl (hb hby d1_192) (by decide) (by decide) kt) ?_
    exact B196 T i0 (1 : Int32) X eT hr
  have B179 : ∀ (T : State) (i0 : Int32), Stand p l e ({ frames := 0, cells := 0, slots := 0, locals := 0 } : Room) s m args below meth c T locs cells slots → T.heap = h → f1_179 i0 = r → OFin p e below s ce sl Q (T.setTop (mkF m 179 #[.val (.int i0)] [])) := by
    intro T i0 X eT hr
    refine OFin.to (T.setTop (mkF m 180 #[.val (.int i0)] [(.int i0)])) (fun _ kt => XS.iloadN X.here hx rfl (hb hby d1_179) rfl kt) ?_
    refine OFin.to (T.setTop (mkF m 182 #[.val (.int i0)] [(.int (65536 : Int32)), (.int i0)])) (fun _ kt => X.ldcI hx hown (mvT hZ (hw _ (List.mem_of_getElem? (i := 6) rfl))) (g := (mkF m 180 #[.val (.int i0)] [(.int i0)])) rfl (hb hby d1_180) kt) ?_
    by_cases hc182 : i0 < (65536 : Int32)
    · have hr := (if_pos hc182).symm.trans hr
      refine OFin.to (T.setTop (mkF m 195 #[.val (.int i0)] [])) (fun _ kt => XS.icmpYes X.here hx rfl (pc0 := 182) (pc' := 195) rfl (hb hby d1_182) rfl (XT.ii_lt_t hc182) (by decide) (by decide) kt) ?_
      exact B195 T i0 X eT hr
    · have hr := (if_neg hc182).symm.trans hr
      refine OFin.to (T.setTop (mkF m 185 #[.val (.int i0)] [])) (fun _ kt => XS.icmpNo X.here hx rfl (hb hby d1_182) rfl (XT.ii_lt_f hc182) kt) ?_
      refine OFin.to (T.setTop (mkF m 186 #[.val (.int i0)] [(.int i0)])) (fun _ kt => XS.iloadN X.here hx rfl (hb hby d1_185) rfl kt) ?_
      refine OFin.to (T.setTop (mkF m 188 #[.val (.int i0)] [(.int (983039 : Int32)), (.int i0)])) (fun _ kt => X.ldcI hx hown (mvT hZ (hw _ (List.mem_of_getElem? (i := 24) rfl))) (g := (mkF m 186 #[.val (.int i0)] [(.int i0)])) rfl (hb hby d1_186) kt) ?_
      by_cases hc188 : (983039 : Int32) < i0
      · have hr := (if_pos hc188).symm.trans hr
        refine OFin.to (T.setTop (mkF m 195 #[.val (.int i0)] [])) (fun _ kt => XS.icmpYes X.here hx rfl (pc0 := 188) (pc' := 195) rfl (hb hby d1_188) rfl (XT.ii_gt_t hc188) (by decide) (by decide) kt) ?_
        exact B195 T i0 X eT hr
      · have hr := (if_neg hc188).symm.trans hr
        refine OFin.to (T.setTop (mkF m 191 #[.val (.int i0)] [])) (fun _ kt => XS.icmpNo X.here hx rfl (hb hby d1_188) rfl (XT.ii_gt_f hc188) kt) ?_
        exact B191 T i0 X eT hr
  have B167 : ∀ (T : State) (i0 : Int32), Stand p l e ({ frames := 0, cells := 0, slots := 0, locals := 0 } : Room) s m args below meth c T locs cells slots → T.heap = h → f1_167 i0 = r → OFin p e below s ce sl Q (T.setTop (mkF m 167 #[.val (.int i0)] [])) := by
    intro T i0 X eT hr
    refine OFin.to (T.setTop (mkF m 168 #[.val (.int i0)] [(.int i0)])) (fun _ kt => XS.iloadN X.here hx rfl (hb hby d1_167) rfl kt) ?_
    refine OFin.to (T.setTop (mkF m 170 #[.val (.int i0)] [(.int (65008 : Int32)), (.int i0)])) (fun _ kt => X.ldcI hx hown (mvT hZ (hw _ (List.mem_of_getElem? (i := 5) rfl))) (g := (mkF m 168 #[.val (.int i0)] [(.int i0)])) rfl (hb hby d1_168) kt) ?_
    by_cases hc170 : i0 < (65008 : Int32)
    · have hr := (if_pos hc170).symm.trans hr
      refine OFin.to (T.setTop (mkF m 179 #[.val (.int i0)] [])) (fun _ kt => XS.icmpYes X.here hx rfl (pc0 := 170) (pc' := 179) rfl (hb hby d1_170) rfl (XT.ii_lt_t hc170) (by decide) (by decide) kt) ?_
      exact B179 T i0 X eT hr
    · have hr := (if_neg hc170).symm.trans hr
      refine OFin.to (T.setTop (mkF m 173 #[.val (.int i0)] [])) (fun _ kt => XS.icmpNo X.here hx rfl (hb hby d1_170) rfl (XT.ii_lt_f hc170) kt) ?_
      refine OFin.to (T.setTop (mkF m 174 #[.val (.int i0)] [(.int i0)])) (fun _ kt => XS.iloadN X.here hx rfl (hb hby d1_173) rfl kt) ?_
      refine OFin.to (T.setTop (mkF m 176 #[.val (.int i0)] [(.int (65533 : Int32)), (.int i0)])) (fun _ kt => X.ldcI hx hown (mvT hZ (hw _ (List.mem_of_getElem? (i := 23) rfl))) (g := (mkF m 174 #[.val (.int i0)] [(.int i0)])) rfl (hb hby d1_174) kt) ?_
      by_cases hc176 : (65533 : Int32) < i0
      · have hr := (if_pos hc176).symm.trans hr
        refine OFin.to (T.setTop (mkF m 179 #[.val (.int i0)] [])) (fun _ kt => XS.icmpNo X.here hx rfl (hb hby d1_176) rfl (XT.ii_le_f hc176) kt) ?_
        exact B179 T i0 X eT hr
      · have hr := (if_neg hc176).symm.trans hr
        refine OFin.to (T.setTop (mkF m 191 #[.val (.int i0)] [])) (fun _ kt => XS.icmpYes X.here hx rfl (pc0 := 176) (pc' := 191) rfl (hb hby d1_176) rfl (XT.ii_le_t hc176) (by decide) (by decide) kt) ?_
        exact B191 T i0 X eT hr
  have B155 : ∀ (T : State) (i0 : Int32), Stand p l e ({ frames := 0, cells := 0, slots := 0, locals := 0 } : Room) s m args below meth c T locs cells slots → T.heap = h → f1_155 i0 = r → OFin p e below s ce sl Q (T.setTop (mkF m 155 #[.val (.int i0)] [])) := by
    intro T i0 X eT hr
    refine OFin.to (T.setTop (mkF m 156 #[.val (.int i0)] [(.int i0)])) (fun _ kt => XS.iloadN X.here hx rfl (hb hby d1_155) rfl kt) ?_
    refine OFin.to (T.setTop (mkF m 158 #[.val (.int i0)] [(.int (63744 : Int32)), (.int i0)])) (fun _ kt => X.ldcI hx hown (mvT hZ (hw _ (List.mem_of_getElem? (i := 4) rfl))) (g := (mkF m 156 #[.val (.int i0)] [(.int i0)])) rfl (hb hby d1_156) kt) ?_
    by_cases hc158 : i0 < (63744 : Int32)
    · have hr := (if_pos hc158).symm.trans hr
      refine OFin.to (T.setTop (mkF m 167 #[.val (.int i0)] [])) (fun _ kt => XS.icmpYes X.here hx rfl (pc0 := 158) (pc' := 167) rfl (hb hby d1_158) rfl (XT.ii_lt_t hc158) (by decide) (by decide) kt) ?_
      exact B167 T i0 X eT hr
    · have hr := (if_neg hc158).symm.trans hr
      refine OFin.to (T.setTop (mkF m 161 #[.val (.int i0)] [])) (fun _ kt => XS.icmpNo X.here hx rfl (hb hby d1_158) rfl (XT.ii_lt_f hc158) kt) ?_
      refine OFin.to (T.setTop (mkF m 162 #[.val (.int i0)] [(.int i0)])) (fun _ kt => XS.iloadN X.here hx rfl (hb hby d1_161) rfl kt) ?_
      refine OFin.to (T.setTop (mkF m 164 #[.val (.int i0)] [(.int (64975 : Int32)), (.int i0)])) (fun _ kt => X.ldcI hx hown (mvT hZ (hw _ (List.mem_of_getElem? (i := 22) rfl))) (g := (mkF m 162 #[.val (.int i0)] [(.int i0)])) rfl (hb hby d1_162) kt) ?_
      by_cases hc164 : (64975 : Int32) < i0
      · have hr := (if_pos hc164).symm.trans hr
        refine OFin.to (T.setTop (mkF m 167 #[.val (.int i0)] [])) (fun _ kt => XS.icmpNo X.here hx rfl (hb hby d1_164) rfl (XT.ii_le_f hc164) kt) ?_
        exact B167 T i0 X eT hr
      · have hr := (if_neg hc164).symm.trans hr
        refine OFin.to (T.setTop (mkF m 191 #[.val (.int i0)] [])) (fun _ kt => XS.icmpYes X.here hx rfl (pc0 := 164) (pc' := 191) rfl (hb hby d1_164) rfl (XT.ii_le_t hc164) (by decide) (by decide) kt) ?_
        exact B191 T i0 X eT hr
  have B142 : ∀ (T : State) (i0 : Int32), Stand p l e ({ frames := 0, cells := 0, slots := 0, locals := 0 } : Room) s m args below meth c T locs cells slots → T.heap = h → f1_142 i0 = r → OFin p e below s ce sl Q (T.setTop (mkF m 142 #[.val (.int i0)] [])) := by
    intro T i0 X eT hr
    refine OFin.to (T.setTop (mkF m 143 #[.val (.int i0)] [(.int i0)])) (fun _ kt => XS.iloadN X.here hx rfl (hb hby d1_142) rfl kt) ?_
    refine OFin.to (T.setTop (mkF m 146 #[.val (.int i0)] [(.int (12289 : Int32)), (.int i0)])) (fun _ kt => XS.sipush X.here hx rfl (hb hby d1_143) kt) ?_
    by_cases hc146 : i0 < (12289 : Int32)
    · have hr := (if_pos hc146).symm.trans hr
      refine OFin.to (T.setTop (mkF m 155 #[.val (.int i0)] [])) (fun _ kt => XS.icmpYes X.here hx rfl (pc0 := 146) (pc' := 155) rfl (hb hby d1_146) rfl (XT.ii_lt_t hc146) (by decide) (by decide) kt) ?_
      exact B155 T i0 X eT hr
    · have hr := (if_neg hc146).symm.trans hr
      refine OFin.to (T.setTop (mkF m 149 #[.val (.int i0)] [])) (fun _ kt => XS.icmpNo X.here hx rfl (hb hby d1_146) rfl (XT.ii_lt_f hc146) kt) ?_
      refine OFin.to (T.setTop (mkF m 150 #[.val (.int i0)] [(.int i0)])) (fun _ kt => XS.iloadN X.here hx rfl (hb hby d1_149) rfl kt) ?_
      refine OFin.to (T.setTop (mkF m 152 #[.val (.int i0)] [(.int (55295 : Int32)), (.int i0)])) (fun _ kt => X.ldcI hx hown (mvT hZ (hw _ (List.mem_of_getElem? (i := 21) rfl))) (g := (mkF m 150 #[.val (.int i0)] [(.int i0)])) rfl (hb hby d1_150) kt) ?_
      by_cases hc152 : (55295 : Int32) < i0
      · have hr := (if_pos hc152).symm.trans hr
        refine OFin.to (T.setTop (mkF m 155 #[.val (.int i0)] [])) (fun _ kt => XS.icmpNo X.here hx rfl (hb hby d1_152) rfl (XT.ii_le_f hc152) kt) ?_
        exact B155 T i0 X eT hr
      · have hr := (if_neg hc152).symm.trans hr
        refine OFin.to (T.setTop (mkF m 191 #[.val (.int i0)] [])) (fun _ kt => XS.icmpYes X.here hx rfl (pc0 := 152) (pc' := 191) rfl (hb hby d1_152) rfl (XT.ii_le_t hc152) (by decide) (by decide) kt) ?_
        exact B191 T i0 X eT hr
  have B128 : ∀ (T : State) (i0 : Int32), Stand p l e ({ frames := 0, cells := 0, slots := 0, locals := 0 } : Room) s m args below meth c T locs cells slots → T.heap = h → f1_128 i0 = r → OFin p e below s ce sl Q (T.setTop (mkF m 128 #[.val (.int i0)] [])) := by
    intro T i0 X eT hr
    refine OFin.to (T.setTop (mkF m 129 #[.val (.int i0)] [(.int i0)])) (fun _ kt => XS.iloadN X.here hx rfl (hb hby d1_128) rfl kt) ?_
    refine OFin.to (T.setTop (mkF m 132 #[.val (.int i0)] [(.int (11264 : Int32)), (.int i0)])) (fun _ kt => XS.sipush X.here hx rfl (hb hby d1_129) kt) ?_
    by_cases hc132 : i0 < (11264 : Int32)
    · have hr := (if_pos hc132).symm.trans hr
      refine OFin.to (T.setTop (mkF m 142 #[.val (.int i0)] [])) (fun _ kt => XS.icmpYes X.here hx rfl (pc0 := 132) (pc' := 142) rfl (hb hby d1_132) rfl (XT.ii_lt_t hc132) (by decide) (by decide) kt) ?_
      exact B142 T i0 X eT hr
    · have hr := (if_neg hc132).symm.trans hr
      refine OFin.to (T.setTop (mkF m 135 #[.val (.int i0)] [])) (fun _ kt => XS.icmpNo X.here hx rfl (hb hby d1_132) rfl (XT.ii_lt_f hc132) kt) ?_
      refine OFin.to (T.setTop (mkF m 136 #[.val (.int i0)] [(.int i0)])) (fun _ kt => XS.iloadN X.here hx rfl (hb hby d1_135) rfl kt) ?_
      refine OFin.to (T.setTop (mkF m 139 #[.val (.int i0)] [(.int (12271 : Int32)), (.int i0)])) (fun _ kt => XS.sipush X.here hx rfl (hb hby d1_136) kt) ?_
      by_cases hc139 : (12271 : Int32) < i0
      · have hr := (if_pos hc139).symm.trans hr
        refine OFin.to (T.setTop (mkF m 142 #[.val (.int i0)] [])) (fun _ kt => XS.icmpNo X.here hx rfl (hb hby d1_139) rfl (XT.ii_le_f hc139) kt) ?_
        exact B142 T i0 X eT hr
      · have hr := (if_neg hc139).symm.trans hr
        refine OFin.to (T.setTop (mkF m 191 #[.val (.int i0)] [])) (fun _ kt => XS.icmpYes X.here hx rfl (pc0 := 139) (pc' := 191) rfl (hb hby d1_139) rfl (XT.ii_le_t hc139) (by decide) (by decide) kt) ?_
        exact B191 T i0 X eT hr
  have B114 : ∀ (T : State) (i0 : Int32), Stand p l e ({ frames := 0, cells := 0, slots := 0, locals := 0 } : Room) s m args below meth c T locs cells slots → T.heap = h → f1_114 i0 = r → OFin p e below s ce sl Q (T.setTop (mkF m 114 #[.val (.int i0)] [])) := by
    intro T i0 X eT hr
    refine OFin.to (T.setTop (mkF m 115 #[.val (.int i0)] [(.int i0)])) (fun _ kt => XS.iloadN X.here hx rfl (hb hby d1_114) rfl kt) ?_
    refine OFin.to (T.setTop (mkF m 118 #[.val (.int i0)] [(.int (8304 : Int32)), (.int i0)])) (fun _ kt => XS.sipush X.here hx rfl (hb hby d1_115) kt) ?_
    by_cases hc118 : i0 < (8304 : Int32)
    · have hr := (if_pos hc118).symm.trans hr
      refine OFin.to (T.setTop (mkF m 128 #[.val (.int i0)] [])) (fun _ kt => XS.icmpYes X.here hx rfl (pc0 := 118) (pc' := 128) rfl (hb hby d1_118) rfl (XT.ii_lt_t hc118) (by decide) (by decide) kt) ?_
      exact B128 T i0 X eT hr
    · have hr := (if_neg hc118).symm.trans hr
      refine OFin.to (T.setTop (mkF m 121 #[.val (.int i0)] [])) (fun _ kt => XS.icmpNo X.here hx rfl (hb hby d1_118) rfl (XT.ii_lt_f hc118) kt) ?_
      refine OFin.to (T.setTop (mkF m 122 #[.val (.int i0)] [(.int i0)])) (fun _ kt => XS.iloadN X.here hx rfl (hb hby d1_121) rfl kt) ?_
      refine OFin.to (T.setTop (mkF m 125 #[.val (.int i0)] [(.int (8591 : Int32)), (.int i0)])) (fun _ kt => XS.sipush X.here hx rfl (hb hby d1_122) kt) ?_
      by_cases hc125 : (8591 : Int32) < i0
      · have hr := (if_pos hc125).symm.trans hr
        refine OFin.to (T.setTop (mkF m 128 #[.val (.int i0)] [])) (fun _ kt => XS.icmpNo X.here hx rfl (hb hby d1_125) rfl (XT.ii_le_f hc125) kt) ?_
        exact B128 T i0 X eT hr
      · have hr := (if_neg hc125).symm.trans hr
        refine OFin.to (T.setTop (mkF m 191 #[.val (.int i0)] [])) (fun _ kt => XS.icmpYes X.here hx rfl (pc0 := 125) (pc' := 191) rfl (hb hby d1_125) rfl (XT.ii_le_t hc125) (by decide) (by decide) kt) ?_
        exact B191 T i0 X eT hr
  have B100 : ∀ (T : State) (i0 : Int32), Stand p l e ({ frames := 0, cells := 0, slots := 0, locals := 0 } : Room) s m args below meth c T locs cells slots → T.heap = h → f1_100 i0 = r → OFin p e below s ce sl Q (T.setTop (mkF m 100 #[.val (.int i0)] [])) := by
    intro T i0 X eT hr
    refine OFin.to (T.setTop (mkF m 101 #[.val (.int i0)] [(.int i0)])) (fun _ kt => XS.iloadN X.here hx rfl (hb hby d1_100) rfl kt) ?_
    refine OFin.to (T.setTop (mkF m 104 #[.val (.int i0)] [(.int (8204 : Int32)), (.int i0)])) (fun _ kt => XS.sipush X.here hx rfl (hb hby d1_101) kt) ?_
    by_cases hc104 : i0 < (8204 : Int32)
    · have hr := (if_pos hc104).symm.trans hr
      refine OFin.to (T.setTop (mkF m 114 #[.val (.int i0)] [])) (fun _ kt => XS.icmpYes X.here hx rfl (pc0 := 104) (pc' := 114) rfl (hb hby d1_104) rfl (XT.ii_lt_t hc104) (by decide) (by decide) kt) ?_
      exact B114 T i0 X eT hr
    · have hr := (if_neg hc104).symm.trans hr
      refine OFin.to (T.setTop (mkF m 107 #[.val (.int i0)] [])) (fun _ kt => XS.icmpNo X.here hx rfl (hb hby d1_104) rfl (XT.ii_lt_f hc104) kt) ?_
      refine OFin.to (T.setTop (mkF m 108 #[.val (.int i0)] [(.int i0)])) (fun _ kt => XS.iloadN X.here hx rfl (hb hby d1_107) rfl kt) ?_
      refine OFin.to (T.setTop (mkF m 111 #[.val (.int i0)] [(.int (8205 : Int32)), (.int i0)])) (fun _ kt => XS.sipush X.here hx rfl (hb hby d1_108) kt) ?_
      by_cases hc111 : (8205 : Int32) < i0
      · have hr := (if_pos hc111).symm.trans hr
        refine OFin.to (T.setTop (mkF m 114 #[.val (.int i0)] [])) (fun _ kt => XS.icmpNo X.here hx rfl (hb hby d1_111) rfl (XT.ii_le_f hc111) kt) ?_
        exact B114 T i0 X eT hr
      · have hr := (if_neg hc111).symm.trans hr
        refine OFin.to (T.setTop (mkF m 191 #[.val (.int i0)] [])) (fun _ kt => XS.icmpYes X.here hx rfl (pc0 := 111) (pc' := 191) rfl (hb hby d1_111) rfl (XT.ii_le_t hc111) (by decide) (by decide) kt) ?_
        exact B191 T i0 X eT hr
  have B86 : ∀ (T : State) (i0 : Int32), Stand p l e ({ frames := 0, cells := 0, slots := 0, locals := 0 } : Room) s m args below meth c T locs cells slots → T.heap = h → f1_86 i0 = r → OFin p e below s ce sl Q (T.setTop (mkF m 86 #[.val (.int i0)] [])) := by
    intro T i0 X eT hr
    refine OFin.to (T.setTop (mkF m 87 #[.val (.int i0)] [(.int i0)])) (fun _ kt => XS.iloadN X.here hx rfl (hb hby d1_86) rfl kt) ?_
    refine OFin.to (T.setTop (mkF m 90 #[.val (.int i0)] [(.int (895 : Int32)), (.int i0)])) (fun _ kt => XS.sipush X.here hx rfl (hb hby d1_87) kt) ?_
    by_cases hc90 : i0 < (895 : Int32)
    · have hr := (if_pos hc90).symm.trans hr
      refine OFin.to (T.setTop (mkF m 100 #[.val (.int i0)] [])) (fun _ kt => XS.icmpYes X.here hx rfl (pc0 := 90) (pc' := 100) rfl (hb hby d1_90) rfl (XT.ii_lt_t hc90) (by decide) (by decide) kt) ?_
      exact B100 T i0 X eT hr
    · have hr := (if_neg hc90).symm.trans hr
      refine OFin.to (T.setTop (mkF m 93 #[.val (.int i0)] [])) (fun _ kt => XS.icmpNo X.here hx rfl (hb hby d1_90) rfl (XT.ii_lt_f hc90) kt) ?_
      refine OFin.to (T.setTop (mkF m 94 #[.val (.int i0)] [(.int i0)])) (fun _ kt => XS.iloadN X.here hx rfl (hb hby d1_93) rfl kt) ?_
      refine OFin.to (T.setTop (mkF m 97 #[.val (.int i0)] [(.int (8191 : Int32)), (.int i0)])) (fun _ kt => XS.sipush X.here hx rfl (hb hby d1_94) kt) ?_
      by_cases hc97 : (8191 : Int32) < i0
      · have hr := (if_pos hc97).symm.trans hr
        refine OFin.to (T.setTop (mkF m 100 #[.val (.int i0)] [])) (fun _ kt => XS.icmpNo X.here hx rfl (hb hby d1_97) rfl (XT.ii_le_f hc97) kt) ?_
        exact B100 T i0 X eT hr
      · have hr := (if_neg hc97).symm.trans hr
        refine OFin.to (T.setTop (mkF m 191 #[.val (.int i0)] [])) (fun _ kt => XS.icmpYes X.here hx rfl (pc0 := 97) (pc' := 191) rfl (hb hby d1_97) rfl (XT.ii_le_t hc97) (by decide) (by decide) kt) ?_
        exact B191 T i0 X eT hr
  have B72 : ∀ (T : State) (i0 : Int32), Stand p l e ({ frames := 0, cells := 0, slots := 0, locals := 0 } : Room) s m args below meth c T locs cells slots → T.heap = h → f1_72 i0 = r → OFin p e below s ce sl Q (T.setTop (mkF m 72 #[.val (.int i0)] [])) := by
    intro T i0 X eT hr
    refine OFin.to (T.setTop (mkF m 73 #[.val (.int i0)] [(.int i0)])) (fun _ kt => XS.iloadN X.here hx rfl (hb hby d1_72) rfl kt) ?_
    refine OFin.to (T.setTop (mkF m 76 #[.val (.int i0)] [(.int (880 : Int32)), (.int i0)])) (fun _ kt => XS.sipush X.here hx rfl (hb hby d1_73) kt) ?_
    by_cases hc76 : i0 < (880 : Int32)
    · have hr := (if_pos hc76).symm.trans hr
      refine OFin.to (T.setTop (mkF m 86 #[.val (.int i0)] [])) (fun _ kt => XS.icmpYes X.here hx rfl (pc0 := 76) (pc' := 86) rfl (hb hby d1_76) rfl (XT.ii_lt_t hc76) (by decide) (by decide) kt) ?_
      exact B86 T i0 X eT hr
    · have hr := (if_neg hc76).symm.trans hr
      refine OFin.to (T.setTop (mkF m 79 #[.val (.int i0)] [])) (fun _ kt => XS.icmpNo X.here hx rfl (hb hby d1_76) rfl (XT.ii_lt_f hc76) kt) ?_
      refine OFin.to (T.setTop (mkF m 80 #[.val (.int i0)] [(.int i0)])) (fun _ kt => XS.iloadN X.here hx rfl (hb hby d1_79) rfl kt) ?_
      refine OFin.to (T.setTop (mkF m 83 #[.val (.int i0)] [(.int (893 : Int32)), (.int i0)])) (fun _ kt => XS.sipush X.here hx rfl (hb hby d1_80) kt) ?_
      by_cases hc83 : (893 : Int32) < i0
      · have hr := (if_pos hc83).symm.trans hr
        refine OFin.to (T.setTop (mkF m 86 #[.val (.int i0)] [])) (fun _ kt => XS.icmpNo X.here hx rfl (hb hby d1_83) rfl (XT.ii_le_f hc83) kt) ?_
        exact B86 T i0 X eT hr
      · have hr := (if_neg hc83).symm.trans hr
        refine OFin.to (T.setTop (mkF m 191 #[.val (.int i0)] [])) (fun _ kt => XS.icmpYes X.here hx rfl (pc0 := 83) (pc' := 191) rfl (hb hby d1_83) rfl (XT.ii_le_t hc83) (by decide) (by decide) kt) ?_
        exact B191 T i0 X eT hr
  have B58 : ∀ (T : State) (i0 : Int32), Stand p l e ({ frames := 0, cells := 0, slots := 0, locals := 0 } : Room) s m args below meth c T locs cells slots → T.heap = h → f1_58 i0 = r → OFin p e below s ce sl Q (T.setTop (mkF m 58 #[.val (.int i0)] [])) := by
    intro T i0 X eT hr
    refine OFin.to (T.setTop (mkF m 59 #[.val (.int i0)] [(.int i0)])) (fun _ kt => XS.iloadN X.here hx rfl (hb hby d1_58) rfl kt) ?_
    refine OFin.to (T.setTop (mkF m 62 #[.val (.int i0)] [(.int (248 : Int32)), (.int i0)])) (fun _ kt => XS.sipush X.here hx rfl (hb hby d1_59) kt) ?_
    by_cases hc62 : i0 < (248 : Int32)
    · have hr := (if_pos hc62).symm.trans hr
      refine OFin.to (T.setTop (mkF m 72 #[.val (.int i0)] [])) (fun _ kt => XS.icmpYes X.here hx rfl (pc0 := 62) (pc' := 72) rfl (hb hby d1_62) rfl (XT.ii_lt_t hc62) (by decide) (by decide) kt) ?_
      exact B72 T i0 X eT hr
    · have hr := (if_neg hc62).symm.trans hr
      refine OFin.to (T.setTop (mkF m 65 #[.val (.int i0)] [])) (fun _ kt => XS.icmpNo X.here hx rfl (hb hby d1_62) rfl (XT.ii_lt_f hc62) kt) ?_
      refine OFin.to (T.setTop (mkF m 66 #[.val (.int i0)] [(.int i0)])) (fun _ kt => XS.iloadN X.here hx rfl (hb hby d1_65) rfl kt) ?_
      refine OFin.to (T.setTop (mkF m 69 #[.val (.int i0)] [(.int (767 : Int32)), (.int i0)])) (fun _ kt => XS.sipush X.here hx rfl (hb hby d1_66) kt) ?_
      by_cases hc69 : (767 : Int32) < i0
      · have hr := (if_pos hc69).symm.trans hr
        refine OFin.to (T.setTop (mkF m 72 #[.val (.int i0)] [])) (fun _ kt => XS.icmpNo X.here hx rfl (hb hby d1_69) rfl (XT.ii_le_f hc69) kt) ?_
        exact B72 T i0 X eT hr
      · have hr := (if_neg hc69).symm.trans hr
        refine OFin.to (T.setTop (mkF m 191 #[.val (.int i0)] [])) (fun _ kt => XS.icmpYes X.here hx rfl (pc0 := 69) (pc' := 191) rfl (hb hby d1_69) rfl (XT.ii_le_t hc69) (by decide) (by decide) kt) ?_
        exact B191 T i0 X eT hr
  have B44 : ∀ (T : State) (i0 : Int32), Stand p l e ({ frames := 0, cells := 0, slots := 0, locals := 0 } : Room) s m args below meth c T locs cells slots → T.heap = h → f1_44 i0 = r → OFin p e below s ce sl Q (T.setTop (mkF m 44 #[.val (.int i0)] [])) := by
    intro T i0 X eT hr
    refine OFin.to (T.setTop (mkF m 45 #[.val (.int i0)] [(.int i0)])) (fun _ kt => XS.iloadN X.here hx rfl (hb hby d1_44) rfl kt) ?_
    refine OFin.to (T.setTop (mkF m 48 #[.val (.int i0)] [(.int (216 : Int32)), (.int i0)])) (fun _ kt => XS.sipush X.here hx rfl (hb hby d1_45) kt) ?_
    by_cases hc48 : i0 < (216 : Int32)
    · have hr := (if_pos hc48).symm.trans hr
      refine OFin.to (T.setTop (mkF m 58 #[.val (.int i0)] [])) (fun _ kt => XS.icmpYes X.here hx rfl (pc0 := 48) (pc' := 58) rfl (hb hby d1_48) rfl (XT.ii_lt_t hc48) (by decide) (by decide) kt) ?_
      exact B58 T i0 X eT hr
    · have hr := (if_neg hc48).symm.trans hr
      refine OFin.to (T.setTop (mkF m 51 #[.val (.int i0)] [])) (fun _ kt => XS.icmpNo X.here hx rfl (hb hby d1_48) rfl (XT.ii_lt_f hc48) kt) ?_
      refine OFin.to (T.setTop (mkF m 52 #[.val (.int i0)] [(.int i0)])) (fun _ kt => XS.iloadN X.here hx rfl (hb hby d1_51) rfl kt) ?_
      refine OFin.to (T.setTop (mkF m 55 #[.val (.int i0)] [(.int (246 : Int32)), (.int i0)])) (fun _ kt => XS.sipush X.here hx rfl (hb hby d1_52) kt) ?_
      by_cases hc55 : (246 : Int32) < i0
      · have hr := (if_pos hc55).symm.trans hr
        refine OFin.to (T.setTop (mkF m 58 #[.val (.int i0)] [])) (fun _ kt => XS.icmpNo X.here hx rfl (hb hby d1_55) rfl (XT.ii_le_f hc55) kt) ?_
        exact B58 T i0 X eT hr
      · have hr := (if_neg hc55).symm.trans hr
        refine OFin.to (T.setTop (mkF m 191 #[.val (.int i0)] [])) (fun _ kt => XS.icmpYes X.here hx rfl (pc0 := 55) (pc' := 191) rfl (hb hby d1_55) rfl (XT.ii_le_t hc55) (by decide) (by decide) kt) ?_
        exact B191 T i0 X eT hr
  have B24 : ∀ (T : State) (i0 : Int32), Stand p l e ({ frames := 0, cells := 0, slots := 0, locals := 0 } : Room) s m args below meth c T locs cells slots → T.heap = h → f1_24 i0 = r → OFin p e below s ce sl Q (T.setTop (mkF m 24 #[.val (.int i0)] [])) := by
    intro T i0 X eT hr
    refine OFin.to (T.setTop (mkF m 25 #[.val (.int i0)] [(.int i0)])) (fun _ kt => XS.iloadN X.here hx rfl (hb hby d1_24) rfl kt) ?_
    refine OFin.to (T.setTop (mkF m 27 #[.val (.int i0)] [(.int (95 : Int32)), (.int i0)])) (fun _ kt => XS.bipush X.here hx rfl (hb hby d1_25) kt) ?_
    by_cases hc27 : i0 = (95 : Int32)
    · have hr := (if_pos hc27).symm.trans hr
      refine OFin.to (T.setTop (mkF m 191 #[.val (.int i0)] [])) (fun _ kt => XS.icmpYes X.here hx rfl (pc0 := 27) (pc' := 191) rfl (hb hby d1_27) rfl (XT.ii_eq_t hc27) (by decide) (by decide) kt) ?_
      exact B191 T i0 X eT hr
    · have hr := (if_neg hc27).symm.trans hr
      refine OFin.to (T.setTop (mkF m 30 #[.val (.int i0)] [])) (fun _ kt => XS.icmpNo X.here hx rfl (hb hby d1_27) rfl (XT.ii_eq_f hc27) kt) ?_
      refine OFin.to (T.setTop (mkF m 31 #[.val (.int i0)] [(.int i0)])) (fun _ kt => XS.iloadN X.here hx rfl (hb hby d1_30) rfl kt) ?_
      refine OFin.to (T.setTop (mkF m 34 #[.val (.int i0)] [(.int (192 : Int32)), (.int i0)])) (fun _ kt => XS.sipush X.here hx rfl (hb hby d1_31) kt) ?_
      by_cases hc34 : i0 < (192 : Int32)
      · have hr := (if_pos hc34).symm.trans hr
        refine OFin.to (T.setTop (mkF m 44 #[.val (.int i0)] [])) (fun _ kt => XS.icmpYes X.here hx rfl (pc0 := 34) (pc' := 44) rfl (hb hby d1_34) rfl (XT.ii_lt_t hc34) (by decide) (by decide) kt) ?_
        exact B44 T i0 X eT hr
      · have hr := (if_neg hc34).symm.trans hr
        refine OFin.to (T.setTop (mkF m 37 #[.val (.int i0)] [])) (fun _ kt => XS.icmpNo X.here hx rfl (hb hby d1_34) rfl (XT.ii_lt_f hc34) kt) ?_
        refine OFin.to (T.setTop (mkF m 38 #[.val (.int i0)] [(.int i0)])) (fun _ kt => XS.iloadN X.here hx rfl (hb hby d1_37) rfl kt) ?_
        refine OFin.to (T.setTop (mkF m 41 #[.val (.int i0)] [(.int (214 : Int32)), (.int i0)])) (fun _ kt => XS.sipush X.here hx rfl (hb hby d1_38) kt) ?_
        by_cases hc41 : (214 : Int32) < i0
        · have hr := (if_pos hc41).symm.trans hr
          refine OFin.to (T.setTop (mkF m 44 #[.val (.int i0)] [])) (fun _ kt => XS.icmpNo X.here hx rfl (hb hby d1_41) rfl (XT.ii_le_f hc41) kt) ?_
          exact B44 T i0 X eT hr
        · have hr := (if_neg hc41).symm.trans hr
          refine OFin.to (T.setTop (mkF m 191 #[.val (.int i0)] [])) (fun _ kt => XS.icmpYes X.here hx rfl (pc0 := 41) (pc' := 191) rfl (hb hby d1_41) rfl (XT.ii_le_t hc41) (by decide) (by decide) kt) ?_
          exact B191 T i0 X eT hr
  have B12 : ∀ (T : State) (i0 : Int32), Stand p l e ({ frames := 0, cells := 0, slots := 0, locals := 0 } : Room) s m args below meth c T locs cells slots → T.heap = h → f1_12 i0 = r → OFin p e below s ce sl Q (T.setTop (mkF m 12 #[.val (.int i0)] [])) := by
    intro T i0 X eT hr
    refine OFin.to (T.setTop (mkF m 13 #[.val (.int i0)] [(.int i0)])) (fun _ kt => XS.iloadN X.here hx rfl (hb hby d1_12) rfl kt) ?_
    refine OFin.to (T.setTop (mkF m 15 #[.val (.int i0)] [(.int (65 : Int32)), (.int i0)])) (fun _ kt => XS.bipush X.here hx rfl (hb hby d1_13) kt) ?_
    by_cases hc15 : i0 < (65 : Int32)
    · have hr := (if_pos hc15).symm.trans hr
      refine OFin.to (T.setTop (mkF m 24 #[.val (.int i0)] [])) (fun _ kt => XS.icmpYes X.here hx rfl (pc0 := 15) (pc' := 24) rfl (hb hby d1_15) rfl (XT.ii_lt_t hc15) (by decide) (by decide) kt) ?_
      exact B24 T i0 X eT hr
    · have hr := (if_neg hc15).symm.trans hr
      refine OFin.to (T.setTop (mkF m 18 #[.val (.int i0)] [])) (fun _ kt => XS.icmpNo X.here hx rfl (hb hby d1_15) rfl (XT.ii_lt_f hc15) kt) ?_
      refine OFin.to (T.setTop (mkF m 19 #[.val (.int i0)] [(.int i0)])) (fun _ kt => XS.iloadN X.here hx rfl (hb hby d1_18) rfl kt) ?_
      refine OFin.to (T.setTop (mkF m 21 #[.val (.int i0)] [(.int (90 : Int32)), (.int i0)])) (fun _ kt => XS.bipush X.here hx rfl (hb hby d1_19) kt) ?_
      by_cases hc21 : (90 : Int32) < i0
      · have hr := (if_pos hc21).symm.trans hr
        refine OFin.to (T.setTop (mkF m 24 #[.val (.int i0)] [])) (fun _ kt => XS.icmpNo X.here hx rfl (hb hby d1_21) rfl (XT.ii_le_f hc21) kt) ?_
        exact B24 T i0 X eT hr
      · have hr := (if_neg hc21).symm.trans hr
        refine OFin.to (T.setTop (mkF m 191 #[.val (.int i0)] [])) (fun _ kt => XS.icmpYes X.here hx rfl (pc0 := 21) (pc' := 191) rfl (hb hby d1_21) rfl (XT.ii_le_t hc21) (by decide) (by decide) kt) ?_
        exact B191 T i0 X eT hr
  have B0 : ∀ (T : State) (p0 : Int32), Stand p l e ({ frames := 0, cells := 0, slots := 0, locals := 0 } : Room) s m args below meth c T locs cells slots → T.heap = h → f1_0 p0 = r → OFin p e below s ce sl Q (T.setTop (mkF m 0 #[.val (.int p0)] [])) := by
    intro T p0 X eT hr
    refine OFin.to (T.setTop (mkF m 1 #[.val (.int p0)] [(.int p0)])) (fun _ kt => XS.iloadN X.here hx rfl (hb hby d1_0) rfl kt) ?_
    refine OFin.to (T.setTop (mkF m 3 #[.val (.int p0)] [(.int (97 : Int32)), (.int p0)])) (fun _ kt => XS.bipush X.here hx rfl (hb hby d1_1) kt) ?_
    by_cases hc3 : p0 < (97 : Int32)
    · have hr := (if_pos hc3).symm.trans hr
      refine OFin.to (T.setTop (mkF m 12 #[.val (.int p0)] [])) (fun _ kt => XS.icmpYes X.here hx rfl (pc0 := 3) (pc' := 12) rfl (hb hby d1_3) rfl (XT.ii_lt_t hc3) (by decide) (by decide) kt) ?_
      exact B12 T p0 X eT hr
    · have hr := (if_neg hc3).symm.trans hr
      refine OFin.to (T.setTop (mkF m 6 #[.val (.int p0)] [])) (fun _ kt => XS.icmpNo X.here hx rfl (hb hby d1_3) rfl (XT.ii_lt_f hc3) kt) ?_
      refine OFin.to (T.setTop (mkF m 7 #[.val (.int p0)] [(.int p0)])) (fun _ kt => XS.iloadN X.here hx rfl (hb hby d1_6) rfl kt) ?_
      refine OFin.to (T.setTop (mkF m 9 #[.val (.int p0)] [(.int (122 : Int32)), (.int p0)])) (fun _ kt => XS.bipush X.here hx rfl (hb hby d1_7) kt) ?_
      by_cases hc9 : (122 : Int32) < p0
      · have hr := (if_pos hc9).symm.trans hr
        refine OFin.to (T.setTop (mkF m 12 #[.val (.int p0)] [])) (fun _ kt => XS.icmpNo X.here hx rfl (hb hby d1_9) rfl (XT.ii_le_f hc9) kt) ?_
        exact B12 T p0 X eT hr
      · have hr := (if_neg hc9).symm.trans hr
        refine OFin.to (T.setTop (mkF m 191 #[.val (.int p0)] [])) (fun _ kt => XS.icmpYes X.here hx rfl (pc0 := 9) (pc' := 191) rfl (hb hby d1_9) rfl (XT.ii_le_t hc9) (by decide) (by decide) kt) ?_
        exact B191 T p0 X eT hr
  exact B0 T p0 X eT hr0
theorem pn_1 : plainName "com/example/sarana/sarana/model/XmlCharacters" = true := by first | (simp [plainName, overriddenIn]; done) | decide +kernel
theorem ef_1 (m : MethodId) (p0 : Int32) : entryFrame m #[(.int p0)] 1 = mkF m 0 #[.val (.int p0)] [] := by first | (simp [entryFrame, mkF, argsToLocals, Value.category]; done) | rfl
set_option maxRecDepth 65536 in
set_option maxHeartbeats 40000000 in
theorem rm1 (l : Launch) (Z : State) (a0 : Array Value) (hw : ∀ d ∈ tables_1, d.before a0 Z = true) (ws : List Jvm.Cond) (p0 : Int32) (h0 : Heap) :
    MetFree l (⟨"com/example/sarana/sarana/model/XmlCharacters", "isNameStartChar", "(I)Z"⟩ : MethodName) (head1 (Jvm.Cond.code (⟨"com/example/sarana/sarana/model/XmlCharacters", "isNameStartChar", "(I)Z"⟩ : MethodName) prog_114_method_5_code 1 (some .boolean) :: ws) ({ frames := 0, cells := 0, slots := 0, locals := 0 } : Room)) (fun a U => a = #[(.int p0)] ∧ Z.Warmed39 U.vm ∧ U.heap = h0) (fun _ _ _ _ _ => True) (fun _ U o U' => ∃ v L, o = .returned v ∧ OQ (fun v h L => v = some (.int (f1_0 p0)) ∧ h = h0 ∧ L = []) v U'.heap L ∧ FrameEnd U o U' L ({ frames := 0, cells := 0, slots := 0, locals := 0 } : Room).cells ({ frames := 0, cells := 0, slots := 0, locals := 0 } : Room).slots) := by
  refine MetFree.of_bodySF (plainFor_of_name pn_1) hisR ?_
  intro p e s m args below meth c s₁ Bd hml0 hP hK
  obtain ⟨rfl, hZ, hh⟩ := hP
  have hx := Bd.exec
  have hby := Bd.bytes
  have hml : c.maxLocals = 1 := hml0
  have hown : s.vm.findClass "com/example/sarana/sarana/model/XmlCharacters" = some m.cls := findClass_of_methodNamed Bd.named
  have hnm := (name_of_methodNamed Bd.named Bd.method).1
  have hret := Bd.returns
  have hlk : meth.locks = false := Bd.notSynchronized
  have X0 : Stand p l e ({ frames := 0, cells := 0, slots := 0, locals := 0 } : Room) s m #[(.int p0)] below meth c s₁ [] 0 0 := Stand.of_body Bd
  have e0 : s₁.heap = h0 := by rw [← hh, Bd.state]; rfl
  refine OFin.start (Q := fun v h L => v = some (.int (f1_0 p0)) ∧ h = h0 ∧ L = []) (s := s) (fun t k => castTop (ef_1 m p0) k) ?_
  exact ro1_0 p0 X0 hx hZ hw hby hml hown hret hlk e0 (Nat.zero_le _) (Nat.zero_le _) (Nat.zero_le _) (Nat.zero_le _)  ⟨rfl, rfl, rfl⟩
theorem d2_0 : decode method_3_code 0 = .ok (.iload_n 0, 1) := by decide +kernel
theorem d2_1 : decode method_3_code 1 = .ok (.bipush 65, 2) := by decide +kernel
theorem d2_3 : decode method_3_code 3 = .ok (.if_icmp .ge 5, 3) := by decide +kernel
theorem d2_6 : decode method_3_code 6 = .ok (.iconst 1, 1) := by decide +kernel
theorem d2_7 : decode method_3_code 7 = .ok (.ireturn, 1) := by decide +kernel
theorem d2_8 : decode method_3_code 8 = .ok (.iload_n 0, 1) := by decide +kernel
theorem d2_9 : decode method_3_code 9 = .ok (.ldc 7, 2) := by decide +kernel
theorem d2_11 : decode method_3_code 11 = .ok (.if_icmp .le 5, 3) := by decide +kernel
theorem d2_14 : decode method_3_code 14 = .ok (.iconst 1, 1) := by decide +kernel
theorem d2_15 : decode method_3_code 15 = .ok (.ireturn, 1) := by decide +kernel
theorem d2_16 : decode method_3_code 16 = .ok (.iload_n 0, 1) := by decide +kernel
theorem d2_17 : decode method_3_code 17 = .ok (.bipush 91, 2) := by decide +kernel
theorem d2_19 : decode method_3_code 19 = .ok (.bipush 94, 2) := by decide +kernel
theorem d2_21 : decode method_3_code 21 = .ok (.invokestatic 8, 3) := by decide +kernel
theorem d2_24 : decode method_3_code 24 = .ok (.ifCond .ne 21, 3) := by decide +kernel
theorem d2_27 : decode method_3_code 27 = .ok (.iload_n 0, 1) := by decide +kernel
theorem d2_28 : decode method_3_code 28 = .ok (.bipush 96, 2) := by decide +kernel
theorem d2_30 : decode method_3_code 30 = .ok (.if_icmp .eq 15, 3) := by decide +kernel
theorem d2_33 : decode method_3_code 33 = .ok (.iload_n 0, 1) := by decide +kernel
theorem d2_34 : decode method_3_code 34 = .ok (.bipush 123, 2) := by decide +kernel
theorem d2_36 : decode method_3_code 36 = .ok (.sipush 191, 3) := by decide +kernel
theorem d2_39 : decode method_3_code 39 = .ok (.invokestatic 8, 3) := by decide +kernel
theorem d2_42 : decode method_3_code 42 = .ok (.ifCond .eq 5, 3) := by decide +kernel
theorem d2_45 : decode method_3_code 45 = .ok (.iconst 1, 1) := by decide +kernel
theorem d2_46 : decode method_3_code 46 = .ok (.ireturn, 1) := by decide +kernel
theorem d2_47 : decode method_3_code 47 = .ok (.iload_n 0, 1) := by decide +kernel
theorem d2_48 : decode method_3_code 48 = .ok (.sipush 215, 3) := by decide +kernel
theorem d2_51 : decode method_3_code 51 = .ok (.if_icmp .eq 10, 3) := by decide +kernel
theorem d2_54 : decode method_3_code 54 = .ok (.iload_n 0, 1) := by decide +kernel
theorem d2_55 : decode method_3_code 55 = .ok (.sipush 247, 3) := by decide +kernel
theorem d2_58 : decode method_3_code 58 = .ok (.if_icmp .ne 5, 3) := by decide +kernel
theorem d2_61 : decode method_3_code 61 = .ok (.iconst 1, 1) := by decide +kernel
theorem d2_62 : decode method_3_code 62 = .ok (.ireturn, 1) := by decide +kernel
theorem d2_63 : decode method_3_code 63 = .ok (.iload_n 0, 1) := by decide +kernel
theorem d2_64 : decode method_3_code 64 = .ok (.sipush 768, 3) := by decide +kernel
theorem d2_67 : decode method_3_code 67 = .ok (.sipush 879, 3) := by decide +kernel
theorem d2_70 : decode method_3_code 70 = .ok (.invokestatic 8, 3) := by decide +kernel
theorem d2_73 : decode method_3_code 73 = .ok (.ifCond .ne 10, 3) := by decide +kernel
theorem d2_76 : decode method_3_code 76 = .ok (.iload_n 0, 1) := by decide +kernel
theorem d2_77 : decode method_3_code 77 = .ok (.sipush 894, 3) := by decide +kernel
theorem d2_80 : decode method_3_code 80 = .ok (.if_icmp .ne 5, 3) := by decide +kernel
theorem d2_83 : decode method_3_code 83 = .ok (.iconst 1, 1) := by decide +kernel
theorem d2_84 : decode method_3_code 84 = .ok (.ireturn, 1) := by decide +kernel
theorem d2_85 : decode method_3_code 85 = .ok (.iload_n 0, 1) := by decide +kernel
theorem d2_86 : decode method_3_code 86 = .ok (.sipush 8192, 3) := by decide +kernel
theorem d2_89 : decode method_3_code 89 = .ok (.sipush 8203, 3) := by decide +kernel
theorem d2_92 : decode method_3_code 92 = .ok (.invokestatic 8, 3) := by decide +kernel
theorem d2_95 : decode method_3_code 95 = .ok (.ifCond .ne 16, 3) := by decide +kernel
theorem d2_98 : decode method_3_code 98 = .ok (.iload_n 0, 1) := by decide +kernel
theorem d2_99 : decode method_3_code 99 = .ok (.sipush 8206, 3) := by decide +kernel
theorem d2_102 : decode method_3_code 102 = .ok (.sipush 8303, 3) := by decide +kernel
theorem d2_105 : decode method_3_code 105 = .ok (.invokestatic 8, 3) := by decide +kernel
theorem d2_108 : decode method_3_code 108 = .ok (.ifCond .eq 5, 3) := by decide +kernel
theorem d2_111 : decode method_3_code 111 = .ok (.iconst 1, 1) := by decide +kernel
theorem d2_112 : decode method_3_code 112 = .ok (.ireturn, 1) := by decide +kernel
theorem d2_113 : decode method_3_code 113 = .ok (.iload_n 0, 1) := by decide +kernel
theorem d2_114 : decode method_3_code 114 = .ok (.sipush 8592, 3) := by decide +kernel
theorem d2_117 : decode method_3_code 117 = .ok (.sipush 11263, 3) := by decide +kernel
theorem d2_120 : decode method_3_code 120 = .ok (.invokestatic 8, 3) := by decide +kernel
theorem d2_123 : decode method_3_code 123 = .ok (.ifCond .ne 16, 3) := by decide +kernel
theorem d2_126 : decode method_3_code 126 = .ok (.iload_n 0, 1) := by decide +kernel
theorem d2_127 : decode method_3_code 127 = .ok (.sipush 12272, 3) := by decide +kernel
theorem d2_130 : decode method_3_code 130 = .ok (.sipush 12288, 3) := by decide +kernel
theorem d2_133 : decode method_3_code 133 = .ok (.invokestatic 8, 3) := by decide +kernel
theorem d2_136 : decode method_3_code 136 = .ok (.ifCond .eq 5, 3) := by decide +kernel
theorem d2_139 : decode method_3_code 139 = .ok (.iconst 1, 1) := by decide +kernel
theorem d2_140 : decode method_3_code 140 = .ok (.ireturn, 1) := by decide +kernel
theorem d2_141 : decode method_3_code 141 = .ok (.iload_n 0, 1) := by decide +kernel
theorem d2_142 : decode method_3_code 142 = .ok (.ldc 14, 2) := by decide +kernel
theorem d2_144 : decode method_3_code 144 = .ok (.ldc 15, 2) := by decide +kernel
theorem d2_146 : decode method_3_code 146 = .ok (.invokestatic 8, 3) := by decide +kernel
theorem d2_149 : decode method_3_code 149 = .ok (.ifCond .ne 14, 3) := by decide +kernel
theorem d2_152 : decode method_3_code 152 = .ok (.iload_n 0, 1) := by decide +kernel
theorem d2_153 : decode method_3_code 153 = .ok (.ldc 16, 2) := by decide +kernel
theorem d2_155 : decode method_3_code 155 = .ok (.ldc 17, 2) := by decide +kernel
theorem d2_157 : decode method_3_code 157 = .ok (.invokestatic 8, 3) := by decide +kernel
theorem d2_160 : decode method_3_code 160 = .ok (.ifCond .eq 5, 3) := by decide +kernel
theorem d2_163 : decode method_3_code 163 = .ok (.iconst 1, 1) := by decide +kernel
theorem d2_164 : decode method_3_code 164 = .ok (.ireturn, 1) := by decide +kernel
theorem d2_165 : decode method_3_code 165 = .ok (.iload_n 0, 1) := by decide +kernel
theorem d2_166 : decode method_3_code 166 = .ok (.ldc 18, 2) := by decide +kernel
theorem d2_168 : decode method_3_code 168 = .ok (.ldc 19, 2) := by decide +kernel
theorem d2_170 : decode method_3_code 170 = .ok (.invokestatic 8, 3) := by decide +kernel
theorem d2_173 : decode method_3_code 173 = .ok (.ireturn, 1) := by decide +kernel
def f2_163 (i0 : Int32) : Int32 := (1 : Int32)
def f2_139 (i0 : Int32) : Int32 := (1 : Int32)
def f2_111 (i0 : Int32) : Int32 := (1 : Int32)
def f2_83 (i0 : Int32) : Int32 := (1 : Int32)
def f2_61 (i0 : Int32) : Int32 := (1 : Int32)
def f2_45 (i0 : Int32) : Int32 := (1 : Int32)
def f2_0 (p0 : Int32) : Int32 := (if p0 < (65 : Int32) then (1 : Int32) else (if (983039 : Int32) < p0 then (1 : Int32) else (if (f3_0 p0 (91 : Int32) (94 : Int32)) = (0 : Int32) then (if p0 = (96 : Int32) then (f2_45 p0) else (if (f3_0 p0 (123 : Int32) (191 : Int32)) = (0 : Int32) then (if p0 = (215 : Int32) then (f2_61 p0) else (if p0 = (247 : Int32) then (f2_61 p0) else (if (f3_0 p0 (768 : Int32) (879 : Int32)) = (0 : Int32) then (if p0 = (894 : Int32) then (f2_83 p0) else (if (f3_0 p0 (8192 : Int32) (8203 : Int32)) = (0 : Int32) then (if (f3_0 p0 (8206 : Int32) (8303 : Int32)) = (0 : Int32) then (if (f3_0 p0 (8592 : Int32) (11263 : Int32)) = (0 : Int32) then (if (f3_0 p0 (12272 : Int32) (12288 : Int32)) = (0 : Int32) then (if (f3_0 p0 (55296 : Int32) (63743 : Int32)) = (0 : Int32) then (if (f3_0 p0 (64976 : Int32) (65007 : Int32)) = (0 : Int32) then (nar .boolean (f3_0 p0 (65534 : Int32) (65535 : Int32))) else (f2_163 p0)) else (f2_163 p0)) else (f2_139 p0)) else (f2_139 p0)) else (f2_111 p0)) else (f2_111 p0))) else (f2_83 p0)))) else (f2_45 p0))) else (f2_45 p0))))
set_option maxRecDepth 65536 in
set_option maxHeartbeats 40000000 in
theorem ro2_0 {p : Program} {l : Launch} {e : Env} {s : State} {m : MethodId} {args : Array Value} {below : List Frame} {meth : Method} {c : Code} {T : State} {locs : List Loc} {cells slots : Nat} {Z : State} {a0 : Array Value} {h : Heap} {ce sl : Nat} {Q : Option Value → Heap → List Loc → Prop} (p0 : Int32)
    (X : Stand p l e ({ frames := 1, cells := 0, slots := 0, locals := 14 } : Room) s m args below meth c T locs cells slots) (hx : p.tables.exec = Jvm.exec) (hZ : Z.Warmed39 s.vm) (hw : ∀ d ∈ tables_1, d.before a0 Z = true) (hby : c.code = method_3_code) (hml : c.maxLocals = 1) (hown : s.vm.findClass "com/example/sarana/sarana/model/XmlCharactersIsNameStartCharPinLaw" = some m.cls) (hret : meth.sig.returnType = some .boolean) (hlk : meth.locks = false) (eT : T.heap = h) (hc : cells ≤ ce) (hs : slots ≤ sl) (hcR : cells ≤ (({ frames := 1, cells := 0, slots := 0, locals := 14 } : Room)).cells) (hsR : slots ≤ (({ frames := 1, cells := 0, slots := 0, locals := 14 } : Room)).slots)
    (hQ : Q (some (.int (f2_0 p0))) h locs) : OFin p e below s ce sl Q (T.setTop (mkF m 0 #[.val (.int p0)] [])) := by
  obtain ⟨r, hr0⟩ : ∃ r, f2_0 p0 = r := ⟨_, rfl⟩
  rw [hr0] at hQ
  have B163 : ∀ (T : State) (i0 : Int32), Stand p l e ({ frames := 1, cells := 0, slots := 0, locals := 14 } : Room) s m args below meth c T locs cells slots → T.heap = h → f2_163 i0 = r → OFin p e below s ce sl Q (T.setTop (mkF m 163 #[.val (.int i0)] [])) := by
    intro T i0 X eT hr
    refine OFin.to (T.setTop (mkF m 164 #[.val (.int i0)] [(.int (1 : Int32))])) (fun _ kt => XS.iconst X.here hx rfl (hb hby d2_163) kt) ?_
    exact OFin.retZ X hx (t := .boolean) hret (by simp) hlk (hb hby d2_164) hc hs (own_q (own_nar1.trans hr) eT hQ)
  have B139 : ∀ (T : State) (i0 : Int32), Stand p l e ({ frames := 1, cells := 0, slots := 0, locals := 14 } : Room) s m args below meth c T locs cells slots → T.heap = h → f2_139 i0 = r → OFin p e below s ce sl Q (T.setTop (mkF m 139 #[.val (.int i0)] [])) := by
    intro T i0 X eT hr
    refine OFin.to (T.setTop (mkF m 140 #[.val (.int i0)] [(.int (1 : Int32))])) (fun _ kt => XS.iconst X.here hx rfl (hb hby d2_139) kt) ?_
    exact OFin.retZ X hx (t := .boolean) hret (by simp) hlk (hb hby d2_140) hc hs (own_q (own_nar1.trans hr) eT hQ)
  have B111 : ∀ (T : State) (i0 : Int32), Stand p l e ({ frames := 1, cells := 0, slots := 0, locals := 14 } : Room) s m args below meth c T locs cells slots → T.heap = h → f2_111 i0 = r → OFin p e below s ce sl Q (T.setTop (mkF m 111 #[.val (.int i0)] [])) := by
    intro T i0 X eT hr
    refine OFin.to (T.setTop (mkF m 112 #[.val (.int i0)] [(.int (1 : Int32))])) (fun _ kt => XS.iconst X.here hx rfl (hb hby d2_111) kt) ?_
    exact OFin.retZ X hx (t := .boolean) hret (by simp) hlk (hb hby d2_112) hc hs (own_q (own_nar1.trans hr) eT hQ)
  have B83 : ∀ (T : State) (i0 : Int32), Stand p l e ({ frames := 1, cells := 0, slots := 0, locals := 14 } : Room) s m args below meth c T locs cells slots → T.heap = h → f2_83 i0 = r → OFin p e below s ce sl Q (T.setTop (mkF m 83 #[.val (.int i0)] [])) := by
    intro T i0 X eT hr
    refine OFin.to (T.setTop (mkF m 84 #[.val (.int i0)] [(.int (1 : Int32))])) (fun _ kt => XS.iconst X.here hx rfl (hb hby d2_83) kt) ?_
    exact OFin.retZ X hx (t := .boolean) hret (by simp) hlk (hb hby d2_84) hc hs (own_q (own_nar1.trans hr) eT hQ)
  have B61 : ∀ (T : State) (i0 : Int32), Stand p l e ({ frames := 1, cells := 0, slots := 0, locals := 14 } : Room) s m args below meth c T locs cells slots → T.heap = h → f2_61 i0 = r → OFin p e below s ce sl Q (T.setTop (mkF m 61 #[.val (.int i0)] [])) := by
    intro T i0 X eT hr
    refine OFin.to (T.setTop (mkF m 62 #[.val (.int i0)] [(.int (1 : Int32))])) (fun _ kt => XS.iconst X.here hx rfl (hb hby d2_61) kt) ?_
    exact OFin.retZ X hx (t := .boolean) hret (by simp) hlk (hb hby d2_62) hc hs (own_q (own_nar1.trans hr) eT hQ)
  have B45 : ∀ (T : State) (i0 : Int32), Stand p l e ({ frames := 1, cells := 0, slots := 0, locals := 14 } : Room) s m args below meth c T locs cells slots → T.heap = h → f2_45 i0 = r → OFin p e below s ce sl Q (T.setTop (mkF m 45 #[.val (.int i0)] [])) := by
    intro T i0 X eT hr
    refine OFin.to (T.setTop (mkF m 46 #[.val (.int i0)] [(.int (1 : Int32))])) (fun _ kt => XS.iconst X.here hx rfl (hb hby d2_45) kt) ?_
    exact OFin.retZ X hx (t := .boolean) hret (by simp) hlk (hb hby d2_46) hc hs (own_q (own_nar1.trans hr) eT hQ)
  have B0 : ∀ (T : State) (p0 : Int32), Stand p l e ({ frames := 1, cells := 0, slots := 0, locals := 14 } : Room) s m args below meth c T locs cells slots → T.heap = h → f2_0 p0 = r → OFin p e below s ce sl Q (T.setTop (mkF m 0 #[.val (.int p0)] [])) := by
    intro T p0 X eT hr
    refine OFin.to (T.setTop (mkF m 1 #[.val (.int p0)] [(.int p0)])) (fun _ kt => XS.iloadN X.here hx rfl (hb hby d2_0) rfl kt) ?_
    refine OFin.to (T.setTop (mkF m 3 #[.val (.int p0)] [(.int (65 : Int32)), (.int p0)])) (fun _ kt => XS.bipush X.here hx rfl (hb hby d2_1) kt) ?_
    by_cases hc3 : p0 < (65 : Int32)
    · have hr := (if_pos hc3).symm.trans hr
      refine OFin.to (T.setTop (mkF m 6 #[.val (.int p0)] [])) (fun _ kt => XS.icmpNo X.here hx rfl (hb hby d2_3) rfl (XT.ii_ge_f hc3) kt) ?_
      refine OFin.to (T.setTop (mkF m 7 #[.val (.int p0)] [(.int (1 : Int32))])) (fun _ kt => XS.iconst X.here hx rfl (hb hby d2_6) kt) ?_
      exact OFin.retZ X hx (t := .boolean) hret (by simp) hlk (hb hby d2_7) hc hs (own_q (own_nar1.trans hr) eT hQ)
    · have hr := (if_neg hc3).symm.trans hr
      refine OFin.to (T.setTop (mkF m 8 #[.val (.int p0)] [])) (fun _ kt => XS.icmpYes X.here hx rfl (pc0 := 3) (pc' := 8) rfl (hb hby d2_3) rfl (XT.ii_ge_t hc3) (by decide) (by decide) kt) ?_
      refine OFin.to (T.setTop (mkF m 9 #[.val (.int p0)] [(.int p0)])) (fun _ kt => XS.iloadN X.here hx rfl (hb hby d2_8) rfl kt) ?_
      refine OFin.to (T.setTop (mkF m 11 #[.val (.int p0)] [(.int (983039 : Int32)), (.int p0)])) (fun _ kt => X.ldcI hx hown (mvT hZ (hw _ (List.mem_of_getElem? (i := 11) rfl))) (g := (mkF m 9 #[.val (.int p0)] [(.int p0)])) rfl (hb hby d2_9) kt) ?_
      by_cases hc11 : (983039 : Int32) < p0
      · have hr := (if_pos hc11).symm.trans hr
        refine OFin.to (T.setTop (mkF m 14 #[.val (.int p0)] [])) (fun _ kt => XS.icmpNo X.here hx rfl (hb hby d2_11) rfl (XT.ii_le_f hc11) kt) ?_
        refine OFin.to (T.setTop (mkF m 15 #[.val (.int p0)] [(.int (1 : Int32))])) (fun _ kt => XS.iconst X.here hx rfl (hb hby d2_14) kt) ?_
        exact OFin.retZ X hx (t := .boolean) hret (by simp) hlk (hb hby d2_15) hc hs (own_q (own_nar1.trans hr) eT hQ)
      · have hr := (if_neg hc11).symm.trans hr
        refine OFin.to (T.setTop (mkF m 16 #[.val (.int p0)] [])) (fun _ kt => XS.icmpYes X.here hx rfl (pc0 := 11) (pc' := 16) rfl (hb hby d2_11) rfl (XT.ii_le_t hc11) (by decide) (by decide) kt) ?_
        refine OFin.to (T.setTop (mkF m 17 #[.val (.int p0)] [(.int p0)])) (fun _ kt => XS.iloadN X.here hx rfl (hb hby d2_16) rfl kt) ?_
        refine OFin.to (T.setTop (mkF m 19 #[.val (.int p0)] [(.int (91 : Int32)), (.int p0)])) (fun _ kt => XS.bipush X.here hx rfl (hb hby d2_17) kt) ?_
        refine OFin.to (T.setTop (mkF m 21 #[.val (.int p0)] [(.int (94 : Int32)), (.int (91 : Int32)), (.int p0)])) (fun _ kt => XS.bipush X.here hx rfl (hb hby d2_19) kt) ?_
        obtain ⟨T1, X1, e1, st1⟩ := own_callSP X hx hZ hown (hw _ (List.mem_of_getElem? (i := 12) rfl)) (hw _ (List.mem_of_getElem? (i := 13) rfl)) (hw _ (List.mem_of_getElem? (i := 9) rfl)) (hw _ (List.mem_of_getElem? (i := 14) rfl)) (by decide) eT (rm3 l Z a0 hw [] p0 (91 : Int32) (94 : Int32) h ) rfl rfl 0 (by decide) (by decide) hcR hsR (g := (mkF m 21 #[.val (.int p0)] [(.int (94 : Int32)), (.int (91 : Int32)), (.int p0)])) rfl (by rw [hml]; rfl) (rest := []) (lenOf pd_0 rfl) rfl (by show 2 * 0 + _ ≤ _; exact Nat.le_of_eq rfl) (hb hby d2_21)
        refine OFin.to (T1.setTop (mkF m 24 #[.val (.int p0)] [(.int (f3_0 p0 (91 : Int32) (94 : Int32)))])) st1 ?_
        by_cases hc24 : (f3_0 p0 (91 : Int32) (94 : Int32)) = (0 : Int32)
        · have hr := (if_pos hc24).symm.trans hr
          refine OFin.to (T1.setTop (mkF m 27 #[.val (.int p0)] [])) (fun _ kt => XS.ifNo X1.here hx rfl (hb hby d2_24) rfl (XT.i0_ne_f hc24) kt) ?_
          refine OFin.to (T1.setTop (mkF m 28 #[.val (.int p0)] [(.int p0)])) (fun _ kt => XS.iloadN X1.here hx rfl (hb hby d2_27) rfl kt) ?_
          refine OFin.to (T1.setTop (mkF m 30 #[.val (.int p0)] [(.int (96 : Int32)), (.int p0)])) (fun _ kt => XS.bipush X1.here hx rfl (hb hby d2_28) kt) ?_
          by_cases hc30 : p0 = (96 : Int32)
          · have hr := (if_pos hc30).symm.trans hr
            refine OFin.to (T1.setTop (mkF m 45 #[.val (.int p0)] [])) (fun _ kt => XS.icmpYes X1.here hx rfl (pc0 := 30) (pc' := 45) rfl (hb hby d2_30) rfl (XT.ii_eq_t hc30) (by decide) (by decide) kt) ?_
            exact B45 T1 p0 X1 e1 hr
          · have hr := (if_neg hc30).symm.trans hr
            refine OFin.to (T1.setTop (mkF m 33 #[.val (.int p0)] [])) (fun _ kt => XS.icmpNo X1.here hx rfl (hb hby d2_30) rfl (XT.ii_eq_f hc30) kt) ?_
            refine OFin.to (T1.setTop (mkF m 34 #[.val (.int p0)] [(.int p0)])) (fun _ kt => XS.iloadN X1.here hx rfl (hb hby d2_33) rfl kt) ?_
            refine OFin.to (T1.setTop (mkF m 36 #[.val (.int p0)] [(.int (123 : Int32)), (.int p0)])) (fun _ kt => XS.bipush X1.here hx rfl (hb hby d2_34) kt) ?_
            refine OFin.to (T1.setTop (mkF m 39 #[.val (.int p0)] [(.int (191 : Int32)), (.int (123 : Int32)), (.int p0)])) (fun _ kt => XS.sipush X1.here hx rfl (hb hby d2_36) kt) ?_
            obtain ⟨T2, X2, e2, st2⟩ := own_callSP X1 hx hZ hown (hw _ (List.mem_of_getElem? (i := 12) rfl)) (hw _ (List.mem_of_getElem? (i := 13) rfl)) (hw _ (List.mem_of_getElem? (i := 9) rfl)) (hw _ (List.mem_of_getElem? (i := 14) rfl)) (by decide) e1 (rm3 l Z a0 hw [] p0 (123 : Int32) (191 : Int32) h ) rfl rfl 0 (by decide) (by decide) hcR hsR (g := (mkF m 39 #[.val (.int p0)] [(.int (191 : Int32)), (.int (123 : Int32)), (.int p0)])) rfl (by rw [hml]; rfl) (rest := []) (lenOf pd_0 rfl) rfl (by show 2 * 0 + _ ≤ _; exact Nat.le_of_eq rfl) (hb hby d2_39)
            refine OFin.to (T2.setTop (mkF m 42 #[.val (.int p0)] [(.int (f3_0 p0 (123 : Int32) (191 : Int32)))])) st2 ?_
            by_cases hc42 : (f3_0 p0 (123 : Int32) (191 : Int32)) = (0 : Int32)
            · have hr := (if_pos hc42).symm.trans hr
              refine OFin.to (T2.setTop (mkF m 47 #[.val (.int p0)] [])) (fun _ kt => XS.ifYes X2.here hx rfl (pc0 := 42) (pc' := 47) rfl (hb hby d2_42) rfl (XT.i0_eq_t hc42) (by decide) (by decide) kt) ?_
              refine OFin.to (T2.setTop (mkF m 48 #[.val (.int p0)] [(.int p0)])) (fun _ kt => XS.iloadN X2.here hx rfl (hb hby d2_47) rfl kt) ?_
              refine OFin.to (T2.setTop (mkF m 51 #[.val (.int p0)] [(.int (215 : Int32)), (.int p0)])) (fun _ kt => XS.sipush X2.here hx rfl (hb hby d2_48) kt) ?_
              by_cases hc51 : p0 = (215 : Int32)
              · have hr := (if_pos hc51).symm.trans hr
                refine OFin.to (T2.setTop (mkF m 61 #[.val (.int p0)] [])) (fun _ kt => XS.icmpYes X2.here hx rfl (pc0 := 51) (pc' := 61) rfl (hb hby d2_51) rfl (XT.ii_eq_t hc51) (by decide) (by decide) kt) ?_
                exact B61 T2 p0 X2 e2 hr
              · have hr := (if_neg hc51).symm.trans hr
                refine OFin.to (T2.setTop (mkF m 54 #[.val (.int p0)] [])) (fun _ kt => XS.icmpNo X2.here hx rfl (hb hby d2_51) rfl (XT.ii_eq_f hc51) kt) ?_
                refine OFin.to (T2.setTop (mkF m 55 #[.val (.int p0)] [(.int p0)])) (fun _ kt => XS.iloadN X2.here hx rfl (hb hby d2_54) rfl kt) ?_
                refine OFin.to (T2.setTop (mkF m 58 #[.val (.int p0)] [(.int (247 : Int32)), (.int p0)])) (fun _ kt => XS.sipush X2.here hx rfl (hb hby d2_55) kt) ?_
                by_cases hc58 : p0 = (247 : Int32)
                · have hr := (if_pos hc58).symm.trans hr
                  refine OFin.to (T2.setTop (mkF m 61 #[.val (.int p0)] [])) (fun _ kt => XS.icmpNo X2.here hx rfl (hb hby d2_58) rfl (XT.ii_ne_f hc58) kt) ?_
                  exact B61 T2 p0 X2 e2 hr
                · have hr := (if_neg hc58).symm.trans hr
                  refine OFin.to (T2.setTop (mkF m 63 #[.val (.int p0)] [])) (fun _ kt => XS.icmpYes X2.here hx rfl (pc0 := 58) (pc' := 63) rfl (hb hby d2_58) rfl (XT.ii_ne_t hc58) (by decide) (by decide) kt) ?_
                  refine OFin.to (T2.setTop (mkF m 64 #[.val (.int p0)] [(.int p0)])) (fun _ kt => XS.iloadN X2.here hx rfl (hb hby d2_63) rfl kt) ?_
                  refine OFin.to (T2.setTop (mkF m 67 #[.val (.int p0)] [(.int (768 : Int32)), (.int p0)])) (fun _ kt => XS.sipush X2.here hx rfl (hb hby d2_64) kt) ?_
                  refine OFin.to (T2.setTop (mkF m 70 #[.val (.int p0)] [(.int (879 : Int32)), (.int (768 : Int32)), (.int p0)])) (fun _ kt => XS.sipush X2.here hx rfl (hb hby d2_67) kt) ?_
                  obtain ⟨T3, X3, e3, st3⟩ := own_callSP X2 hx hZ hown (hw _ (List.mem_of_getElem? (i := 12) rfl)) (hw _ (List.mem_of_getElem? (i := 13) rfl)) (hw _ (List.mem_of_getElem? (i := 9) rfl)) (hw _ (List.mem_of_getElem? (i := 14) rfl)) (by decide) e2 (rm3 l Z a0 hw [] p0 (768 : Int32) (879 : Int32) h ) rfl rfl 0 (by decide) (by decide) hcR hsR (g := (mkF m 70 #[.val (.int p0)] [(.int (879 : Int32)), (.int (768 : Int32)), (.int p0)])) rfl (by rw [hml]; rfl) (rest := []) (lenOf pd_0 rfl) rfl (by show 2 * 0 + _ ≤ _; exact Nat.le_of_eq rfl) (hb hby d2_70)
                  refine OFin.to (T3.setTop (mkF m 73 #[.val (.int p0)] [(.int (f3_0 p0 (768 : Int32) (879 : Int32)))])) st3 ?_
                  by_cases hc73 : (f3_0 p0 (768 : Int32) (879 : Int32)) = (0 : Int32)
                  · have hr := (if_pos hc73).symm.trans hr
                    refine OFin.to (T3.setTop (mkF m 76 #[.val (.int p0)] [])) (fun _ kt => XS.ifNo X3.here hx rfl (hb hby d2_73) rfl (XT.i0_ne_f hc73) kt) ?_
                    refine OFin.to (T3.setTop (mkF m 77 #[.val (.int p0)] [(.int p0)])) (fun _ kt => XS.iloadN X3.here hx rfl (hb hby d2_76) rfl kt) ?_
                    refine OFin.to (T3.setTop (mkF m 80 #[.val (.int p0)] [(.int (894 : Int32)), (.int p0)])) (fun _ kt => XS.sipush X3.here hx rfl (hb hby d2_77) kt) ?_
                    by_cases hc80 : p0 = (894 : Int32)
                    · have hr := (if_pos hc80).symm.trans hr
                      refine OFin.to (T3.setTop (mkF m 83 #[.val (.int p0)] [])) (fun _ kt => XS.icmpNo X3.here hx rfl (hb hby d2_80) rfl (XT.ii_ne_f hc80) kt) ?_
                      exact B83 T3 p0 X3 e3 hr
                    · have hr := (if_neg hc80).symm.trans hr
                      refine OFin.to (T3.setTop (mkF m 85 #[.val (.int p0)] [])) (fun _ kt => XS.icmpYes X3.here hx rfl (pc0 := 80) (pc' := 85) rfl (hb hby d2_80) rfl (XT.ii_ne_t hc80) (by decide) (by decide) kt) ?_
                      refine OFin.to (T3.setTop (mkF m 86 #[.val (.int p0)] [(.int p0)])) (fun _ kt => XS.iloadN X3.here hx rfl (hb hby d2_85) rfl kt) ?_
                      refine OFin.to (T3.setTop (mkF m 89 #[.val (.int p0)] [(.int (8192 : Int32)), (.int p0)])) (fun _ kt => XS.sipush X3.here hx rfl (hb hby d2_86) kt) ?_
                      refine OFin.to (T3.setTop (mkF m 92 #[.val (.int p0)] [(.int (8203 : Int32)), (.int (8192 : Int32)), (.int p0)])) (fun _ kt => XS.sipush X3.here hx rfl (hb hby d2_89) kt) ?_
                      obtain ⟨T4, X4, e4, st4⟩ := own_callSP X3 hx hZ hown (hw _ (List.mem_of_getElem? (i := 12) rfl)) (hw _ (List.mem_of_getElem? (i := 13) rfl)) (hw _ (List.mem_of_getElem? (i := 9) rfl)) (hw _ (List.mem_of_getElem? (i := 14) rfl)) (by decide) e3 (rm3 l Z a0 hw [] p0 (8192 : Int32) (8203 : Int32) h ) rfl rfl 0 (by decide) (by decide) hcR hsR (g := (mkF m 92 #[.val (.int p0)] [(.int (8203 : Int32)), (.int (8192 : Int32)), (.int p0)])) rfl (by rw [hml]; rfl) (rest := []) (lenOf pd_0 rfl) rfl (by show 2 * 0 + _ ≤ _; exact Nat.le_of_eq rfl) (hb hby d2_92)
                      refine OFin.to (T4.setTop (mkF m 95 #[.val (.int p0)] [(.int (f3_0 p0 (8192 : Int32) (8203 : Int32)))])) st4 ?_
                      by_cases hc95 : (f3_0 p0 (8192 : Int32) (8203 : Int32)) = (0 : Int32)
                      · have hr := (if_pos hc95).symm.trans hr
                        refine OFin.to (T4.setTop (mkF m 98 #[.val (.int p0)] [])) (fun _ kt => XS.ifNo X4.here hx rfl (hb hby d2_95) rfl (XT.i0_ne_f hc95) kt) ?_
                        refine OFin.to (T4.setTop (mkF m 99 #[.val (.int p0)] [(.int p0)])) (fun _ kt => XS.iloadN X4.here hx rfl (hb hby d2_98) rfl kt) ?_
                        refine OFin.to (T4.setTop (mkF m 102 #[.val (.int p0)] [(.int (8206 : Int32)), (.int p0)])) (fun _ kt => XS.sipush X4.here hx rfl (hb hby d2_99) kt) ?_
                        refine OFin.to (T4.setTop (mkF m 105 #[.val (.int p0)] [(.int (8303 : Int32)), (.int (8206 : Int32)), (.int p0)])) (fun _ kt => XS.sipush X4.here hx rfl (hb hby d2_102) kt) ?_
                        obtain ⟨T5, X5, e5, st5⟩ := own_callSP X4 hx hZ hown (hw _ (List.mem_of_getElem? (i := 12) rfl)) (hw _ (List.mem_of_getElem? (i := 13) rfl)) (hw _ (List.mem_of_getElem? (i := 9) rfl)) (hw _ (List.mem_of_getElem? (i := 14) rfl)) (by decide) e4 (rm3 l Z a0 hw [] p0 (8206 : Int32) (8303 : Int32) h ) rfl rfl 0 (by decide) (by decide) hcR hsR (g := (mkF m 105 #[.val (.int p0)] [(.int (8303 : Int32)), (.int (8206 : Int32)), (.int p0)])) rfl (by rw [hml]; rfl) (rest := []) (lenOf pd_0 rfl) rfl (by show 2 * 0 + _ ≤ _; exact Nat.le_of_eq rfl) (hb hby d2_105)
                        refine OFin.to (T5.setTop (mkF m 108 #[.val (.int p0)] [(.int (f3_0 p0 (8206 : Int32) (8303 : Int32)))])) st5 ?_
                        by_cases hc108 : (f3_0 p0 (8206 : Int32) (8303 : Int32)) = (0 : Int32)
                        · have hr := (if_pos hc108).symm.trans hr
                          refine OFin.to (T5.setTop (mkF m 113 #[.val (.int p0)] [])) (fun _ kt => XS.ifYes X5.here hx rfl (pc0 := 108) (pc' := 113) rfl (hb hby d2_108) rfl (XT.i0_eq_t hc108) (by decide) (by decide) kt) ?_
                          refine OFin.to (T5.setTop (mkF m 114 #[.val (.int p0)] [(.int p0)])) (fun _ kt => XS.iloadN X5.here hx rfl (hb hby d2_113) rfl kt) ?_
                          refine OFin.to (T5.setTop (mkF m 117 #[.val (.int p0)] [(.int (8592 : Int32)), (.int p0)])) (fun _ kt => XS.sipush X5.here hx rfl (hb hby d2_114) kt) ?_
                          refine OFin.to (T5.setTop (mkF m 120 #[.val (.int p0)] [(.int (11263 : Int32)), (.int (8592 : Int32)), (.int p0)])) (fun _ kt => XS.sipush X5.here hx rfl (hb hby d2_117) kt) ?_
                          obtain ⟨T6, X6, e6, st6⟩ := own_callSP X5 hx hZ hown (hw _ (List.mem_of_getElem? (i := 12) rfl)) (hw _ (List.mem_of_getElem? (i := 13) rfl)) (hw _ (List.mem_of_getElem? (i := 9) rfl)) (hw _ (List.mem_of_getElem? (i := 14) rfl)) (by decide) e5 (rm3 l Z a0 hw [] p0 (8592 : Int32) (11263 : Int32) h ) rfl rfl 0 (by decide) (by decide) hcR hsR (g := (mkF m 120 #[.val (.int p0)] [(.int (11263 : Int32)), (.int (8592 : Int32)), (.int p0)])) rfl (by rw [hml]; rfl) (rest := []) (lenOf pd_0 rfl) rfl (by show 2 * 0 + _ ≤ _; exact Nat.le_of_eq rfl) (hb hby d2_120)
                          refine OFin.to (T6.setTop (mkF m 123 #[.val (.int p0)] [(.int (f3_0 p0 (8592 : Int32) (11263 : Int32)))])) st6 ?_
                          by_cases hc123 : (f3_0 p0 (8592 : Int32) (11263 : Int32)) = (0 : Int32)
                          · have hr := (if_pos hc123).symm.trans hr
                            refine OFin.to (T6.setTop (mkF m 126 #[.val (.int p0)] [])) (fun _ kt => XS.ifNo X6.here hx rfl (hb hby d2_123) rfl (XT.i0_ne_f hc123) kt) ?_
                            refine OFin.to (T6.setTop (mkF m 127 #[.val (.int p0)] [(.int p0)])) (fun _ kt => XS.iloadN X6.here hx rfl (hb hby d2_126) rfl kt) ?_
                            refine OFin.to (T6.setTop (mkF m 130 #[.val (.int p0)] [(.int (12272 : Int32)), (.int p0)])) (fun _ kt => XS.sipush X6.here hx rfl (hb hby d2_127) kt) ?_
                            refine OFin.to (T6.setTop (mkF m 133 #[.val (.int p0)] [(.int (12288 : Int32)), (.int (12272 : Int32)), (.int p0)])) (fun _ kt => XS.sipush X6.here hx rfl (hb hby d2_130) kt) ?_
                            obtain ⟨T7, X7, e7, st7⟩ := own_callSP X6 hx hZ hown (hw _ (List.mem_of_getElem? (i := 12) rfl)) (hw _ (List.mem_of_getElem? (i := 13) rfl)) (hw _ (List.mem_of_getElem? (i := 9) rfl)) (hw _ (List.mem_of_getElem? (i := 14) rfl)) (by decide) e6 (rm3 l Z a0 hw [] p0 (12272 : Int32) (12288 : Int32) h ) rfl rfl 0 (by decide) (by decide) hcR hsR (g := (mkF m 133 #[.val (.int p0)] [(.int (12288 : Int32)), (.int (12272 : Int32)), (.int p0)])) rfl (by rw [hml]; rfl) (rest := []) (lenOf pd_0 rfl) rfl (by show 2 * 0 + _ ≤ _; exact Nat.le_of_eq rfl) (hb hby d2_133)
                            refine OFin.to (T7.setTop (mkF m 136 #[.val (.int p0)] [(.int (f3_0 p0 (12272 : Int32) (12288 : Int32)))])) st7 ?_
                            by_cases hc136 : (f3_0 p0 (12272 : Int32) (12288 : Int32)) = (0 : Int32)
                            · have hr := (if_pos hc136).symm.trans hr
                              refine OFin.to (T7.setTop (mkF m 141 #[.val (.int p0)] [])) (fun _ kt => XS.ifYes X7.here hx rfl (pc0 := 136) (pc' := 141) rfl (hb hby d2_136) rfl (XT.i0_eq_t hc136) (by decide) (by decide) kt) ?_
                              refine OFin.to (T7.setTop (mkF m 142 #[.val (.int p0)] [(.int p0)])) (fun _ kt => XS.iloadN X7.here hx rfl (hb hby d2_141) rfl kt) ?_
                              refine OFin.to (T7.setTop (mkF m 144 #[.val (.int p0)] [(.int (55296 : Int32)), (.int p0)])) (fun _ kt => X7.ldcI hx hown (mvT hZ (hw _ (List.mem_of_getElem? (i := 15) rfl))) (g := (mkF m 142 #[.val (.int p0)] [(.int p0)])) rfl (hb hby d2_142) kt) ?_
                              refine OFin.to (T7.setTop (mkF m 146 #[.val (.int p0)] [(.int (63743 : Int32)), (.int (55296 : Int32)), (.int p0)])) (fun _ kt => X7.ldcI hx hown (mvT hZ (hw _ (List.mem_of_getElem? (i := 16) rfl))) (g := (mkF m 144 #[.val (.int p0)] [(.int (55296 : Int32)), (.int p0)])) rfl (hb hby d2_144) kt) ?_
                              obtain ⟨T8, X8, e8, st8⟩ := own_callSP X7 hx hZ hown (hw _ (List.mem_of_getElem? (i := 12) rfl)) (hw _ (List.mem_of_getElem? (i := 13) rfl)) (hw _ (List.mem_of_getElem? (i := 9) rfl)) (hw _ (List.mem_of_getElem? (i := 14) rfl)) (by decide) e7 (rm3 l Z a0 hw [] p0 (55296 : Int32) (63743 : Int32) h ) rfl rfl 0 (by decide) (by decide) hcR hsR (g := (mkF m 146 #[.val (.int p0)] [(.int (63743 : Int32)), (.int (55296 : Int32)), (.int p0)])) rfl (by rw [hml]; rfl) (rest := []) (lenOf pd_0 rfl) rfl (by show 2 * 0 + _ ≤ _; exact Nat.le_of_eq rfl) (hb hby d2_146)
                              refine OFin.to (T8.setTop (mkF m 149 #[.val (.int p0)] [(.int (f3_0 p0 (55296 : Int32) (63743 : Int32)))])) st8 ?_
                              by_cases hc149 : (f3_0 p0 (55296 : Int32) (63743 : Int32)) = (0 : Int32)
                              · have hr := (if_pos hc149).symm.trans hr
                                refine OFin.to (T8.setTop (mkF m 152 #[.val (.int p0)] [])) (fun _ kt => XS.ifNo X8.here hx rfl (hb hby d2_149) rfl (XT.i0_ne_f hc149) kt) ?_
                                refine OFin.to (T8.setTop (mkF m 153 #[.val (.int p0)] [(.int p0)])) (fun _ kt => XS.iloadN X8.here hx rfl (hb hby d2_152) rfl kt) ?_
                                refine OFin.to (T8.setTop (mkF m 155 #[.val (.int p0)] [(.int (64976 : Int32)), (.int p0)])) (fun _ kt => X8.ldcI hx hown (mvT hZ (hw _ (List.mem_of_getElem? (i := 17) rfl))) (g := (mkF m 153 #[.val (.int p0)] [(.int p0)])) rfl (hb hby d2_153) kt) ?_
                                refine OFin.to (T8.setTop (mkF m 157 #[.val (.int p0)] [(.int (65007 : Int32)), (.int (64976 : Int32)), (.int p0)])) (fun _ kt => X8.ldcI hx hown (mvT hZ (hw _ (List.mem_of_getElem? (i := 18) rfl))) (g := (mkF m 155 #[.val (.int p0)] [(.int (64976 : Int32)), (.int p0)])) rfl (hb hby d2_155) kt) ?_
                                obtain ⟨T9, X9, e9, st9⟩ := own_callSP X8 hx hZ hown (hw _ (List.mem_of_getElem? (i := 12) rfl)) (hw _ (List.mem_of_getElem? (i := 13) rfl)) (hw _ (List.mem_of_getElem? (i := 9) rfl)) (hw _ (List.mem_of_getElem? (i := 14) rfl)) (by decide) e8 (rm3 l Z a0 hw [] p0 (64976 : Int32) (65007 : Int32) h ) rfl rfl 0 (by decide) (by decide) hcR hsR (g := (mkF m 157 #[.val (.int p0)] [(.int (65007 : Int32)), (.int (64976 : Int32)), (.int p0)])) rfl (by rw [hml]; rfl) (rest := []) (lenOf pd_0 rfl) rfl (by show 2 * 0 + _ ≤ _; exact Nat.le_of_eq rfl) (hb hby d2_157)
                                refine OFin.to (T9.setTop (mkF m 160 #[.val (.int p0)] [(.int (f3_0 p0 (64976 : Int32) (65007 : Int32)))])) st9 ?_
                                by_cases hc160 : (f3_0 p0 (64976 : Int32) (65007 : Int32)) = (0 : Int32)
                                · have hr := (if_pos hc160).symm.trans hr
                                  refine OFin.to (T9.setTop (mkF m 165 #[.val (.int p0)] [])) (fun _ kt => XS.ifYes X9.here hx rfl (pc0 := 160) (pc' := 165) rfl (hb hby d2_160) rfl (XT.i0_eq_t hc160) (by decide) (by decide) kt) ?_
                                  refine OFin.to (T9.setTop (mkF m 166 #[.val (.int p0)] [(.int p0)])) (fun _ kt => XS.iloadN X9.here hx rfl (hb hby d2_165) rfl kt) ?_
                                  refine OFin.to (T9.setTop (mkF m 168 #[.val (.int p0)] [(.int (65534 : Int32)), (.int p0)])) (fun _ kt => X9.ldcI hx hown (mvT hZ (hw _ (List.mem_of_getElem? (i := 19) rfl))) (g := (mkF m 166 #[.val (.int p0)] [(.int p0)])) rfl (hb hby d2_166) kt) ?_
                                  refine OFin.to (T9.setTop (mkF m 170 #[.val (.int p0)] [(.int (65535 : Int32)), (.int (65534 : Int32)), (.int p0)])) (fun _ kt => X9.ldcI hx hown (mvT hZ (hw _ (List.mem_of_getElem? (i := 20) rfl))) (g := (mkF m 168 #[.val (.int p0)] [(.int (65534 : Int32)), (.int p0)])) rfl (hb hby d2_168) kt) ?_
                                  obtain ⟨T10, X10, e10, st10⟩ := own_callSP X9 hx hZ hown (hw _ (List.mem_of_getElem? (i := 12) rfl)) (hw _ (List.mem_of_getElem? (i := 13) rfl)) (hw _ (List.mem_of_getElem? (i := 9) rfl)) (hw _ (List.mem_of_getElem? (i := 14) rfl)) (by decide) e9 (rm3 l Z a0 hw [] p0 (65534 : Int32) (65535 : Int32) h ) rfl rfl 0 (by decide) (by decide) hcR hsR (g := (mkF m 170 #[.val (.int p0)] [(.int (65535 : Int32)), (.int (65534 : Int32)), (.int p0)])) rfl (by rw [hml]; rfl) (rest := []) (lenOf pd_0 rfl) rfl (by show 2 * 0 + _ ≤ _; exact Nat.le_of_eq rfl) (hb hby d2_170)
                                  refine OFin.to (T10.setTop (mkF m 173 #[.val (.int p0)] [(.int (f3_0 p0 (65534 : Int32) (65535 : Int32)))])) st10 ?_
                                  exact OFin.retZ X10 hx (t := .boolean) hret (by simp) hlk (hb hby d2_173) hc hs (own_q (hr) e10 hQ)
                                · have hr := (if_neg hc160).symm.trans hr
                                  refine OFin.to (T9.setTop (mkF m 163 #[.val (.int p0)] [])) (fun _ kt => XS.ifNo X9.here hx rfl (hb hby d2_160) rfl (XT.i0_eq_f hc160) kt) ?_
                                  exact B163 T9 p0 X9 e9 hr
                              · have hr := (if_neg hc149).symm.trans hr
                                refine OFin.to (T8.setTop (mkF m 163 #[.val (.int p0)] [])) (fun _ kt => XS.ifYes X8.here hx rfl (pc0 := 149) (pc' := 163) rfl (hb hby d2_149) rfl (XT.i0_ne_t hc149) (by decide) (by decide) kt) ?_
                                exact B163 T8 p0 X8 e8 hr
                            · have hr := (if_neg hc136).symm.trans hr
                              refine OFin.to (T7.setTop (mkF m 139 #[.val (.int p0)] [])) (fun _ kt => XS.ifNo X7.here hx rfl (hb hby d2_136) rfl (XT.i0_eq_f hc136) kt) ?_
                              exact B139 T7 p0 X7 e7 hr
                          · have hr := (if_neg hc123).symm.trans hr
                            refine OFin.to (T6.setTop (mkF m 139 #[.val (.int p0)] [])) (fun _ kt => XS.ifYes X6.here hx rfl (pc0 := 123) (pc' := 139) rfl (hb hby d2_123) rfl (XT.i0_ne_t hc123) (by decide) (by decide) kt) ?_
                            exact B139 T6 p0 X6 e6 hr
                        · have hr := (if_neg hc108).symm.trans hr
                          refine OFin.to (T5.setTop (mkF m 111 #[.val (.int p0)] [])) (fun _ kt => XS.ifNo X5.here hx rfl (hb hby d2_108) rfl (XT.i0_eq_f hc108) kt) ?_
                          exact B111 T5 p0 X5 e5 hr
                      · have hr := (if_neg hc95).symm.trans hr
                        refine OFin.to (T4.setTop (mkF m 111 #[.val (.int p0)] [])) (fun _ kt => XS.ifYes X4.here hx rfl (pc0 := 95) (pc' := 111) rfl (hb hby d2_95) rfl (XT.i0_ne_t hc95) (by decide) (by decide) kt) ?_
                        exact B111 T4 p0 X4 e4 hr
                  · have hr := (if_neg hc73).symm.trans hr
                    refine OFin.to (T3.setTop (mkF m 83 #[.val (.int p0)] [])) (fun _ kt => XS.ifYes X3.here hx rfl (pc0 := 73) (pc' := 83) rfl (hb hby d2_73) rfl (XT.i0_ne_t hc73) (by decide) (by decide) kt) ?_
                    exact B83 T3 p0 X3 e3 hr
            · have hr := (if_neg hc42).symm.trans hr
              refine OFin.to (T2.setTop (mkF m 45 #[.val (.int p0)] [])) (fun _ kt => XS.ifNo X2.here hx rfl (hb hby d2_42) rfl (XT.i0_eq_f hc42) kt) ?_
              exact B45 T2 p0 X2 e2 hr
        · have hr := (if_neg hc24).symm.trans hr
          refine OFin.to (T1.setTop (mkF m 45 #[.val (.int p0)] [])) (fun _ kt => XS.ifYes X1.here hx rfl (pc0 := 24) (pc' := 45) rfl (hb hby d2_24) rfl (XT.i0_ne_t hc24) (by decide) (by decide) kt) ?_
          exact B45 T1 p0 X1 e1 hr
  exact B0 T p0 X eT hr0
theorem pn_2 : plainName "com/example/sarana/sarana/model/XmlCharactersIsNameStartCharPinLaw" = true := by first | (simp [plainName, overriddenIn]; done) | decide +kernel
theorem ef_2 (m : MethodId) (p0 : Int32) : entryFrame m #[(.int p0)] 1 = mkF m 0 #[.val (.int p0)] [] := by first | (simp [entryFrame, mkF, argsToLocals, Value.category]; done) | rfl
set_option maxRecDepth 65536 in
set_option maxHeartbeats 40000000 in
theorem rm2 (l : Launch) (Z : State) (a0 : Array Value) (hw : ∀ d ∈ tables_1, d.before a0 Z = true) (ws : List Jvm.Cond) (p0 : Int32) (h0 : Heap) :
    MetFree l (⟨"com/example/sarana/sarana/model/XmlCharactersIsNameStartCharPinLaw", "inGap", "(I)Z"⟩ : MethodName) (head1 (Jvm.Cond.code (⟨"com/example/sarana/sarana/model/XmlCharactersIsNameStartCharPinLaw", "inGap", "(I)Z"⟩ : MethodName) method_3_code 1 (some .boolean) :: ws) ({ frames := 1, cells := 0, slots := 0, locals := 14 } : Room)) (fun a U => a = #[(.int p0)] ∧ Z.Warmed39 U.vm ∧ U.heap = h0) (fun _ _ _ _ _ => True) (fun _ U o U' => ∃ v L, o = .returned v ∧ OQ (fun v h L => v = some (.int (f2_0 p0)) ∧ h = h0 ∧ L = []) v U'.heap L ∧ FrameEnd U o U' L ({ frames := 1, cells := 0, slots := 0, locals := 14 } : Room).cells ({ frames := 1, cells := 0, slots := 0, locals := 14 } : Room).slots) := by
  refine MetFree.of_bodySF (plainFor_of_name pn_2) hisR ?_
  intro p e s m args below meth c s₁ Bd hml0 hP hK
  obtain ⟨rfl, hZ, hh⟩ := hP
  have hx := Bd.exec
  have hby := Bd.bytes
  have hml : c.maxLocals = 1 := hml0
  have hown : s.vm.findClass "com/example/sarana/sarana/model/XmlCharactersIsNameStartCharPinLaw" = some m.cls := findClass_of_methodNamed Bd.named
  have hnm := (name_of_methodNamed Bd.named Bd.method).1
  have hret := Bd.returns
  have hlk : meth.locks = false := Bd.notSynchronized
  have X0 : Stand p l e ({ frames := 1, cells := 0, slots := 0, locals := 14 } : Room) s m #[(.int p0)] below meth c s₁ [] 0 0 := Stand.of_body Bd
  have e0 : s₁.heap = h0 := by rw [← hh, Bd.state]; rfl
  refine OFin.start (Q := fun v h L => v = some (.int (f2_0 p0)) ∧ h = h0 ∧ L = []) (s := s) (fun t k => castTop (ef_2 m p0) k) ?_
  exact ro2_0 p0 X0 hx hZ hw hby hml hown hret hlk e0 (Nat.zero_le _) (Nat.zero_le _) (Nat.zero_le _) (Nat.zero_le _)  ⟨rfl, rfl, rfl⟩
def f0_24 (i0 : Int32) (t0 : Int32) : Int32 := (nar .boolean t0)
def f0_16 (i0 : Int32) (t0 : Int32) (t1 : Int32) : Int32 := (if t1 = t0 then (f0_24 i0 (1 : Int32)) else (f0_24 i0 (0 : Int32)))
def f0_0 (p0 : Int32) : Int32 := (if (f2_0 p0) = (0 : Int32) then (f0_16 p0 (1 : Int32) (f1_0 p0)) else (f0_16 p0 (0 : Int32) (f1_0 p0)))
set_option maxRecDepth 65536 in
set_option maxHeartbeats 40000000 in
theorem ro0_0 {p : Program} {l : Launch} {e : Env} {s : State} {m : MethodId} {args : Array Value} {below : List Frame} {meth : Method} {c : Code} {T : State} {locs : List Loc} {cells slots : Nat} {Z : State} {a0 : Array Value} {h : Heap} {ce sl : Nat} {Q : Option Value → Heap → List Loc → Prop} (p0 : Int32)
    (X : Stand p l e room_1 s m args below meth c T locs cells slots) (hx : p.tables.exec = Jvm.exec) (hZ : Z.Warmed39 s.vm) (hw : ∀ d ∈ tables_1, d.before a0 Z = true) (hby : c.code = code) (hml : c.maxLocals = 1) (hown : s.vm.findClass "com/example/sarana/sarana/model/XmlCharactersIsNameStartCharPinLaw" = some m.cls) (hret : meth.sig.returnType = some .boolean) (hlk : meth.locks = false) (eT : T.heap = h) (hc : cells ≤ ce) (hs : slots ≤ sl) (hcR : cells ≤ (room_1).cells) (hsR : slots ≤ (room_1).slots)
    (hQ : Q (some (.int (f0_0 p0))) h locs) : OFin p e below s ce sl Q (T.setTop (mkF m 0 #[.val (.int p0)] [])) := by
  obtain ⟨r, hr0⟩ : ∃ r, f0_0 p0 = r := ⟨_, rfl⟩
  rw [hr0] at hQ
  have B24 : ∀ (T : State) (i0 : Int32) (t0 : Int32), Stand p l e room_1 s m args below meth c T locs cells slots → T.heap = h → f0_24 i0 t0 = r → OFin p e below s ce sl Q (T.setTop (mkF m 24 #[.val (.int i0)] [(.int t0)])) := by
    intro T i0 t0 X eT hr
    exact OFin.retZ X hx (t := .boolean) hret (by simp) hlk (hb hby at_24) hc hs (own_q (hr) eT hQ)
  have B16 : ∀ (T : State) (i0 : Int32) (t0 : Int32) (t1 : Int32), Stand p l e room_1 s m args below meth c T locs cells slots → T.heap = h → f0_16 i0 t0 t1 = r → OFin p e below s ce sl Q (T.setTop (mkF m 16 #[.val (.int i0)] [(.int t0), (.int t1)])) := by
    intro T i0 t0 t1 X eT hr
    by_cases hc16 : t1 = t0
    · have hr := (if_pos hc16).symm.trans hr
      refine OFin.to (T.setTop (mkF m 19 #[.val (.int i0)] [])) (fun _ kt => XS.icmpNo X.here hx rfl (hb hby at_16) rfl (XT.ii_ne_f hc16) kt) ?_
      refine OFin.to (T.setTop (mkF m 20 #[.val (.int i0)] [(.int (1 : Int32))])) (fun _ kt => XS.iconst X.here hx rfl (hb hby at_19) kt) ?_
      refine OFin.to (T.setTop (mkF m 24 #[.val (.int i0)] [(.int (1 : Int32))])) (fun _ kt => XS.goto X.here hx rfl (pc0 := 20) (pc' := 24) rfl (hb hby at_20) (by decide) (by decide) kt) ?_
      exact B24 T i0 (1 : Int32) X eT hr
    · have hr := (if_neg hc16).symm.trans hr
      refine OFin.to (T.setTop (mkF m 23 #[.val (.int i0)] [])) (fun _ kt => XS.icmpYes X.here hx rfl (pc0 := 16) (pc' := 23) rfl (hb hby at_16) rfl (XT.ii_ne_t hc16) (by decide) (by decide) kt) ?_
      refine OFin.to (T.setTop (mkF m 24 #[.val (.int i0)] [(.int (0 : Int32))])) (fun _ kt => XS.iconst X.here hx rfl (hb hby at_23) kt) ?_
      exact B24 T i0 (0 : Int32) X eT hr
  have B0 : ∀ (T : State) (p0 : Int32), Stand p l e room_1 s m args below meth c T locs cells slots → T.heap = h → f0_0 p0 = r → OFin p e below s ce sl Q (T.setTop (mkF m 0 #[.val (.int p0)] [])) := by
    intro T p0 X eT hr
    refine OFin.to (T.setTop (mkF m 1 #[.val (.int p0)] [(.int p0)])) (fun _ kt => XS.iloadN X.here hx rfl (hb hby at_0) rfl kt) ?_
    obtain ⟨T1, X1, e1, st1⟩ := own_callSP X hx hZ hown (hw _ (List.mem_of_getElem? (i := 0) rfl)) (hw _ (List.mem_of_getElem? (i := 1) rfl)) (hw _ (List.mem_of_getElem? (i := 2) rfl)) (hw _ (List.mem_of_getElem? (i := 3) rfl)) (by decide) eT (rm1 l Z a0 hw [] p0 h ) rfl rfl 0 (by decide) (by decide) hcR hsR (g := (mkF m 1 #[.val (.int p0)] [(.int p0)])) rfl (by rw [hml]; rfl) (rest := []) (lenOf pd_1 rfl) rfl (by show 2 * 0 + _ ≤ _; exact Nat.le_of_eq rfl) (hb hby at_1)
    refine OFin.to (T1.setTop (mkF m 4 #[.val (.int p0)] [(.int (f1_0 p0))])) st1 ?_
    refine OFin.to (T1.setTop (mkF m 5 #[.val (.int p0)] [(.int p0), (.int (f1_0 p0))])) (fun _ kt => XS.iloadN X1.here hx rfl (hb hby at_4) rfl kt) ?_
    obtain ⟨T2, X2, e2, st2⟩ := own_callSP X1 hx hZ hown (hw _ (List.mem_of_getElem? (i := 7) rfl)) (hw _ (List.mem_of_getElem? (i := 8) rfl)) (hw _ (List.mem_of_getElem? (i := 9) rfl)) (hw _ (List.mem_of_getElem? (i := 10) rfl)) (by decide) e1 (rm2 l Z a0 hw [] p0 h ) rfl rfl 1 (by decide) (by decide) hcR hsR (g := (mkF m 5 #[.val (.int p0)] [(.int p0), (.int (f1_0 p0))])) rfl (by rw [hml]; rfl) (rest := [(.int (f1_0 p0))]) (lenOf pd_1 rfl) rfl (by show 2 * 0 + _ ≤ _; exact Nat.le_of_eq rfl) (hb hby at_5)
    refine OFin.to (T2.setTop (mkF m 8 #[.val (.int p0)] [(.int (f2_0 p0)), (.int (f1_0 p0))])) st2 ?_
    by_cases hc8 : (f2_0 p0) = (0 : Int32)
    · have hr := (if_pos hc8).symm.trans hr
      refine OFin.to (T2.setTop (mkF m 11 #[.val (.int p0)] [(.int (f1_0 p0))])) (fun _ kt => XS.ifNo X2.here hx rfl (hb hby at_8) rfl (XT.i0_ne_f hc8) kt) ?_
      refine OFin.to (T2.setTop (mkF m 12 #[.val (.int p0)] [(.int (1 : Int32)), (.int (f1_0 p0))])) (fun _ kt => XS.iconst X2.here hx rfl (hb hby at_11) kt) ?_
      refine OFin.to (T2.setTop (mkF m 16 #[.val (.int p0)] [(.int (1 : Int32)), (.int (f1_0 p0))])) (fun _ kt => XS.goto X2.here hx rfl (pc0 := 12) (pc' := 16) rfl (hb hby at_12) (by decide) (by decide) kt) ?_
      exact B16 T2 p0 (1 : Int32) (f1_0 p0) X2 e2 hr
    · have hr := (if_neg hc8).symm.trans hr
      refine OFin.to (T2.setTop (mkF m 15 #[.val (.int p0)] [(.int (f1_0 p0))])) (fun _ kt => XS.ifYes X2.here hx rfl (pc0 := 8) (pc' := 15) rfl (hb hby at_8) rfl (XT.i0_ne_t hc8) (by decide) (by decide) kt) ?_
      refine OFin.to (T2.setTop (mkF m 16 #[.val (.int p0)] [(.int (0 : Int32)), (.int (f1_0 p0))])) (fun _ kt => XS.iconst X2.here hx rfl (hb hby at_15) kt) ?_
      exact B16 T2 p0 (0 : Int32) (f1_0 p0) X2 e2 hr
  exact B0 T p0 X eT hr0
theorem own_step (x lo hi A B : Int32) (hB : B = 1) : (if x < lo then A else (if hi < x then A else B)) = 1 ↔ (lo.toInt ≤ x.toInt ∧ x.toInt ≤ hi.toInt) ∨ A = 1 := by
  subst hB
  by_cases h1 : x < lo
  · rw [if_pos h1]
    rw [Int32.lt_iff_toInt_lt] at h1
    exact ⟨Or.inr, fun h => h.elim (fun q => by omega) id⟩
  · rw [if_neg h1]
    by_cases h2 : hi < x
    · rw [if_pos h2]
      rw [Int32.lt_iff_toInt_lt] at h2
      exact ⟨Or.inr, fun h => h.elim (fun q => by omega) id⟩
    · rw [if_neg h2]
      rw [Int32.lt_iff_toInt_lt] at h1 h2
      exact ⟨fun _ => Or.inl (by omega), fun _ => rfl⟩
theorem own_stepE (x c A B : Int32) (hB : B = 1) : (if x = c then B else A) = 1 ↔ x.toInt = c.toInt ∨ A = 1 := by
  subst hB
  by_cases h1 : x = c
  · rw [if_pos h1, h1]
    exact ⟨fun _ => Or.inl rfl, fun _ => rfl⟩
  · rw [if_neg h1]
    exact ⟨Or.inr, fun h => h.elim (fun q => absurd (Int32.toInt_inj.mp q) h1) id⟩
theorem own_01 (c : Prop) [Decidable c] (A B : Int32) (hA : A = 0 ∨ A = 1) (hB : B = 0 ∨ B = 1) : (if c then A else B) = 0 ∨ (if c then A else B) = 1 := by
  by_cases h : c
  · rw [if_pos h]; exact hA
  · rw [if_neg h]; exact hB
theorem own_yes (x : Int32) : f1_191 x = 1 := own_nar1
theorem own_no (x : Int32) : f1_195 x = 0 := own_nar0
theorem own_c179 (x : Int32) : f1_179 x = 1 ↔ (65536 ≤ x.toInt ∧ x.toInt ≤ 983039) := by
  refine (own_step x 65536 983039 (f1_195 x) _ (own_yes x)).trans ⟨fun h => h.elim id (fun q => ?_), Or.inl⟩
  rw [own_no] at q
  exact absurd q (by decide)
theorem own_d179 (x : Int32) : f1_179 x = 0 ∨ f1_179 x = 1 := by
  exact own_01 _ _ _ (Or.inl (own_no x)) (own_01 _ _ _ (Or.inl (own_no x)) (Or.inr (own_yes x)))
theorem own_c167 (x : Int32) : f1_167 x = 1 ↔ (65008 ≤ x.toInt ∧ x.toInt ≤ 65533) ∨ (65536 ≤ x.toInt ∧ x.toInt ≤ 983039) := by
  exact (own_step x 65008 65533 (f1_179 x) _ (own_yes x)).trans (or_congr Iff.rfl (own_c179 x))
theorem own_d167 (x : Int32) : f1_167 x = 0 ∨ f1_167 x = 1 := by
  exact own_01 _ _ _ (own_d179 x) (own_01 _ _ _ (own_d179 x) (Or.inr (own_yes x)))
theorem own_c155 (x : Int32) : f1_155 x = 1 ↔ (63744 ≤ x.toInt ∧ x.toInt ≤ 64975) ∨ (65008 ≤ x.toInt ∧ x.toInt ≤ 65533) ∨ (65536 ≤ x.toInt ∧ x.toInt ≤ 983039) := by
  exact (own_step x 63744 64975 (f1_167 x) _ (own_yes x)).trans (or_congr Iff.rfl (own_c167 x))
theorem own_d155 (x : Int32) : f1_155 x = 0 ∨ f1_155 x = 1 := by
  exact own_01 _ _ _ (own_d167 x) (own_01 _ _ _ (own_d167 x) (Or.inr (own_yes x)))
theorem own_c142 (x : Int32) : f1_142 x = 1 ↔ (12289 ≤ x.toInt ∧ x.toInt ≤ 55295) ∨ (63744 ≤ x.toInt ∧ x.toInt ≤ 64975) ∨ (65008 ≤ x.toInt ∧ x.toInt ≤ 65533) ∨ (65536 ≤ x.toInt ∧ x.toInt ≤ 983039) := by
  exact (own_step x 12289 55295 (f1_155 x) _ (own_yes x)).trans (or_congr Iff.rfl (own_c155 x))
theorem own_d142 (x : Int32) : f1_142 x = 0 ∨ f1_142 x = 1 := by
  exact own_01 _ _ _ (own_d155 x) (own_01 _ _ _ (own_d155 x) (Or.inr (own_yes x)))
theorem own_c128 (x : Int32) : f1_128 x = 1 ↔ (11264 ≤ x.toInt ∧ x.toInt ≤ 12271) ∨ (12289 ≤ x.toInt ∧ x.toInt ≤ 55295) ∨ (63744 ≤ x.toInt ∧ x.toInt ≤ 64975) ∨ (65008 ≤ x.toInt ∧ x.toInt ≤ 65533) ∨ (65536 ≤ x.toInt ∧ x.toInt ≤ 983039) := by
  exact (own_step x 11264 12271 (f1_142 x) _ (own_yes x)).trans (or_congr Iff.rfl (own_c142 x))
theorem own_d128 (x : Int32) : f1_128 x = 0 ∨ f1_128 x = 1 := by
  exact own_01 _ _ _ (own_d142 x) (own_01 _ _ _ (own_d142 x) (Or.inr (own_yes x)))
theorem own_c114 (x : Int32) : f1_114 x = 1 ↔ (8304 ≤ x.toInt ∧ x.toInt ≤ 8591) ∨ (11264 ≤ x.toInt ∧ x.toInt ≤ 12271) ∨ (12289 ≤ x.toInt ∧ x.toInt ≤ 55295) ∨ (63744 ≤ x.toInt ∧ x.toInt ≤ 64975) ∨ (65008 ≤ x.toInt ∧ x.toInt ≤ 65533) ∨ (65536 ≤ x.toInt ∧ x.toInt ≤ 983039) := by
  exact (own_step x 8304 8591 (f1_128 x) _ (own_yes x)).trans (or_congr Iff.rfl (own_c128 x))
theorem own_d114 (x : Int32) : f1_114 x = 0 ∨ f1_114 x = 1 := by
  exact own_01 _ _ _ (own_d128 x) (own_01 _ _ _ (own_d128 x) (Or.inr (own_yes x)))
theorem own_c100 (x : Int32) : f1_100 x = 1 ↔ (8204 ≤ x.toInt ∧ x.toInt ≤ 8205) ∨ (8304 ≤ x.toInt ∧ x.toInt ≤ 8591) ∨ (11264 ≤ x.toInt ∧ x.toInt ≤ 12271) ∨ (12289 ≤ x.toInt ∧ x.toInt ≤ 55295) ∨ (63744 ≤ x.toInt ∧ x.toInt ≤ 64975) ∨ (65008 ≤ x.toInt ∧ x.toInt ≤ 65533) ∨ (65536 ≤ x.toInt ∧ x.toInt ≤ 983039) := by
  exact (own_step x 8204 8205 (f1_114 x) _ (own_yes x)).trans (or_congr Iff.rfl (own_c114 x))
theorem own_d100 (x : Int32) : f1_100 x = 0 ∨ f1_100 x = 1 := by
  exact own_01 _ _ _ (own_d114 x) (own_01 _ _ _ (own_d114 x) (Or.inr (own_yes x)))
theorem own_c86 (x : Int32) : f1_86 x = 1 ↔ (895 ≤ x.toInt ∧ x.toInt ≤ 8191) ∨ (8204 ≤ x.toInt ∧ x.toInt ≤ 8205) ∨ (8304 ≤ x.toInt ∧ x.toInt ≤ 8591) ∨ (11264 ≤ x.toInt ∧ x.toInt ≤ 12271) ∨ (12289 ≤ x.toInt ∧ x.toInt ≤ 55295) ∨ (63744 ≤ x.toInt ∧ x.toInt ≤ 64975) ∨ (65008 ≤ x.toInt ∧ x.toInt ≤ 65533) ∨ (65536 ≤ x.toInt ∧ x.toInt ≤ 983039) := by
  exact (own_step x 895 8191 (f1_100 x) _ (own_yes x)).trans (or_congr Iff.rfl (own_c100 x))
theorem own_d86 (x : Int32) : f1_86 x = 0 ∨ f1_86 x = 1 := by
  exact own_01 _ _ _ (own_d100 x) (own_01 _ _ _ (own_d100 x) (Or.inr (own_yes x)))
theorem own_c72 (x : Int32) : f1_72 x = 1 ↔ (880 ≤ x.toInt ∧ x.toInt ≤ 893) ∨ (895 ≤ x.toInt ∧ x.toInt ≤ 8191) ∨ (8204 ≤ x.toInt ∧ x.toInt ≤ 8205) ∨ (8304 ≤ x.toInt ∧ x.toInt ≤ 8591) ∨ (11264 ≤ x.toInt ∧ x.toInt ≤ 12271) ∨ (12289 ≤ x.toInt ∧ x.toInt ≤ 55295) ∨ (63744 ≤ x.toInt ∧ x.toInt ≤ 64975) ∨ (65008 ≤ x.toInt ∧ x.toInt ≤ 65533) ∨ (65536 ≤ x.toInt ∧ x.toInt ≤ 983039) := by
  exact (own_step x 880 893 (f1_86 x) _ (own_yes x)).trans (or_congr Iff.rfl (own_c86 x))
theorem own_d72 (x : Int32) : f1_72 x = 0 ∨ f1_72 x = 1 := by
  exact own_01 _ _ _ (own_d86 x) (own_01 _ _ _ (own_d86 x) (Or.inr (own_yes x)))
theorem own_c58 (x : Int32) : f1_58 x = 1 ↔ (248 ≤ x.toInt ∧ x.toInt ≤ 767) ∨ (880 ≤ x.toInt ∧ x.toInt ≤ 893) ∨ (895 ≤ x.toInt ∧ x.toInt ≤ 8191) ∨ (8204 ≤ x.toInt ∧ x.toInt ≤ 8205) ∨ (8304 ≤ x.toInt ∧ x.toInt ≤ 8591) ∨ (11264 ≤ x.toInt ∧ x.toInt ≤ 12271) ∨ (12289 ≤ x.toInt ∧ x.toInt ≤ 55295) ∨ (63744 ≤ x.toInt ∧ x.toInt ≤ 64975) ∨ (65008 ≤ x.toInt ∧ x.toInt ≤ 65533) ∨ (65536 ≤ x.toInt ∧ x.toInt ≤ 983039) := by
  exact (own_step x 248 767 (f1_72 x) _ (own_yes x)).trans (or_congr Iff.rfl (own_c72 x))
theorem own_d58 (x : Int32) : f1_58 x = 0 ∨ f1_58 x = 1 := by
  exact own_01 _ _ _ (own_d72 x) (own_01 _ _ _ (own_d72 x) (Or.inr (own_yes x)))
theorem own_c44 (x : Int32) : f1_44 x = 1 ↔ (216 ≤ x.toInt ∧ x.toInt ≤ 246) ∨ (248 ≤ x.toInt ∧ x.toInt ≤ 767) ∨ (880 ≤ x.toInt ∧ x.toInt ≤ 893) ∨ (895 ≤ x.toInt ∧ x.toInt ≤ 8191) ∨ (8204 ≤ x.toInt ∧ x.toInt ≤ 8205) ∨ (8304 ≤ x.toInt ∧ x.toInt ≤ 8591) ∨ (11264 ≤ x.toInt ∧ x.toInt ≤ 12271) ∨ (12289 ≤ x.toInt ∧ x.toInt ≤ 55295) ∨ (63744 ≤ x.toInt ∧ x.toInt ≤ 64975) ∨ (65008 ≤ x.toInt ∧ x.toInt ≤ 65533) ∨ (65536 ≤ x.toInt ∧ x.toInt ≤ 983039) := by
  exact (own_step x 216 246 (f1_58 x) _ (own_yes x)).trans (or_congr Iff.rfl (own_c58 x))
theorem own_d44 (x : Int32) : f1_44 x = 0 ∨ f1_44 x = 1 := by
  exact own_01 _ _ _ (own_d58 x) (own_01 _ _ _ (own_d58 x) (Or.inr (own_yes x)))
theorem own_c24 (x : Int32) : f1_24 x = 1 ↔ x.toInt = 95 ∨ (192 ≤ x.toInt ∧ x.toInt ≤ 214) ∨ (216 ≤ x.toInt ∧ x.toInt ≤ 246) ∨ (248 ≤ x.toInt ∧ x.toInt ≤ 767) ∨ (880 ≤ x.toInt ∧ x.toInt ≤ 893) ∨ (895 ≤ x.toInt ∧ x.toInt ≤ 8191) ∨ (8204 ≤ x.toInt ∧ x.toInt ≤ 8205) ∨ (8304 ≤ x.toInt ∧ x.toInt ≤ 8591) ∨ (11264 ≤ x.toInt ∧ x.toInt ≤ 12271) ∨ (12289 ≤ x.toInt ∧ x.toInt ≤ 55295) ∨ (63744 ≤ x.toInt ∧ x.toInt ≤ 64975) ∨ (65008 ≤ x.toInt ∧ x.toInt ≤ 65533) ∨ (65536 ≤ x.toInt ∧ x.toInt ≤ 983039) := by
  refine (own_stepE x 95 _ _ (own_yes x)).trans (or_congr Iff.rfl ?_)
  exact (own_step x 192 214 (f1_44 x) _ (own_yes x)).trans (or_congr Iff.rfl (own_c44 x))
theorem own_d24 (x : Int32) : f1_24 x = 0 ∨ f1_24 x = 1 := by
  exact own_01 _ _ _ (Or.inr (own_yes x)) (own_01 _ _ _ (own_d44 x) (own_01 _ _ _ (own_d44 x) (Or.inr (own_yes x))))
theorem own_c12 (x : Int32) : f1_12 x = 1 ↔ (65 ≤ x.toInt ∧ x.toInt ≤ 90) ∨ x.toInt = 95 ∨ (192 ≤ x.toInt ∧ x.toInt ≤ 214) ∨ (216 ≤ x.toInt ∧ x.toInt ≤ 246) ∨ (248 ≤ x.toInt ∧ x.toInt ≤ 767) ∨ (880 ≤ x.toInt ∧ x.toInt ≤ 893) ∨ (895 ≤ x.toInt ∧ x.toInt ≤ 8191) ∨ (8204 ≤ x.toInt ∧ x.toInt ≤ 8205) ∨ (8304 ≤ x.toInt ∧ x.toInt ≤ 8591) ∨ (11264 ≤ x.toInt ∧ x.toInt ≤ 12271) ∨ (12289 ≤ x.toInt ∧ x.toInt ≤ 55295) ∨ (63744 ≤ x.toInt ∧ x.toInt ≤ 64975) ∨ (65008 ≤ x.toInt ∧ x.toInt ≤ 65533) ∨ (65536 ≤ x.toInt ∧ x.toInt ≤ 983039) := by
  exact (own_step x 65 90 (f1_24 x) _ (own_yes x)).trans (or_congr Iff.rfl (own_c24 x))
theorem own_d12 (x : Int32) : f1_12 x = 0 ∨ f1_12 x = 1 := by
  exact own_01 _ _ _ (own_d24 x) (own_01 _ _ _ (own_d24 x) (Or.inr (own_yes x)))
theorem own_c0 (x : Int32) : f1_0 x = 1 ↔ (97 ≤ x.toInt ∧ x.toInt ≤ 122) ∨ (65 ≤ x.toInt ∧ x.toInt ≤ 90) ∨ x.toInt = 95 ∨ (192 ≤ x.toInt ∧ x.toInt ≤ 214) ∨ (216 ≤ x.toInt ∧ x.toInt ≤ 246) ∨ (248 ≤ x.toInt ∧ x.toInt ≤ 767) ∨ (880 ≤ x.toInt ∧ x.toInt ≤ 893) ∨ (895 ≤ x.toInt ∧ x.toInt ≤ 8191) ∨ (8204 ≤ x.toInt ∧ x.toInt ≤ 8205) ∨ (8304 ≤ x.toInt ∧ x.toInt ≤ 8591) ∨ (11264 ≤ x.toInt ∧ x.toInt ≤ 12271) ∨ (12289 ≤ x.toInt ∧ x.toInt ≤ 55295) ∨ (63744 ≤ x.toInt ∧ x.toInt ≤ 64975) ∨ (65008 ≤ x.toInt ∧ x.toInt ≤ 65533) ∨ (65536 ≤ x.toInt ∧ x.toInt ≤ 983039) := by
  exact (own_step x 97 122 (f1_12 x) _ (own_yes x)).trans (or_congr Iff.rfl (own_c12 x))
theorem own_d0 (x : Int32) : f1_0 x = 0 ∨ f1_0 x = 1 := by
  exact own_01 _ _ _ (own_d12 x) (own_01 _ _ _ (own_d12 x) (Or.inr (own_yes x)))
theorem own_g1 (c : Prop) [Decidable c] (A B : Int32) (hA : A ≠ 0) : (if c then A else B) = 0 ↔ ¬ c ∧ B = 0 := by
  by_cases h : c
  · rw [if_pos h]; exact ⟨fun q => absurd q hA, fun q => absurd h q.1⟩
  · rw [if_neg h]; exact ⟨fun q => ⟨h, q⟩, fun q => q.2⟩
theorem own_g2 (c : Prop) [Decidable c] (A B : Int32) (hB : B ≠ 0) : (if c then A else B) = 0 ↔ c ∧ A = 0 := by
  by_cases h : c
  · rw [if_pos h]; exact ⟨fun q => ⟨h, q⟩, fun q => q.2⟩
  · rw [if_neg h]; exact ⟨fun q => absurd q hB, fun q => absurd q.1 h⟩
theorem own_btw (x lo hi : Int32) : f3_0 x lo hi = if (lo.toInt ≤ x.toInt ∧ x.toInt ≤ hi.toInt) then 1 else 0 := by
  show (if x < lo then nar .boolean (0 : Int32) else (if hi < x then nar .boolean (0 : Int32) else nar .boolean (1 : Int32))) = _
  rw [own_nar0, own_nar1]
  by_cases h1 : x < lo
  · rw [if_pos h1]
    rw [Int32.lt_iff_toInt_lt] at h1
    rw [if_neg (by omega)]
  · rw [if_neg h1]
    by_cases h2 : hi < x
    · rw [if_pos h2]
      rw [Int32.lt_iff_toInt_lt] at h2
      rw [if_neg (by omega)]
    · rw [if_neg h2]
      rw [Int32.lt_iff_toInt_lt] at h1 h2
      rw [if_pos (by omega)]
theorem own_btw0 (x lo hi : Int32) : f3_0 x lo hi = 0 ↔ (x.toInt < lo.toInt ∨ hi.toInt < x.toInt) := by
  rw [own_btw]
  by_cases h : lo.toInt ≤ x.toInt ∧ x.toInt ≤ hi.toInt
  · rw [if_pos h]; exact ⟨fun q => absurd q (by decide), fun q => by omega⟩
  · rw [if_neg h]; exact ⟨fun _ => by omega, fun _ => rfl⟩
theorem own_btwN (x lo hi : Int32) : nar .boolean (f3_0 x lo hi) = 0 ↔ (x.toInt < lo.toInt ∨ hi.toInt < x.toInt) := by
  rw [own_btw]
  by_cases h : lo.toInt ≤ x.toInt ∧ x.toInt ≤ hi.toInt
  · rw [if_pos h, own_nar1]; exact ⟨fun q => absurd q (by decide), fun q => by omega⟩
  · rw [if_neg h, own_nar0]; exact ⟨fun _ => by omega, fun _ => rfl⟩
theorem own_nlt (x c : Int32) : ¬ x < c ↔ c.toInt ≤ x.toInt := by rw [Int32.lt_iff_toInt_lt]; omega
theorem own_ngt (x c : Int32) : ¬ c < x ↔ x.toInt ≤ c.toInt := by rw [Int32.lt_iff_toInt_lt]; omega
theorem own_neq (x c : Int32) : ¬ x = c ↔ x.toInt ≠ c.toInt := not_congr Int32.toInt_inj.symm
theorem own_gap (x : Int32) : f2_0 x = 0 ↔ 65 ≤ x.toInt ∧ x.toInt ≤ 983039 ∧ (x.toInt < 91 ∨ 94 < x.toInt) ∧ x.toInt ≠ 96 ∧ (x.toInt < 123 ∨ 191 < x.toInt) ∧ x.toInt ≠ 215 ∧ x.toInt ≠ 247 ∧ (x.toInt < 768 ∨ 879 < x.toInt) ∧ x.toInt ≠ 894 ∧ (x.toInt < 8192 ∨ 8203 < x.toInt) ∧ (x.toInt < 8206 ∨ 8303 < x.toInt) ∧ (x.toInt < 8592 ∨ 11263 < x.toInt) ∧ (x.toInt < 12272 ∨ 12288 < x.toInt) ∧ (x.toInt < 55296 ∨ 63743 < x.toInt) ∧ (x.toInt < 64976 ∨ 65007 < x.toInt) ∧ (x.toInt < 65534 ∨ 65535 < x.toInt) := by
  refine (own_g1 _ _ _ (by show (1 : Int32) ≠ 0; decide)).trans (and_congr (own_nlt x 65) ?_)
  refine (own_g1 _ _ _ (by show (1 : Int32) ≠ 0; decide)).trans (and_congr (own_ngt x 983039) ?_)
  refine (own_g2 _ _ _ (by show (1 : Int32) ≠ 0; decide)).trans (and_congr (own_btw0 x 91 94) ?_)
  refine (own_g1 _ _ _ (by show (1 : Int32) ≠ 0; decide)).trans (and_congr (own_neq x 96) ?_)
  refine (own_g2 _ _ _ (by show (1 : Int32) ≠ 0; decide)).trans (and_congr (own_btw0 x 123 191) ?_)
  refine (own_g1 _ _ _ (by show (1 : Int32) ≠ 0; decide)).trans (and_congr (own_neq x 215) ?_)
  refine (own_g1 _ _ _ (by show (1 : Int32) ≠ 0; decide)).trans (and_congr (own_neq x 247) ?_)
  refine (own_g2 _ _ _ (by show (1 : Int32) ≠ 0; decide)).trans (and_congr (own_btw0 x 768 879) ?_)
  refine (own_g1 _ _ _ (by show (1 : Int32) ≠ 0; decide)).trans (and_congr (own_neq x 894) ?_)
  refine (own_g2 _ _ _ (by show (1 : Int32) ≠ 0; decide)).trans (and_congr (own_btw0 x 8192 8203) ?_)
  refine (own_g2 _ _ _ (by show (1 : Int32) ≠ 0; decide)).trans (and_congr (own_btw0 x 8206 8303) ?_)
  refine (own_g2 _ _ _ (by show (1 : Int32) ≠ 0; decide)).trans (and_congr (own_btw0 x 8592 11263) ?_)
  refine (own_g2 _ _ _ (by show (1 : Int32) ≠ 0; decide)).trans (and_congr (own_btw0 x 12272 12288) ?_)
  refine (own_g2 _ _ _ (by show (1 : Int32) ≠ 0; decide)).trans (and_congr (own_btw0 x 55296 63743) ?_)
  refine (own_g2 _ _ _ (by show (1 : Int32) ≠ 0; decide)).trans (and_congr (own_btw0 x 64976 65007) ?_)
  exact own_btwN x 65534 65535
theorem own_both (x : Int32) : f2_0 x = 0 ↔ f1_0 x = 1 := by
  rw [own_gap, own_c0]
  generalize x.toInt = z
  constructor
  · intro h
    omega
  · intro h
    omega
theorem own_law (x : Int32) : f0_0 x = 1 := by
  have h := own_both x
  have d := own_d0 x
  show (if f2_0 x = 0 then (if f1_0 x = 1 then nar .boolean (1 : Int32) else nar .boolean (0 : Int32)) else (if f1_0 x = 0 then nar .boolean (1 : Int32) else nar .boolean (0 : Int32))) = 1
  rw [own_nar0, own_nar1]
  by_cases h2 : f2_0 x = 0
  · rw [if_pos h2, if_pos (h.mp h2)]
  · rw [if_neg h2, if_pos (d.resolve_right (fun q => h2 (h.mpr q)))]
theorem pn_0 : plainName "com/example/sarana/sarana/model/XmlCharactersIsNameStartCharPinLaw" = true := by first | (simp [plainName, overriddenIn]; done) | decide +kernel
theorem ef_0 (m : MethodId) (p0 : Int32) : entryFrame m #[(.int p0)] maxLocals = mkF m 0 #[.val (.int p0)] [] := by first | (simp [entryFrame, mkF, argsToLocals, Value.category, maxLocals]; done) | rfl
set_option maxRecDepth 65536 in
set_option maxHeartbeats 40000000 in
theorem rm0 (l : Launch) (Z : State) (a0 : Array Value) (hw : ∀ d ∈ tables_1, d.before a0 Z = true) (ws : List Jvm.Cond) (p0 : Int32) (h0 : Heap) :
    MetFree l x (head1 (Jvm.Cond.code x code maxLocals ret :: ws) (room_1)) (fun a U => a = #[(.int p0)] ∧ Z.Warmed39 U.vm ∧ U.heap = h0) (fun _ _ _ _ _ => True) (fun _ U o U' => ∃ v L, o = .returned v ∧ OQ (fun v h L => v = some (.int (1 : Int32)) ∧ Fr h0.size L) v U'.heap L ∧ FrameEnd U o U' L (room_1).cells (room_1).slots) := by
  refine MetFree.of_bodySF (plainFor_of_name pn_0) hisR ?_
  intro p e s m args below meth c s₁ Bd hml0 hP hK
  obtain ⟨rfl, hZ, hh⟩ := hP
  have hx := Bd.exec
  have hby := Bd.bytes
  have hml : c.maxLocals = 1 := hml0
  have hown : s.vm.findClass "com/example/sarana/sarana/model/XmlCharactersIsNameStartCharPinLaw" = some m.cls := findClass_of_methodNamed Bd.named
  have hnm := (name_of_methodNamed Bd.named Bd.method).1
  have hret := Bd.returns
  have hlk : meth.locks = false := Bd.notSynchronized
  have X0 : Stand p l e (room_1) s m #[(.int p0)] below meth c s₁ [] 0 0 := Stand.of_body Bd
  have e0 : s₁.heap = h0 := by rw [← hh, Bd.state]; rfl
  refine OFin.start (Q := fun v h L => v = some (.int (1 : Int32)) ∧ Fr h0.size L) (s := s) (fun t k => castTop (ef_0 m p0) k) ?_
  exact ro0_0 p0 X0 hx hZ hw hby hml hown hret hlk e0 (Nat.zero_le _) (Nat.zero_le _) (Nat.zero_le _) (Nat.zero_le _) ⟨by rw [own_law], Fr.nil _⟩
set_option maxRecDepth 65536 in
set_option maxHeartbeats 40000000 in
theorem comes_1 {Post : Tables → Env → Array Value → State → Outcome → State → Prop} (hpost : ∀ tb e args s v u, (limb_1_1.after args s (.returned v) u = true ∧ limb_1_2.after args s (.returned v) u = true ∧ True) → FrameEnd s (.returned v) u (Jvm.fieldLocs frame_1_writes args s ++ Jvm.arrayLocs frame_1_arrays args s ++ Jvm.staticLocs frame_1_statics s) 0 0 → Post tb e args s (.returned v) u) :
    ArmFor flags0 classFile x code maxLocals ret World_1 tables_1 room_1 Calls_1 rest_1 Pre_1 Post := by
  intro l hfl _ _ p e ha hc hk s m args below hf hA hF happ hP
  obtain ⟨hcalls, hrest, hpre⟩ := hP
  obtain ⟨-, -, -, hnamed, -, -, -, hat⟩ := (Spec.applies_iff hf).mp happ
  obtain ⟨hg, hn⟩ := and_e (Cond.before_iff.mp (show (Jvm.Cond.and given_1 narrow_1).before args s = true from hpre))
  obtain ⟨hcnt, g0⟩ := and_e hg
  obtain ⟨w0, rfl⟩ : ∃ w0 : Value, args = #[w0] := by
    have hs : args.size = 1 := by simpa [Cond.value, given_1] using hcnt
    obtain ⟨L⟩ := args
    match L, hs with
    | [w0], _ => exact ⟨w0, rfl⟩
  have hw := fun d (hd : d ∈ tables_1) => atoms_spec (ws := Jvm.Cond.code x code maxLocals ret :: tables_1) hat d (List.mem_cons_of_mem _ hd)
  have hfit : Fit s := fun {y c} hc i hi => by
    obtain ⟨ha, rfl⟩ := Array.getElem?_eq_some_iff.mp hc
    have q := List.all_eq_true.mp ((Array.all_eq_true_iff_forall_mem.mp hF) _ (Array.getElem_mem ha)) i (List.mem_range.mpr hi)
    simpa [Array.getElem?_eq_getElem hi] using q
  obtain ⟨v0, ev0⟩ := is_v g0
  obtain rfl : w0 = (.int v0) := Option.some.inj ev0
  obtain ⟨n, o, h1, h2, h3, _, L, rfl, ⟨rfl, N⟩, hq⟩ := rm0 l s _ hw tables_1 v0 s.heap p e ha hc hk s m _ below hf ((Spec.applies_iff_loose hf).mp happ).1 ⟨rfl, State.Warmed39.refl s, rfl⟩ trivial
  refine ⟨n, _, h1, h2, h3, hpost _ _ _ _ _ _ ⟨Cond.after_iff.mpr rfl, Cond.after_iff.mpr (eq_i res_at (Term.int_eval (1)) rfl), trivial⟩ ⟨hq.1, hq.2.1, (hq.2.2.sift fun y hy => Or.inr (N y hy)).mono (by decide) (by decide)⟩⟩
theorem main_1_1 : Claimed_1_1 := comes_1 fun _ _ _ _ _ _ h hF => ⟨h.1, hF⟩
theorem main_1_2 : Claimed_1_2 := comes_1 fun _ _ _ _ _ _ h hF => ⟨h.2.1, hF⟩
end Jvm.Pilot.@@N@@
namespace Jvm.Pilot.@@N@@
open Jvm Jvm.ClassFile Sem Op Lib Jvm.Free Jvm.Stand Jvm.Pilot.@@N@@.Jvm.D
/-! MADE BY PROGRAM (witnessworld.py) out of the Statement's table words and the real class files: 9 classes; the members and pool entries that the words name. The judged class is class 1, her method 3. -/
namespace start1
open Jvm.ClassFile
def u (s : String) : CpInfo := .utf8 (stringToUtf16 s)
/-- a pool by its gaps: so many unusable entries, then the entry; so many at the end -/
def gap : Nat → List CpInfo → List CpInfo
  | 0, r => r
  | n + 1, r => .unusable :: gap n r
def poolList (es : List (Nat × CpInfo)) (last : Nat) : List CpInfo := es.foldr (fun e r => gap e.1 (e.2 :: r)) (gap last [])
def pool (es : List (Nat × CpInfo)) (last : Nat) : Array CpInfo := ⟨poolList es last⟩
def fileOf (pool : Array CpInfo) (this : Nat) (attrs : Array Attribute := #[]) (ms : Array MethodInfo := #[]) (fl : Nat := 33) (sup : Nat := 0) (ifs : Array Nat := #[]) (fds : Array FieldInfo := #[]) : ClassFile where
  minorVersion := 0
  majorVersion := 65
  constantPool := pool
  accessFlags := fl
  thisClass := this
  superClass := sup
  interfaces := ifs
  fields := fds
  methods := ms
  attributes := attrs
def plain (name : String) (sup : Option ClassId) : Class where
  name := name
  kind := .ordinary
  loader := none
  accessFlags := 33
  super := sup
  interfaces := #[]
  cf := none
  fields := #[]
  methods := #[]
  instanceTypes := #[]
  staticTypes := #[]
  resolved := #[]
  callSites := []
  init := .initialized
  statics := none
  mirror := none

def pool0 : Array CpInfo := pool [(5, u "<init>"), (0, u "()V"), (1, .class_ 10), (1, u "java/lang/Object")] 113

def k0m0 : Method := { name := "<init>", desc := "()V", sig := { parameters := [], returnType := none }, accessFlags := 1, code := none }
/-- java/lang/Object -/
def k0 : Class := { plain "java/lang/Object" none with
  accessFlags := 33
  interfaces := #[]
  cf := some (fileOf pool0 8 #[] #[{ accessFlags := 1, nameIndex := 5, descriptorIndex := 6, attributes := #[] }] 33 0 #[] #[])
  fields := #[]
  methods := #[k0m0]
  instanceTypes := #[]
  staticTypes := #[]
  resolved := Array.replicate 124 none
  statics := none }

def pool1 : Array CpInfo := pool [(2, .class_ 4), (1, u "java/lang/Object"), (0, u "<init>"), (0, u "()V"), (0, .integer 983039), (0, .methodref 9 10), (0, .class_ 11), (0, .nameAndType 12 13), (0, u "com/example/sarana/sarana/model/XmlCharactersIsNameStartCharPinLaw"), (0, u "between"), (0, u "(III)Z"), (0, .integer 55296), (0, .integer 63743), (0, .integer 64976), (0, .integer 65007), (0, .integer 65534), (0, .integer 65535), (0, .methodref 21 22), (0, .class_ 23), (0, .nameAndType 24 25), (0, u "com/example/sarana/sarana/model/XmlCharacters"), (0, u "isNameStartChar"), (0, u "(I)Z"), (0, .methodref 9 27), (0, .nameAndType 28 25), (0, u "inGap"), (3, u "law")] 2

def k1m0 : Method := { name := "<init>", desc := "()V", sig := { parameters := [], returnType := none }, accessFlags := 2, code := none }
def k1c1 : Code := { maxStack := 2, maxLocals := 3, code := method_2_code, exceptionTable := #[], attributes := #[] }
def k1m1 : Method := { name := "between", desc := "(III)Z", sig := { parameters := [.int, .int, .int], returnType := some .boolean }, accessFlags := 10, code := some k1c1 }
def k1c2 : Code := { maxStack := 3, maxLocals := 1, code := method_3_code, exceptionTable := #[], attributes := #[] }
def k1m2 : Method := { name := "inGap", desc := "(I)Z", sig := { parameters := [.int], returnType := some .boolean }, accessFlags := 10, code := some k1c2 }
def k1c3 : Code := { maxStack := 2, maxLocals := 1, code := code, exceptionTable := #[], attributes := #[] }
def k1m3 : Method := { name := "law", desc := "(I)Z", sig := { parameters := [.int], returnType := some .boolean }, accessFlags := 9, code := some k1c3 }
/-- com/example/sarana/sarana/model/XmlCharactersIsNameStartCharPinLaw -/
def k1 : Class := { plain "com/example/sarana/sarana/model/XmlCharactersIsNameStartCharPinLaw" (some 0) with
  accessFlags := 49
  interfaces := #[]
  cf := some (fileOf pool1 9 #[] #[{ accessFlags := 2, nameIndex := 5, descriptorIndex := 6, attributes := #[] }, { accessFlags := 10, nameIndex := 12, descriptorIndex := 13, attributes := #[] }, { accessFlags := 10, nameIndex := 28, descriptorIndex := 25, attributes := #[] }, { accessFlags := 9, nameIndex := 32, descriptorIndex := 25, attributes := #[] }] 49 2 #[] #[])
  fields := #[]
  methods := #[k1m0, k1m1, k1m2, k1m3]
  instanceTypes := #[]
  staticTypes := #[]
  resolved := Array.replicate 35 none
  statics := none }

def pool2 : Array CpInfo := pool [(2, .class_ 4), (1, u "java/lang/Object"), (0, u "<init>"), (0, u "()V"), (11, .class_ 20), (1, u "com/example/sarana/sarana/model/XmlCharacters"), (1, u "(I)Z"), (0, .integer 55295), (1, .integer 65533), (0, .integer 65536), (1, .integer 63744), (0, .integer 64975), (0, .integer 65008), (0, .integer 983039), (2, u "isNameStartChar")] 51

def k2m0 : Method := { name := "<init>", desc := "()V", sig := { parameters := [], returnType := none }, accessFlags := 2, code := none }
def k2c1 : Code := { maxStack := 2, maxLocals := 1, code := prog_114_method_5_code, exceptionTable := #[], attributes := #[] }
def k2m1 : Method := { name := "isNameStartChar", desc := "(I)Z", sig := { parameters := [.int], returnType := some .boolean }, accessFlags := 9, code := some k2c1 }
/-- com/example/sarana/sarana/model/XmlCharacters -/
def k2 : Class := { plain "com/example/sarana/sarana/model/XmlCharacters" (some 0) with
  accessFlags := 49
  interfaces := #[]
  cf := some (fileOf pool2 18 #[] #[{ accessFlags := 2, nameIndex := 5, descriptorIndex := 6, attributes := #[] }, { accessFlags := 9, nameIndex := 34, descriptorIndex := 22, attributes := #[] }] 49 2 #[] #[])
  fields := #[]
  methods := #[k2m0, k2m1]
  instanceTypes := #[]
  staticTypes := #[]
  resolved := Array.replicate 86 none
  statics := none }

def pool3 : Array CpInfo := pool [(1, u "java/lang/Cloneable"), (0, .class_ 1), (0, u "java/lang/Object"), (0, .class_ 3)] 3

/-- java/lang/Cloneable -/
def k3 : Class := { plain "java/lang/Cloneable" (some 0) with
  accessFlags := 1537
  interfaces := #[]
  cf := some (fileOf pool3 2 #[] #[] 1537 4 #[] #[])
  fields := #[]
  methods := #[]
  instanceTypes := #[]
  staticTypes := #[]
  resolved := Array.replicate 8 none
  statics := none }

def pool4 : Array CpInfo := pool [(1, u "java/io/Serializable"), (0, .class_ 1), (0, u "java/lang/Object"), (0, .class_ 3)] 3

/-- java/io/Serializable -/
def k4 : Class := { plain "java/io/Serializable" (some 0) with
  accessFlags := 1537
  interfaces := #[]
  cf := some (fileOf pool4 2 #[] #[] 1537 4 #[] #[])
  fields := #[]
  methods := #[]
  instanceTypes := #[]
  staticTypes := #[]
  resolved := Array.replicate 8 none
  statics := none }

/-- the primitive byte -/
def k5 : Class := { plain "byte" none with kind := .primitive 'B', accessFlags := 0x411 }
/-- [B -/
def k6 : Class := { plain "[B" (some 0) with kind := .array 5 .byte, interfaces := #[3, 4], accessFlags := 1041 }

/-- the primitive int -/
def k7 : Class := { plain "int" none with kind := .primitive 'I', accessFlags := 0x411 }
/-- [I -/
def k8 : Class := { plain "[I" (some 0) with kind := .array 7 .int, interfaces := #[3, 4], accessFlags := 1041 }

def heap : Heap := #[]
def classes : Array Class := #[k0, k1, k2, k3, k4, k5, k6, k7, k8]
def interned : List (Array UInt16 × Addr) := []
def slotsUsed : Nat := 0
def theMethod : MethodId := ⟨1, 3⟩
def args0 : Array Value := #[.int 5]
def aboutOver (below : List Frame) : State where
  vm := { classes := classes, interned := interned.toArray }
  heap := heap
  slotsUsed := slotsUsed
  threads := #[{ frames := .invoking theMethod args0 :: below }]
def below0 : List Frame := [.native { method := ⟨0, 0⟩, args := #[] }]
def about1 : State := aboutOver below0
def p0 : Program := .bare "" "" ""
def e0 : Env := launch0.env 0 0 0
theorem w_frames : about1.frames = Frame.invoking theMethod args0 :: below0 := rfl
set_option maxRecDepth 65536 in
theorem w_args : argsFit about1.vm theMethod args0 = true := by decide +kernel
set_option maxRecDepth 65536 in
theorem w_heap : heapFits about1 = true := by decide +kernel
set_option maxRecDepth 65536 in
theorem w_runnable : about1.curStatus? = some .runnable := by decide +kernel
set_option maxRecDepth 65536 in
theorem w_alone : about1.alone = true := by decide +kernel
set_option maxRecDepth 65536 in
theorem w_named : about1.methodNamed? x = some theMethod := by decide +kernel
set_option maxRecDepth 65536 in
theorem w_hears : about1.hears theMethod below0 = true := by decide +kernel
set_option maxRecDepth 65536 in
theorem w_ripe : about1.ripe theMethod args0 below0 = true := by decide +kernel
theorem w_running : about1.status = .running := rfl
set_option maxRecDepth 65536 in
theorem w_room : about1.hasRoom e0.platform room_1 = true :=
  launch0.hasRoom_least _ room_1 (by decide +kernel) (by decide +kernel) (by decide +kernel) (by decide +kernel) (by decide +kernel) (by decide +kernel)
theorem allAtoms_all (ts : List Jvm.Cond) (a : Array Jvm.Value) (st : Jvm.State) : (allAtoms ts).before a st = ts.all (fun c => c.before a st) := by
  induction ts with
  | nil => rfl
  | cons c t ih =>
    show (Jvm.Cond.and c (allAtoms t)).before a st = _
    rw [Jvm.Cond.before_and, ih, List.all_cons]
def words1 : List Jvm.Cond := Jvm.Cond.code x code maxLocals ret :: tables_1
/-- a 'code' word, met by the world's own term for the bytes: nothing is compared byte by byte -/
theorem code_word {y : MethodName} {bytes : ByteArray} {mx : Nat} {rt : Option FieldType} {a : Array Value} {s : State} {m : MethodId} {meth : Method} {c : Code} (h1 : s.methodNamed? y = some m) (h2 : s.vm.method? m = some meth) (h3 : meth.code = some c) (h4 : c.code = bytes)
    (h5 : (c.maxLocals == mx && c.exceptionTable.isEmpty && decide (c.maxStack ≤ mostOperands) && decide (meth.sig.returnType = rt) && !meth.locks && decide (parseMethodDescriptor y.desc = some meth.sig)) = true) : (Jvm.Cond.code y bytes mx rt).before a s = true := by
  simp only [Bool.and_eq_true, beq_iff_eq, Bool.not_eq_true', decide_eq_true_eq] at h5
  obtain ⟨⟨⟨⟨⟨g1, g2⟩, g3⟩, g4⟩, g5⟩, g6⟩ := h5
  simp [Cond.before, Cond.holds, Cond.value, h1, h2, h3, h4, g1, g2, g3, g4, g5, g6]
def isCode : Jvm.Cond → Bool
  | .code _ _ _ _ => true
  | _ => false
theorem all_split {L : List Jvm.Cond} {P : Jvm.Cond → Bool} (h1 : L.all (fun c => isCode c || P c) = true) (h2 : ∀ c ∈ L.filter isCode, P c = true) : L.all P = true := by
  refine List.all_eq_true.mpr fun c hc => ?_
  have h := List.all_eq_true.mp h1 c hc
  rcases Bool.eq_false_or_eq_true (isCode c) with hi | hi
  · exact h2 c (List.mem_filter.mpr ⟨hc, hi⟩)
  · simpa [hi] using h
set_option maxRecDepth 65536 in
theorem w_c0 : (Jvm.Cond.code x code maxLocals ret).before args0 about1 = true := code_word (m := ⟨1, 3⟩) (meth := k1m3) (c := k1c3) (by decide +kernel) rfl rfl rfl (by decide +kernel)
set_option maxRecDepth 65536 in
theorem w_c1 : (Jvm.Cond.code ({ cls := "com/example/sarana/sarana/model/XmlCharacters", name := "isNameStartChar", desc := "(I)Z" } : Jvm.MethodName) prog_114_method_5_code (1 : Nat) (Option.some Jvm.ClassFile.FieldType.boolean)).before args0 about1 = true := code_word (m := ⟨2, 1⟩) (meth := k2m1) (c := k2c1) (by decide +kernel) rfl rfl rfl (by decide +kernel)
set_option maxRecDepth 65536 in
theorem w_c2 : (Jvm.Cond.code ({ cls := "com/example/sarana/sarana/model/XmlCharactersIsNameStartCharPinLaw", name := "inGap", desc := "(I)Z" } : Jvm.MethodName) method_3_code (1 : Nat) (Option.some Jvm.ClassFile.FieldType.boolean)).before args0 about1 = true := code_word (m := ⟨1, 2⟩) (meth := k1m2) (c := k1c2) (by decide +kernel) rfl rfl rfl (by decide +kernel)
set_option maxRecDepth 65536 in
theorem w_c3 : (Jvm.Cond.code ({ cls := "com/example/sarana/sarana/model/XmlCharactersIsNameStartCharPinLaw", name := "between", desc := "(III)Z" } : Jvm.MethodName) method_2_code (3 : Nat) (Option.some Jvm.ClassFile.FieldType.boolean)).before args0 about1 = true := code_word (m := ⟨1, 1⟩) (meth := k1m1) (c := k1c1) (by decide +kernel) rfl rfl rfl (by decide +kernel)
def codes1 : List Jvm.Cond := [Jvm.Cond.code x code maxLocals ret, Jvm.Cond.code ({ cls := "com/example/sarana/sarana/model/XmlCharacters", name := "isNameStartChar", desc := "(I)Z" } : Jvm.MethodName) prog_114_method_5_code (1 : Nat) (Option.some Jvm.ClassFile.FieldType.boolean), Jvm.Cond.code ({ cls := "com/example/sarana/sarana/model/XmlCharactersIsNameStartCharPinLaw", name := "inGap", desc := "(I)Z" } : Jvm.MethodName) method_3_code (1 : Nat) (Option.some Jvm.ClassFile.FieldType.boolean), Jvm.Cond.code ({ cls := "com/example/sarana/sarana/model/XmlCharactersIsNameStartCharPinLaw", name := "between", desc := "(III)Z" } : Jvm.MethodName) method_2_code (3 : Nat) (Option.some Jvm.ClassFile.FieldType.boolean)]
set_option maxRecDepth 65536 in
theorem codes_eq : words1.filter isCode = codes1 := rfl
theorem w_codes : ∀ c ∈ words1.filter isCode, c.before args0 about1 = true := by
  rw [codes_eq]
  intro c hc
  simp only [codes1, List.mem_cons, List.not_mem_nil, or_false] at hc
  rcases hc with rfl | rfl | rfl | rfl
  · exact w_c0
  · exact w_c1
  · exact w_c2
  · exact w_c3
set_option maxRecDepth 65536 in
theorem w_t1 : (words1.take 24).all (fun c => isCode c || c.before args0 about1) = true := by decide +kernel
set_option maxRecDepth 65536 in
theorem w_t2 : (words1.drop 24).all (fun c => isCode c || c.before args0 about1) = true := by decide +kernel
theorem w_tables : (allAtoms (Jvm.Cond.code x code maxLocals ret :: tables_1)).before args0 about1 = true := by
  rw [allAtoms_all]
  show words1.all (fun c => c.before args0 about1) = true
  refine all_split ?_ w_codes
  rw [← List.take_append_drop 24 words1, List.all_append, w_t1, w_t2]
  rfl
set_option maxRecDepth 65536 in
theorem w_case : (Jvm.Cond.and given_1 narrow_1).before args0 about1 = true := by decide +kernel
theorem w_applies : (headSpec (Jvm.Cond.code x code maxLocals ret :: tables_1) room_1).applies x e0.platform about1 = true :=
  (Spec.applies_iff w_frames).mpr ⟨w_running, w_runnable, w_alone, w_named, w_hears, w_ripe, w_room, w_tables⟩
theorem atStart : AtStart classFile x code maxLocals ret World_1 tables_1 room_1 Calls_1 rest_1 Pre_1 launch0 p0 e0 about1 theMethod args0 below0 :=
  ⟨lists_1, trivial, launch0.admits_env _ _ _, launch0.least_env, fairChoices_fair.cas, fairChoices_fair.clock, w_frames, w_args, w_heap, w_applies, trivial, trivial, w_case⟩
end start1
theorem witness_1 : WitnessClaimed_1 := ⟨start1.p0, start1.e0, start1.about1, start1.theMethod, start1.args0, start1.below0, start1.atStart⟩
end Jvm.Pilot.@@N@@
