import JvmDerived
import JvmDerived.Pilot.@@N@@Statement
import JvmDerived.Pilot.@@N@@Code
set_option linter.unusedVariables false
set_option linter.unusedSimpArgs false
namespace Jvm.Pilot.@@N@@
open Jvm Jvm.ClassFile Sem Op Lib Jvm.Free Jvm.Stand Jvm.LawKit Jvm.RoadKit Bundle Jvm.Pilot.@@N@@.Jvm.D
section OwnKit
variable {p : Program} {l : Launch} {e : Env} {R : Room} {s : State} {m : MethodId} {args : Array Value} {below : List Frame} {meth : Method} {c : Code} {T : State} {locs : List Loc} {cells slots : Nat} {Z : State} {a0 : Array Value} {h : Heap} {Q : Option Value → Heap → List Loc → Prop} {kc ks : Nat}
/-- from the state F the run comes to its return, with what Q says -/
def OGo (p : Program) (e : Env) (below : List Frame) (s : State) (Q : Option Value → Heap → List Loc → Prop) (kc ks : Nat) (F : State) : Prop :=
  ∃ (s₂ : State) (o : Outcome), Steps p.tables e below F s₂ ∧ s₂.status = .running ∧ Ended s₂ below o ∧ ∃ v L, o = .returned v ∧ Q v s₂.heap L ∧ FrameEnd s o s₂ L kc ks
theorem OGo.step {F F' : State} (k : ∀ t, Steps p.tables e below F' t → Steps p.tables e below F t) (g : OGo p e below s Q kc ks F') : OGo p e below s Q kc ks F := by
  obtain ⟨s₂, o, h, r⟩ := g
  exact ⟨s₂, o, k _ h, r⟩
theorem OGo.retOut (X : Stand p l e R s m args below meth c T locs cells slots) (hx : p.tables.exec = Jvm.exec) (hlk : meth.locks = false) {pc : Nat} {Ls : Array Slot} {w : Value} {t : FieldType} {i : Instr} {rest : List Value} (hret : meth.sig.returnType = some t) (hn : narrow t w = w)
    (hi : (i = .ireturn ∧ (t = .int ∨ t = .boolean ∨ t = .byte ∨ t = .char ∨ t = .short) ∧ ∃ z, w = .int z) ∨ (i = .lreturn ∧ t = .long ∧ ∃ z, w = .long z) ∨ (i = .dreturn ∧ t = .double ∧ ∃ z, w = .double z) ∨ (i = .freturn ∧ t = .float ∧ ∃ z, w = .float z) ∨ (i = .areturn ∧ t.isReference = true ∧ w.isRef = true))
    (hd : decode c.code pc = .ok (i, 1)) (hQ : Q (some w) T.heap locs) (hc : cells ≤ kc) (hs : slots ≤ ks) : OGo p e below s Q kc ks (T.setTop (mkF m pc Ls (w :: rest))) := by
  obtain ⟨fs, hr, hrun, hended, hW, hsame⟩ := X.leave (v := some w) (fun h => by rw [hret] at h; cases h) hlk
  exact ⟨_, _, Jvm.RoadKit.retOut X hx hret hn hi hd hr, hrun, hended, _, _, rfl, hQ, ⟨_, rfl⟩, hW, hsame.mono hc hs⟩
theorem OGo.retI (X : Stand p l e R s m args below meth c T locs cells slots) (hx : p.tables.exec = Jvm.exec) (hlk : meth.locks = false) {pc : Nat} {Ls : Array Slot} {z : Int32} {rest : List Value} (hret : meth.sig.returnType = some .int) (hd : decode c.code pc = .ok (.ireturn, 1)) (hQ : Q (some (.int z)) T.heap locs) (hc : cells ≤ kc) (hs : slots ≤ ks) :
    OGo p e below s Q kc ks (T.setTop (mkF m pc Ls (.int z :: rest))) := OGo.retOut X hx hlk hret rfl (Or.inl ⟨rfl, Or.inl rfl, _, rfl⟩) hd hQ hc hs
theorem OGo.retJ (X : Stand p l e R s m args below meth c T locs cells slots) (hx : p.tables.exec = Jvm.exec) (hlk : meth.locks = false) {pc : Nat} {Ls : Array Slot} {z : Int64} {rest : List Value} (hret : meth.sig.returnType = some .long) (hd : decode c.code pc = .ok (.lreturn, 1)) (hQ : Q (some (.long z)) T.heap locs) (hc : cells ≤ kc) (hs : slots ≤ ks) :
    OGo p e below s Q kc ks (T.setTop (mkF m pc Ls (.long z :: rest))) := OGo.retOut X hx hlk hret rfl (Or.inr (Or.inl ⟨rfl, rfl, _, rfl⟩)) hd hQ hc hs
theorem OGo.retA (X : Stand p l e R s m args below meth c T locs cells slots) (hx : p.tables.exec = Jvm.exec) (hlk : meth.locks = false) {pc : Nat} {Ls : Array Slot} {w : Value} {t : FieldType} {rest : List Value} (hret : meth.sig.returnType = some t) (ht : t.isReference = true) (hw : w.isRef = true) (hn : narrow t w = w) (hd : decode c.code pc = .ok (.areturn, 1)) (hQ : Q (some w) T.heap locs) (hc : cells ≤ kc) (hs : slots ≤ ks) :
    OGo p e below s Q kc ks (T.setTop (mkF m pc Ls (w :: rest))) := OGo.retOut X hx hlk hret hn (Or.inr (Or.inr (Or.inr (Or.inr ⟨rfl, ht, hw⟩)))) hd hQ hc hs
theorem OGo.retZ (X : Stand p l e R s m args below meth c T locs cells slots) (hx : p.tables.exec = Jvm.exec) (hlk : meth.locks = false) {pc : Nat} {Ls : Array Slot} {z z' : Int32} {t : FieldType} {rest : List Value} (hret : meth.sig.returnType = some t) (ht : t = .boolean ∨ t = .byte ∨ t = .char ∨ t = .short) (hd : decode c.code pc = .ok (.ireturn, 1)) (hz : nar t z = z') (hQ : Q (some (.int z')) T.heap locs) (hc : cells ≤ kc) (hs : slots ≤ ks) :
    OGo p e below s Q kc ks (T.setTop (mkF m pc Ls (.int z :: rest))) := by
  subst hz
  obtain ⟨fs, hr, hrun, hended, hW, hsame⟩ := X.leave (v := some (.int (nar t z))) (fun h => by rw [hret] at h; cases h) hlk
  exact ⟨_, _, Jvm.RoadKit.retN X hx hret ht hd hr, hrun, hended, _, _, rfl, hQ, ⟨_, rfl⟩, hW, hsame.mono hc hs⟩
theorem OGo.retV (X : Stand p l e R s m args below meth c T locs cells slots) (hx : p.tables.exec = Jvm.exec) (hlk : meth.locks = false) {pc : Nat} {Ls : Array Slot} (hret : meth.sig.returnType = none) (hd : decode c.code pc = .ok (.return_, 1)) (hQ : Q none T.heap locs) (hc : cells ≤ kc) (hs : slots ≤ ks) :
    OGo p e below s Q kc ks (T.setTop (mkF m pc Ls [])) := by
  obtain ⟨fs, hr, hrun, hended, hW, hsame⟩ := X.leave (v := none) (fun _ => rfl) hlk
  exact ⟨_, _, X.returnOut hx hret hd hr, hrun, hended, _, _, rfl, hQ, ⟨_, rfl⟩, hW, hsame.mono hc hs⟩
/-- a body's contract -/
abbrev OCtr (l : Launch) (Z : State) (y : MethodName) (bytes : ByteArray) (maxL : Nat) (ret : Option FieldType) (ws : List Jvm.Cond) (rm : Room) (as' : Array Value) (h0 : Heap) (Q : Option Value → Heap → List Loc → Prop) : Prop :=
  MetFree l y (head1 (Jvm.Cond.code y bytes maxL ret :: ws) rm) (fun a U => a = as' ∧ Z.Warmed39 U.vm ∧ U.heap = h0) (fun _ _ _ _ _ => True) (fun _ U o U' => ∃ v L, o = .returned v ∧ Q v U'.heap L ∧ FrameEnd U o U' L rm.cells rm.slots)
theorem OCtr.of {y : MethodName} {bytes : ByteArray} {maxL : Nat} {ret : Option FieldType} {ws : List Jvm.Cond} {rm : Room} {as' : Array Value} (hp : plainFor y = true)
    (k : ∀ (p : Program) (e : Env) (s : State) (m : MethodId) (below : List Frame) (meth : Method) (c : Code) (s₁ : State), Stand p l e rm s m as' below meth c s₁ [] 0 0 → p.tables.exec = Jvm.exec → meth.locks = false → Z.Warmed39 s.vm → s.vm.findClass y.cls = some m.cls → meth.name = y.name → c.code = bytes → c.maxLocals = maxL → meth.sig.returnType = ret → s₁.heap = h →
      OGo p e below s Q rm.cells rm.slots (s₁.setTop (entryFrame m as' maxL))) : OCtr l Z y bytes maxL ret ws rm as' h Q := by
  refine MetFree.of_bodySF hp hisR ?_
  intro p e s m args below meth c s₁ Bd hml0 hP hK
  obtain ⟨rfl, hZ, hh⟩ := hP
  exact k p e s m below meth c s₁ (Stand.of_body Bd) Bd.exec Bd.notSynchronized hZ (findClass_of_methodNamed Bd.named) (name_of_methodNamed Bd.named Bd.method).1 Bd.bytes hml0 Bd.returns (by rw [← hh, Bd.state]; rfl)
/-- it returns w, and the heap is as it was -/
def OPure (w : Option Value) (h0 : Heap) (n0 : Nat) : Option Value → Heap → List Loc → Prop := fun v h L => v = w ∧ Fr n0 L ∧ h = h0
theorem OGo.callS (X : Stand p l e R s m args below meth c T locs cells slots) (hx : p.tables.exec = Jvm.exec) (hZ : Z.Warmed39 s.vm) {own : String} {index : Nat} {y : MethodName} {bytes : ByteArray} {maxL : Nat} {ret : Option FieldType} (hown : s.vm.findClass own = some m.cls)
    (wl : (Jvm.Cond.methodLink own index y).before a0 Z = true) (wst : (Jvm.Cond.static y).before a0 Z = true) (wi : (Jvm.Cond.initialized y.cls).before a0 Z = true) (wc : (Jvm.Cond.code y bytes maxL ret).before a0 Z = true) (hy : y.cls ≠ "java/lang/invoke/MethodHandle" ∧ y.cls ≠ "java/lang/invoke/VarHandle")
    {rm : Room} {as' : Array Value} {Q' : Option Value → Heap → List Loc → Prop} (hM : OCtr l Z y bytes maxL ret [] rm as' h Q') {W : Nat} (hf : rm.frames + 1 ≤ R.frames) (hl : W + (maxL + 11) + rm.locals ≤ R.locals)
    {g : JFrame} (hg : g.method = m) (hsize : g.locals.size = c.maxLocals) {argsL rest : List Value} (hlen : ∀ sig, parseMethodDescriptor y.desc = some sig → argsL.length = sig.parameters.length) (hstack : g.stack = argsL.reverse ++ rest) (hW : 2 * g.monitorRoom + (rest.map fun v => v.category).sum ≤ W) (hdg : decode c.code g.pc = .ok (.invokestatic index, 3))
    (ha : argsL.toArray = as') (e0 : T.heap = h) (hc : cells + rm.cells ≤ R.cells) (hs : slots + rm.slots ≤ R.slots)
    (k : ∀ (v : Option Value) (T' : State) (L' : List Loc), Stand p l e R s m args below meth c T' (locs ++ L') (cells + rm.cells) (slots + rm.slots) → Q' v T'.heap L' → OGo p e below s Q kc ks (T'.setTop { g with pc := g.pc + 3, stack := v.toList ++ rest })) : OGo p e below s Q kc ks (T.setTop g) := by
  obtain ⟨v, _, ⟨T', L', k', n'⟩, -, X', ⟨Lc, hQ, l', y', z'⟩, st⟩ := Jvm.LawKit.callS X hx hown (mvT hZ wl) (mvT hZ wst) (mvT hZ wi) (mvT hZ wc) hy (backOf (W := W) hM hZ wc wi hf hl) hg hsize hlen hstack hW hdg (fun _ _ => ⟨ha, e0, hc, hs⟩)
  dsimp only [Pt.U, Pt.locs, Pt.cells, Pt.slots] at X' l' y' z' st hQ
  subst l' y' z'
  exact OGo.step st (k v T' Lc X' hQ)
theorem OGo.callV (X : Stand p l e R s m args below meth c T locs cells slots) (hx : p.tables.exec = Jvm.exec) (hZ : Z.Warmed39 s.vm) {own C : String} {index : Nat} {y z : MethodName} {bytes : ByteArray} {maxL : Nat} {ret : Option FieldType} (hown : s.vm.findClass own = some m.cls)
    (wl : (Jvm.Cond.methodLink own index y).before a0 Z = true) (wd : (Jvm.Cond.declares y).before a0 Z = true) (hnf : NotFace s y) (wsel : (Jvm.Cond.selects C y z).before a0 Z = true) (win : (Jvm.Cond.instanceMethod z).before a0 Z = true) (wi : (Jvm.Cond.initialized z.cls).before a0 Z = true) (wc : (Jvm.Cond.code z bytes maxL ret).before a0 Z = true) (hy : y.cls ≠ "java/lang/invoke/MethodHandle" ∧ y.cls ≠ "java/lang/invoke/VarHandle")
    {rm : Room} {as' : Array Value} {Q' : Option Value → Heap → List Loc → Prop} (hM : OCtr l Z z bytes maxL ret [] rm as' h Q') {W : Nat} (hf : rm.frames + 1 ≤ R.frames) (hl : W + (maxL + 11) + rm.locals ≤ R.locals) {b : Addr} (E : Exa Z h b C)
    {g : JFrame} (hg : g.method = m) (hsize : g.locals.size = c.maxLocals) {argsL rest : List Value} (hlen : ∀ sig, parseMethodDescriptor y.desc = some sig → argsL.length = sig.parameters.length) (hstack : g.stack = argsL.reverse ++ .ref b :: rest) (hW : 2 * g.monitorRoom + (rest.map fun v => v.category).sum ≤ W) (hdg : decode c.code g.pc = .ok (.invokevirtual index, 3))
    (ha : (.ref b :: argsL).toArray = as') (e0 : T.heap = h) (hc : cells + rm.cells ≤ R.cells) (hs : slots + rm.slots ≤ R.slots)
    (k : ∀ (v : Option Value) (T' : State) (L' : List Loc), Stand p l e R s m args below meth c T' (locs ++ L') (cells + rm.cells) (slots + rm.slots) → Q' v T'.heap L' → OGo p e below s Q kc ks (T'.setTop { g with pc := g.pc + 3, stack := v.toList ++ rest })) : OGo p e below s Q kc ks (T.setTop g) := by
  obtain ⟨cq, kq, q1, q2, q3⟩ := isOf hZ e0 E
  obtain ⟨v, _, ⟨T', L', k', n'⟩, -, X', ⟨Lc, hQ, l', y', z'⟩, st⟩ := X.virtualBack hx hown (mvT hZ wl) (mvT hZ wd) hnf (mvT hZ wsel) (mvT hZ win) hy (backOf (W := W) hM hZ wc wi hf hl) q1 q3 hg hsize (Steps.refl _) hlen hstack hW hdg (fun _ _ => ⟨ha, e0, hc, hs⟩)
  dsimp only [Pt.U, Pt.locs, Pt.cells, Pt.slots] at X' l' y' z' st hQ
  subst l' y' z'
  exact OGo.step (fun t q => st.trans q) (k v T' Lc X' hQ)
theorem OGo.callC (X : Stand p l e R s m args below meth c T locs cells slots) (hx : p.tables.exec = Jvm.exec) (hZ : Z.Warmed39 s.vm) {own : String} {index : Nat} {y : MethodName} {bytes : ByteArray} {maxL : Nat} (hy1 : y.name = "<init>") (hown : s.vm.findClass own = some m.cls)
    (wl : (Jvm.Cond.methodLink own index y).before a0 Z = true) (win : (Jvm.Cond.instanceMethod y).before a0 Z = true) (wi : (Jvm.Cond.initialized y.cls).before a0 Z = true) (wc : (Jvm.Cond.code y bytes maxL none).before a0 Z = true) (hy : y.cls ≠ "java/lang/invoke/MethodHandle" ∧ y.cls ≠ "java/lang/invoke/VarHandle")
    {rm : Room} {as' : Array Value} {Q' : Option Value → Heap → List Loc → Prop} (hM : OCtr l Z y bytes maxL none [] rm as' h Q') {W : Nat} (hf : rm.frames + 1 ≤ R.frames) (hl : W + (maxL + 11) + rm.locals ≤ R.locals) {b : Addr}
    {g : JFrame} (hg : g.method = m) (hsize : g.locals.size = c.maxLocals) {argsL rest : List Value} (hlen : ∀ sig, parseMethodDescriptor y.desc = some sig → argsL.length = sig.parameters.length) (hstack : g.stack = argsL.reverse ++ .ref b :: rest) (hW : 2 * g.monitorRoom + (rest.map fun v => v.category).sum ≤ W) (hdg : decode c.code g.pc = .ok (.invokespecial index, 3))
    (ha : (.ref b :: argsL).toArray = as') (e0 : T.heap = h) (hc : cells + rm.cells ≤ R.cells) (hs : slots + rm.slots ≤ R.slots)
    (k : ∀ (v : Option Value) (T' : State) (L' : List Loc), Stand p l e R s m args below meth c T' (locs ++ L') (cells + rm.cells) (slots + rm.slots) → Q' v T'.heap L' → OGo p e below s Q kc ks (T'.setTop { g with pc := g.pc + 3, stack := v.toList ++ rest })) : OGo p e below s Q kc ks (T.setTop g) := by
  obtain ⟨v, _, ⟨T', L', k', n'⟩, -, X', ⟨Lc, hQ, l', y', z'⟩, st⟩ := X.specialBack hx hy1 hown (mvT hZ wl) (mvT hZ win) (mvT hZ wc) hy (backOf (W := W) hM hZ wc wi hf hl) hg hsize (Steps.refl _) hlen hstack hW hdg (fun _ _ => ⟨ha, e0, hc, hs⟩)
  dsimp only [Pt.U, Pt.locs, Pt.cells, Pt.slots] at X' l' y' z' st hQ
  subst l' y' z'
  exact OGo.step (fun t q => st.trans q) (k v T' Lc X' hQ)
theorem own_wd (hw : ∀ d ∈ tables_1, d.before a0 Z = true) (i : Nat) {d : Jvm.Cond} (q : tables_1[i]? = some d) : d.before a0 Z = true := hw _ (List.mem_of_getElem? q)
theorem own_narc (x : Int32) : nar .char (x.toUInt32.toUInt16.toUInt32.toInt32) = x.toUInt32.toUInt16.toUInt32.toInt32 := by
  show x.toUInt32.toUInt16.toUInt32.toInt32.toUInt32.toUInt16.toUInt32.toInt32 = _
  simp only [UInt32.toUInt32_toInt32, UInt16.toUInt16_toUInt32]
theorem own_obj {a : Addr} {C : String} (F : Exa Z h a C) : ∃ cell : Cell, h[a]? = some cell ∧ cell.vm.isStatics = false := by
  obtain ⟨cell, _, h1, -, -, h4, -⟩ := F; exact ⟨cell, h1, h4⟩
theorem own_stakeep {h' : Heap} {ws : List Addr} {C n d : String} {v : Value} (F : Sta Z h C n d v) (K : Keep h h' ws) (q : ∀ x ∈ ws, ∃ cell : Cell, h[x]? = some cell ∧ cell.vm.isStatics = false) : Sta Z h' C n d v := by
  obtain ⟨cf, i, k, f, st, cell, h1, h2, h3, h4, h5, h6, h7⟩ := F
  refine ⟨cf, i, k, f, st, cell, h1, h2, h3, h4, K.2.1 _ _ h5 fun hm => ?_, h6, h7⟩
  obtain ⟨c', g1, g2⟩ := q _ hm
  cases g1.symm.trans h5
  rw [h6] at g2; cases g2
end OwnKit
theorem OGo.callP {p : Program} {l : Launch} {e : Env} {R : Room} {s : State} {m : MethodId} {args : Array Value} {below : List Frame} {meth : Method} {c : Code} {T : State} {locs : List Loc} {cells slots : Nat} {Z : State} {a0 : Array Value} {h : Heap} {Q : Option Value → Heap → List Loc → Prop} {kc ks : Nat}
    (X : Stand p l e R s m args below meth c T locs cells slots) (hx : p.tables.exec = Jvm.exec) (hZ : Z.Warmed39 s.vm) {own : String} {index : Nat} {y z : MethodName} {bytes : ByteArray} {maxL : Nat} {ret : Option FieldType} (hz : z.cls = y.cls) (hown : s.vm.findClass own = some m.cls)
    (wl : (Jvm.Cond.methodLink own index y).before a0 Z = true) (win : (Jvm.Cond.instanceMethod y).before a0 Z = true) (wp : (Jvm.Cond.privateMethod y).before a0 Z = true) (winz : (Jvm.Cond.instanceMethod z).before a0 Z = true) (wsel : (Jvm.Cond.selects z.cls z z).before a0 Z = true) (wi : (Jvm.Cond.initialized y.cls).before a0 Z = true) (wc : (Jvm.Cond.code y bytes maxL ret).before a0 Z = true) (hy : y.cls ≠ "java/lang/invoke/MethodHandle" ∧ y.cls ≠ "java/lang/invoke/VarHandle")
    {rm : Room} {as' : Array Value} {Q' : Option Value → Heap → List Loc → Prop} (hM : OCtr l Z y bytes maxL ret [] rm as' h Q') {W : Nat} (hf : rm.frames + 1 ≤ R.frames) (hl : W + (maxL + 11) + rm.locals ≤ R.locals) {b : Addr} {C : String} (E : Exa Z h b C)
    {g : JFrame} (hg : g.method = m) (hsize : g.locals.size = c.maxLocals) {argsL rest : List Value} (hlen : ∀ sig, parseMethodDescriptor y.desc = some sig → argsL.length = sig.parameters.length) (hstack : g.stack = argsL.reverse ++ .ref b :: rest) (hW : 2 * g.monitorRoom + (rest.map fun v => v.category).sum ≤ W) (hdg : decode c.code g.pc = .ok (.invokevirtual index, 3))
    (ha : (.ref b :: argsL).toArray = as') (e0 : T.heap = h) (hc : cells + rm.cells ≤ R.cells) (hs : slots + rm.slots ≤ R.slots)
    (k : ∀ (v : Option Value) (T' : State) (L' : List Loc), Stand p l e R s m args below meth c T' (locs ++ L') (cells + rm.cells) (slots + rm.slots) → Q' v T'.heap L' → OGo p e below s Q kc ks (T'.setTop { g with pc := g.pc + 3, stack := v.toList ++ rest })) : OGo p e below s Q kc ks (T.setTop g) := by
  have hpriv : s.PrivateAt y := Cond.privateMethod_at (mvP (args := args) hZ wp)
  have hsel : (Cond.selects y.cls y y).before args s = true := by
    obtain ⟨mk, mm, hn, -⟩ := Cond.instanceMethod_spec (mvT hZ winz : (Cond.instanceMethod z).before args s = true)
    obtain ⟨kr, k1, k2⟩ := notFace_of_selects (args := args) (mvT hZ wsel) mk hn
    exact selects_self_of_private (c := mk.cls) (by rw [← hz]; exact findClass_of_methodNamed hn) k1 k2 hpriv (mvT hZ win) hy
  obtain ⟨cell, q1, q2⟩ := Exa.cell E
  obtain ⟨v, _, ⟨T', L', k', n'⟩, -, X', ⟨Lc, hQ, l', y', z'⟩, st⟩ := X.privateBack hx hown (mvT hZ wl) (mvT hZ win) hsel hpriv (mvT hZ wc) hy (backOf (W := W) hM hZ wc wi hf hl) hg hsize (Steps.refl _) (by rw [e0]; exact q1) q2 hlen hstack hW hdg (fun _ _ => ⟨ha, e0, hc, hs⟩)
  dsimp only [Pt.U, Pt.locs, Pt.cells, Pt.slots] at X' l' y' z' st hQ
  subst l' y' z'
  exact OGo.step (fun t q => st.trans q) (k v T' Lc X' hQ)
/-! body 6: java/lang/Integer.numberOfLeadingZeros:(I)I -/
theorem d6_0 : decode jdk_33_method_47_code 0 = .ok (.iload_n 0, 1) := by decide +kernel
theorem d6_1 : decode jdk_33_method_47_code 1 = .ok (.ifCond .gt 14, 3) := by decide +kernel
theorem d6_4 : decode jdk_33_method_47_code 4 = .ok (.iload_n 0, 1) := by decide +kernel
theorem d6_5 : decode jdk_33_method_47_code 5 = .ok (.ifCond .ne 8, 3) := by decide +kernel
theorem d6_8 : decode jdk_33_method_47_code 8 = .ok (.bipush 32, 2) := by decide +kernel
theorem d6_10 : decode jdk_33_method_47_code 10 = .ok (.goto 4, 3) := by decide +kernel
theorem d6_13 : decode jdk_33_method_47_code 13 = .ok (.iconst 0, 1) := by decide +kernel
theorem d6_14 : decode jdk_33_method_47_code 14 = .ok (.ireturn, 1) := by decide +kernel
theorem d6_15 : decode jdk_33_method_47_code 15 = .ok (.bipush 31, 2) := by decide +kernel
theorem d6_17 : decode jdk_33_method_47_code 17 = .ok (.istore_n 1, 1) := by decide +kernel
theorem d6_18 : decode jdk_33_method_47_code 18 = .ok (.iload_n 0, 1) := by decide +kernel
theorem d6_19 : decode jdk_33_method_47_code 19 = .ok (.ldc_w 264, 3) := by decide +kernel
theorem d6_22 : decode jdk_33_method_47_code 22 = .ok (.if_icmp .lt 11, 3) := by decide +kernel
theorem d6_25 : decode jdk_33_method_47_code 25 = .ok (.iinc 1 (-16), 3) := by decide +kernel
theorem d6_28 : decode jdk_33_method_47_code 28 = .ok (.iload_n 0, 1) := by decide +kernel
theorem d6_29 : decode jdk_33_method_47_code 29 = .ok (.bipush 16, 2) := by decide +kernel
theorem d6_31 : decode jdk_33_method_47_code 31 = .ok (.iushr, 1) := by decide +kernel
theorem d6_32 : decode jdk_33_method_47_code 32 = .ok (.istore_n 0, 1) := by decide +kernel
theorem d6_33 : decode jdk_33_method_47_code 33 = .ok (.iload_n 0, 1) := by decide +kernel
theorem d6_34 : decode jdk_33_method_47_code 34 = .ok (.sipush 256, 3) := by decide +kernel
theorem d6_37 : decode jdk_33_method_47_code 37 = .ok (.if_icmp .lt 11, 3) := by decide +kernel
theorem d6_40 : decode jdk_33_method_47_code 40 = .ok (.iinc 1 (-8), 3) := by decide +kernel
theorem d6_43 : decode jdk_33_method_47_code 43 = .ok (.iload_n 0, 1) := by decide +kernel
theorem d6_44 : decode jdk_33_method_47_code 44 = .ok (.bipush 8, 2) := by decide +kernel
theorem d6_46 : decode jdk_33_method_47_code 46 = .ok (.iushr, 1) := by decide +kernel
theorem d6_47 : decode jdk_33_method_47_code 47 = .ok (.istore_n 0, 1) := by decide +kernel
theorem d6_48 : decode jdk_33_method_47_code 48 = .ok (.iload_n 0, 1) := by decide +kernel
theorem d6_49 : decode jdk_33_method_47_code 49 = .ok (.bipush 16, 2) := by decide +kernel
theorem d6_51 : decode jdk_33_method_47_code 51 = .ok (.if_icmp .lt 10, 3) := by decide +kernel
theorem d6_54 : decode jdk_33_method_47_code 54 = .ok (.iinc 1 (-4), 3) := by decide +kernel
theorem d6_57 : decode jdk_33_method_47_code 57 = .ok (.iload_n 0, 1) := by decide +kernel
theorem d6_58 : decode jdk_33_method_47_code 58 = .ok (.iconst 4, 1) := by decide +kernel
theorem d6_59 : decode jdk_33_method_47_code 59 = .ok (.iushr, 1) := by decide +kernel
theorem d6_60 : decode jdk_33_method_47_code 60 = .ok (.istore_n 0, 1) := by decide +kernel
theorem d6_61 : decode jdk_33_method_47_code 61 = .ok (.iload_n 0, 1) := by decide +kernel
theorem d6_62 : decode jdk_33_method_47_code 62 = .ok (.iconst 4, 1) := by decide +kernel
theorem d6_63 : decode jdk_33_method_47_code 63 = .ok (.if_icmp .lt 10, 3) := by decide +kernel
theorem d6_66 : decode jdk_33_method_47_code 66 = .ok (.iinc 1 (-2), 3) := by decide +kernel
theorem d6_69 : decode jdk_33_method_47_code 69 = .ok (.iload_n 0, 1) := by decide +kernel
theorem d6_70 : decode jdk_33_method_47_code 70 = .ok (.iconst 2, 1) := by decide +kernel
theorem d6_71 : decode jdk_33_method_47_code 71 = .ok (.iushr, 1) := by decide +kernel
theorem d6_72 : decode jdk_33_method_47_code 72 = .ok (.istore_n 0, 1) := by decide +kernel
theorem d6_73 : decode jdk_33_method_47_code 73 = .ok (.iload_n 1, 1) := by decide +kernel
theorem d6_74 : decode jdk_33_method_47_code 74 = .ok (.iload_n 0, 1) := by decide +kernel
theorem d6_75 : decode jdk_33_method_47_code 75 = .ok (.iconst 1, 1) := by decide +kernel
theorem d6_76 : decode jdk_33_method_47_code 76 = .ok (.iushr, 1) := by decide +kernel
theorem d6_77 : decode jdk_33_method_47_code 77 = .ok (.isub, 1) := by decide +kernel
theorem d6_78 : decode jdk_33_method_47_code 78 = .ok (.ireturn, 1) := by decide +kernel
theorem pn_6 : plainName "java/lang/Integer" = true := by first | (simp [plainName, overriddenIn]; done) | decide +kernel
theorem ef_6 (m : MethodId) (x0 : Int32) : entryFrame m #[(.int x0)] 2 = mkF m 0 #[.val (.int x0), .unset] [] := by first | (simp [entryFrame, mkF, argsToLocals, Value.category]; done) | rfl
def f6 (p0 : Int32) : Int32 :=
  if (0 : Int32) < p0 then (if p0 < (65536 : Int32) then (if p0 < (256 : Int32) then (if p0 < (16 : Int32) then (if p0 < (4 : Int32) then ((31 : Int32) - ((p0.toUInt32 >>> ((1 : Int32) &&& 31).toUInt32).toInt32))
          else ((29 : Int32) - ((((p0.toUInt32 >>> ((2 : Int32) &&& 31).toUInt32).toInt32).toUInt32 >>> ((1 : Int32) &&& 31).toUInt32).toInt32)))
        else if ((p0.toUInt32 >>> ((4 : Int32) &&& 31).toUInt32).toInt32) < (4 : Int32) then ((27 : Int32) - ((((p0.toUInt32 >>> ((4 : Int32) &&& 31).toUInt32).toInt32).toUInt32 >>> ((1 : Int32) &&& 31).toUInt32).toInt32))
          else ((25 : Int32) - ((((((p0.toUInt32 >>> ((4 : Int32) &&& 31).toUInt32).toInt32).toUInt32 >>> ((2 : Int32) &&& 31).toUInt32).toInt32).toUInt32 >>> ((1 : Int32) &&& 31).toUInt32).toInt32)))
      else if ((p0.toUInt32 >>> ((8 : Int32) &&& 31).toUInt32).toInt32) < (16 : Int32) then (if ((p0.toUInt32 >>> ((8 : Int32) &&& 31).toUInt32).toInt32) < (4 : Int32) then ((23 : Int32) - ((((p0.toUInt32 >>> ((8 : Int32) &&& 31).toUInt32).toInt32).toUInt32 >>> ((1 : Int32) &&& 31).toUInt32).toInt32))
          else ((21 : Int32) - ((((((p0.toUInt32 >>> ((8 : Int32) &&& 31).toUInt32).toInt32).toUInt32 >>> ((2 : Int32) &&& 31).toUInt32).toInt32).toUInt32 >>> ((1 : Int32) &&& 31).toUInt32).toInt32)))
        else if ((((p0.toUInt32 >>> ((8 : Int32) &&& 31).toUInt32).toInt32).toUInt32 >>> ((4 : Int32) &&& 31).toUInt32).toInt32) < (4 : Int32) then ((19 : Int32) - ((((((p0.toUInt32 >>> ((8 : Int32) &&& 31).toUInt32).toInt32).toUInt32 >>> ((4 : Int32) &&& 31).toUInt32).toInt32).toUInt32 >>> ((1 : Int32) &&& 31).toUInt32).toInt32))
          else ((17 : Int32) - ((((((((p0.toUInt32 >>> ((8 : Int32) &&& 31).toUInt32).toInt32).toUInt32 >>> ((4 : Int32) &&& 31).toUInt32).toInt32).toUInt32 >>> ((2 : Int32) &&& 31).toUInt32).toInt32).toUInt32 >>> ((1 : Int32) &&& 31).toUInt32).toInt32)))
    else if ((p0.toUInt32 >>> ((16 : Int32) &&& 31).toUInt32).toInt32) < (256 : Int32) then (if ((p0.toUInt32 >>> ((16 : Int32) &&& 31).toUInt32).toInt32) < (16 : Int32) then (if ((p0.toUInt32 >>> ((16 : Int32) &&& 31).toUInt32).toInt32) < (4 : Int32) then ((15 : Int32) - ((((p0.toUInt32 >>> ((16 : Int32) &&& 31).toUInt32).toInt32).toUInt32 >>> ((1 : Int32) &&& 31).toUInt32).toInt32))
          else ((13 : Int32) - ((((((p0.toUInt32 >>> ((16 : Int32) &&& 31).toUInt32).toInt32).toUInt32 >>> ((2 : Int32) &&& 31).toUInt32).toInt32).toUInt32 >>> ((1 : Int32) &&& 31).toUInt32).toInt32)))
        else if ((((p0.toUInt32 >>> ((16 : Int32) &&& 31).toUInt32).toInt32).toUInt32 >>> ((4 : Int32) &&& 31).toUInt32).toInt32) < (4 : Int32) then ((11 : Int32) - ((((((p0.toUInt32 >>> ((16 : Int32) &&& 31).toUInt32).toInt32).toUInt32 >>> ((4 : Int32) &&& 31).toUInt32).toInt32).toUInt32 >>> ((1 : Int32) &&& 31).toUInt32).toInt32))
          else ((9 : Int32) - ((((((((p0.toUInt32 >>> ((16 : Int32) &&& 31).toUInt32).toInt32).toUInt32 >>> ((4 : Int32) &&& 31).toUInt32).toInt32).toUInt32 >>> ((2 : Int32) &&& 31).toUInt32).toInt32).toUInt32 >>> ((1 : Int32) &&& 31).toUInt32).toInt32)))
      else if ((((p0.toUInt32 >>> ((16 : Int32) &&& 31).toUInt32).toInt32).toUInt32 >>> ((8 : Int32) &&& 31).toUInt32).toInt32) < (16 : Int32) then (if ((((p0.toUInt32 >>> ((16 : Int32) &&& 31).toUInt32).toInt32).toUInt32 >>> ((8 : Int32) &&& 31).toUInt32).toInt32) < (4 : Int32) then ((7 : Int32) - ((((((p0.toUInt32 >>> ((16 : Int32) &&& 31).toUInt32).toInt32).toUInt32 >>> ((8 : Int32) &&& 31).toUInt32).toInt32).toUInt32 >>> ((1 : Int32) &&& 31).toUInt32).toInt32))
          else ((5 : Int32) - ((((((((p0.toUInt32 >>> ((16 : Int32) &&& 31).toUInt32).toInt32).toUInt32 >>> ((8 : Int32) &&& 31).toUInt32).toInt32).toUInt32 >>> ((2 : Int32) &&& 31).toUInt32).toInt32).toUInt32 >>> ((1 : Int32) &&& 31).toUInt32).toInt32)))
        else if ((((((p0.toUInt32 >>> ((16 : Int32) &&& 31).toUInt32).toInt32).toUInt32 >>> ((8 : Int32) &&& 31).toUInt32).toInt32).toUInt32 >>> ((4 : Int32) &&& 31).toUInt32).toInt32) < (4 : Int32) then ((3 : Int32) - ((((((((p0.toUInt32 >>> ((16 : Int32) &&& 31).toUInt32).toInt32).toUInt32 >>> ((8 : Int32) &&& 31).toUInt32).toInt32).toUInt32 >>> ((4 : Int32) &&& 31).toUInt32).toInt32).toUInt32 >>> ((1 : Int32) &&& 31).toUInt32).toInt32))
          else ((1 : Int32) - ((((((((((p0.toUInt32 >>> ((16 : Int32) &&& 31).toUInt32).toInt32).toUInt32 >>> ((8 : Int32) &&& 31).toUInt32).toInt32).toUInt32 >>> ((4 : Int32) &&& 31).toUInt32).toInt32).toUInt32 >>> ((2 : Int32) &&& 31).toUInt32).toInt32).toUInt32 >>> ((1 : Int32) &&& 31).toUInt32).toInt32)))
  else if p0 = (0 : Int32) then (32 : Int32)
    else (0 : Int32)
set_option maxRecDepth 65536 in
set_option maxHeartbeats 40000000 in
theorem rm6 (l : Launch) (Z : State) (az : Array Value) (hw : ∀ d ∈ tables_1, d.before az Z = true) (ws : List Jvm.Cond) (p0 : Int32) (h0 : Heap) (n0 : Nat) (Z0 : n0 ≤ h0.size) :
    OCtr l Z (⟨"java/lang/Integer", "numberOfLeadingZeros", "(I)I"⟩ : MethodName) jdk_33_method_47_code 2 (some .int) ws ({ frames := 0, cells := 0, slots := 0, locals := 0 } : Room) #[(.int p0)] h0 (OPure (some (.int (f6 p0))) h0 n0) := by
  refine OCtr.of (plainFor_of_name pn_6) ?_
  intro p e s m below meth c s₁ X0 hx hlk hZ hown0 hnm hby hml0 hret e0
  have hown : s.vm.findClass "java/lang/Integer" = some m.cls := hown0
  have hml : c.maxLocals = 2 := hml0
  have N0 := Fr.nil n0
  refine OGo.step (fun t k => castTop (ef_6 m p0) k) ?_
  refine OGo.step (F' := s₁.setTop (mkF m 1 #[.val (.int p0), .unset] [(.int p0)])) (fun t kt => ?_) ?_
  · show Steps p.tables e below (s₁.setTop (mkF m 0 #[.val (.int p0), .unset] [])) t
    refine XS.iloadN X0.here hx rfl (hb hby d6_0) rfl ?_
    exact kt
  by_cases hc1 : (0 : Int32) < p0
  · refine OGo.step (F' := s₁.setTop (mkF m 15 #[.val (.int p0), .unset] [])) (fun t kt => ?_) ?_
    · show Steps p.tables e below (s₁.setTop (mkF m 1 #[.val (.int p0), .unset] [(.int p0)])) t
      refine XS.ifYes X0.here hx rfl (pc0 := 1) (pc' := 15) rfl (hb hby d6_1) rfl ((if0 _ _).trans (tlt hc1).2.2.1) (by decide) (by decide) ?_
      exact kt
    refine OGo.step (F' := s₁.setTop (mkF m 22 #[.val (.int p0), .val (.int (31 : Int32))] [(.int (65536 : Int32)), (.int p0)])) (fun t kt => ?_) ?_
    · show Steps p.tables e below (s₁.setTop (mkF m 15 #[.val (.int p0), .unset] [])) t
      refine XS.bipush X0.here hx rfl (hb hby d6_15) ?_
      show Steps p.tables e below (s₁.setTop (mkF m 17 #[.val (.int p0), .unset] [(.int (31 : Int32))])) t
      refine XS.istoreN X0.here hx rfl (hb hby d6_17) rfl (l' := #[.val (.int p0), .val (.int (31 : Int32))]) rfl ?_
      show Steps p.tables e below (s₁.setTop (mkF m 18 #[.val (.int p0), .val (.int (31 : Int32))] [])) t
      refine XS.iloadN X0.here hx rfl (hb hby d6_18) rfl ?_
      show Steps p.tables e below (s₁.setTop (mkF m 19 #[.val (.int p0), .val (.int (31 : Int32))] [(.int p0)])) t
      refine X0.ldcWInt hx hown (mvT hZ (own_wd hw 34 rfl)) (g := (mkF m 19 #[.val (.int p0), .val (.int (31 : Int32))] [(.int p0)])) rfl (hb hby d6_19) _ ?_
      exact kt
    by_cases hc22 : p0 < (65536 : Int32)
    · refine OGo.step (F' := s₁.setTop (mkF m 33 #[.val (.int p0), .val (.int (31 : Int32))] [])) (fun t kt => ?_) ?_
      · show Steps p.tables e below (s₁.setTop (mkF m 22 #[.val (.int p0), .val (.int (31 : Int32))] [(.int (65536 : Int32)), (.int p0)])) t
        refine XS.icmpYes X0.here hx rfl (pc0 := 22) (pc' := 33) rfl (hb hby d6_22) rfl (tlt hc22).1 (by decide) (by decide) ?_
        exact kt
      refine OGo.step (F' := s₁.setTop (mkF m 37 #[.val (.int p0), .val (.int (31 : Int32))] [(.int (256 : Int32)), (.int p0)])) (fun t kt => ?_) ?_
      · show Steps p.tables e below (s₁.setTop (mkF m 33 #[.val (.int p0), .val (.int (31 : Int32))] [])) t
        refine XS.iloadN X0.here hx rfl (hb hby d6_33) rfl ?_
        show Steps p.tables e below (s₁.setTop (mkF m 34 #[.val (.int p0), .val (.int (31 : Int32))] [(.int p0)])) t
        refine XS.sipush X0.here hx rfl (hb hby d6_34) ?_
        exact kt
      by_cases hc37 : p0 < (256 : Int32)
      · refine OGo.step (F' := s₁.setTop (mkF m 48 #[.val (.int p0), .val (.int (31 : Int32))] [])) (fun t kt => ?_) ?_
        · show Steps p.tables e below (s₁.setTop (mkF m 37 #[.val (.int p0), .val (.int (31 : Int32))] [(.int (256 : Int32)), (.int p0)])) t
          refine XS.icmpYes X0.here hx rfl (pc0 := 37) (pc' := 48) rfl (hb hby d6_37) rfl (tlt hc37).1 (by decide) (by decide) ?_
          exact kt
        refine OGo.step (F' := s₁.setTop (mkF m 51 #[.val (.int p0), .val (.int (31 : Int32))] [(.int (16 : Int32)), (.int p0)])) (fun t kt => ?_) ?_
        · show Steps p.tables e below (s₁.setTop (mkF m 48 #[.val (.int p0), .val (.int (31 : Int32))] [])) t
          refine XS.iloadN X0.here hx rfl (hb hby d6_48) rfl ?_
          show Steps p.tables e below (s₁.setTop (mkF m 49 #[.val (.int p0), .val (.int (31 : Int32))] [(.int p0)])) t
          refine XS.bipush X0.here hx rfl (hb hby d6_49) ?_
          exact kt
        by_cases hc51 : p0 < (16 : Int32)
        · refine OGo.step (F' := s₁.setTop (mkF m 61 #[.val (.int p0), .val (.int (31 : Int32))] [])) (fun t kt => ?_) ?_
          · show Steps p.tables e below (s₁.setTop (mkF m 51 #[.val (.int p0), .val (.int (31 : Int32))] [(.int (16 : Int32)), (.int p0)])) t
            refine XS.icmpYes X0.here hx rfl (pc0 := 51) (pc' := 61) rfl (hb hby d6_51) rfl (tlt hc51).1 (by decide) (by decide) ?_
            exact kt
          refine OGo.step (F' := s₁.setTop (mkF m 63 #[.val (.int p0), .val (.int (31 : Int32))] [(.int (4 : Int32)), (.int p0)])) (fun t kt => ?_) ?_
          · show Steps p.tables e below (s₁.setTop (mkF m 61 #[.val (.int p0), .val (.int (31 : Int32))] [])) t
            refine XS.iloadN X0.here hx rfl (hb hby d6_61) rfl ?_
            show Steps p.tables e below (s₁.setTop (mkF m 62 #[.val (.int p0), .val (.int (31 : Int32))] [(.int p0)])) t
            refine XS.iconst X0.here hx rfl (hb hby d6_62) ?_
            exact kt
          by_cases hc63 : p0 < (4 : Int32)
          · refine OGo.step (F' := s₁.setTop (mkF m 73 #[.val (.int p0), .val (.int (31 : Int32))] [])) (fun t kt => ?_) ?_
            · show Steps p.tables e below (s₁.setTop (mkF m 63 #[.val (.int p0), .val (.int (31 : Int32))] [(.int (4 : Int32)), (.int p0)])) t
              refine XS.icmpYes X0.here hx rfl (pc0 := 63) (pc' := 73) rfl (hb hby d6_63) rfl (tlt hc63).1 (by decide) (by decide) ?_
              exact kt
            refine OGo.step (F' := s₁.setTop (mkF m 78 #[.val (.int p0), .val (.int (31 : Int32))] [(.int ((31 : Int32) - ((p0.toUInt32 >>> ((1 : Int32) &&& 31).toUInt32).toInt32)))])) (fun t kt => ?_) ?_
            · show Steps p.tables e below (s₁.setTop (mkF m 73 #[.val (.int p0), .val (.int (31 : Int32))] [])) t
              refine XS.iloadN X0.here hx rfl (hb hby d6_73) rfl ?_
              show Steps p.tables e below (s₁.setTop (mkF m 74 #[.val (.int p0), .val (.int (31 : Int32))] [(.int (31 : Int32))])) t
              refine XS.iloadN X0.here hx rfl (hb hby d6_74) rfl ?_
              show Steps p.tables e below (s₁.setTop (mkF m 75 #[.val (.int p0), .val (.int (31 : Int32))] [(.int p0), (.int (31 : Int32))])) t
              refine XS.iconst X0.here hx rfl (hb hby d6_75) ?_
              show Steps p.tables e below (s₁.setTop (mkF m 76 #[.val (.int p0), .val (.int (31 : Int32))] [(.int (1 : Int32)), (.int p0), (.int (31 : Int32))])) t
              refine XS.iushr X0.here hx rfl (hb hby d6_76) rfl ?_
              show Steps p.tables e below (s₁.setTop (mkF m 77 #[.val (.int p0), .val (.int (31 : Int32))] [(.int ((p0.toUInt32 >>> ((1 : Int32) &&& 31).toUInt32).toInt32)), (.int (31 : Int32))])) t
              refine XS.isub X0.here hx rfl (hb hby d6_77) rfl ?_
              exact kt
            refine OGo.retI X0 hx hlk hret (hb hby d6_78) ?_ (by decide) (by decide)
            exact ⟨(by rw [f6, if_pos hc1, if_pos hc22, if_pos hc37, if_pos hc51, if_pos hc63]), N0, e0⟩
          · refine OGo.step (F' := s₁.setTop (mkF m 66 #[.val (.int p0), .val (.int (31 : Int32))] [])) (fun t kt => ?_) ?_
            · show Steps p.tables e below (s₁.setTop (mkF m 63 #[.val (.int p0), .val (.int (31 : Int32))] [(.int (4 : Int32)), (.int p0)])) t
              refine XS.icmpNo X0.here hx rfl (hb hby d6_63) rfl (flt hc63).1 ?_
              exact kt
            refine OGo.step (F' := s₁.setTop (mkF m 78 #[.val (.int ((p0.toUInt32 >>> ((2 : Int32) &&& 31).toUInt32).toInt32)), .val (.int (29 : Int32))] [(.int ((29 : Int32) - ((((p0.toUInt32 >>> ((2 : Int32) &&& 31).toUInt32).toInt32).toUInt32 >>> ((1 : Int32) &&& 31).toUInt32).toInt32)))])) (fun t kt => ?_) ?_
            · show Steps p.tables e below (s₁.setTop (mkF m 66 #[.val (.int p0), .val (.int (31 : Int32))] [])) t
              refine XS.iinc X0.here hx rfl (hb hby d6_66) rfl (l' := #[.val (.int p0), .val (.int (29 : Int32))]) rfl ?_
              show Steps p.tables e below (s₁.setTop (mkF m 69 #[.val (.int p0), .val (.int (29 : Int32))] [])) t
              refine XS.iloadN X0.here hx rfl (hb hby d6_69) rfl ?_
              show Steps p.tables e below (s₁.setTop (mkF m 70 #[.val (.int p0), .val (.int (29 : Int32))] [(.int p0)])) t
              refine XS.iconst X0.here hx rfl (hb hby d6_70) ?_
              show Steps p.tables e below (s₁.setTop (mkF m 71 #[.val (.int p0), .val (.int (29 : Int32))] [(.int (2 : Int32)), (.int p0)])) t
              refine XS.iushr X0.here hx rfl (hb hby d6_71) rfl ?_
              show Steps p.tables e below (s₁.setTop (mkF m 72 #[.val (.int p0), .val (.int (29 : Int32))] [(.int ((p0.toUInt32 >>> ((2 : Int32) &&& 31).toUInt32).toInt32))])) t
              refine XS.istoreN X0.here hx rfl (hb hby d6_72) rfl (l' := #[.val (.int ((p0.toUInt32 >>> ((2 : Int32) &&& 31).toUInt32).toInt32)), .val (.int (29 : Int32))]) rfl ?_
              show Steps p.tables e below (s₁.setTop (mkF m 73 #[.val (.int ((p0.toUInt32 >>> ((2 : Int32) &&& 31).toUInt32).toInt32)), .val (.int (29 : Int32))] [])) t
              refine XS.iloadN X0.here hx rfl (hb hby d6_73) rfl ?_
              show Steps p.tables e below (s₁.setTop (mkF m 74 #[.val (.int ((p0.toUInt32 >>> ((2 : Int32) &&& 31).toUInt32).toInt32)), .val (.int (29 : Int32))] [(.int (29 : Int32))])) t
              refine XS.iloadN X0.here hx rfl (hb hby d6_74) rfl ?_
              show Steps p.tables e below (s₁.setTop (mkF m 75 #[.val (.int ((p0.toUInt32 >>> ((2 : Int32) &&& 31).toUInt32).toInt32)), .val (.int (29 : Int32))] [(.int ((p0.toUInt32 >>> ((2 : Int32) &&& 31).toUInt32).toInt32)), (.int (29 : Int32))])) t
              refine XS.iconst X0.here hx rfl (hb hby d6_75) ?_
              show Steps p.tables e below (s₁.setTop (mkF m 76 #[.val (.int ((p0.toUInt32 >>> ((2 : Int32) &&& 31).toUInt32).toInt32)), .val (.int (29 : Int32))] [(.int (1 : Int32)), (.int ((p0.toUInt32 >>> ((2 : Int32) &&& 31).toUInt32).toInt32)), (.int (29 : Int32))])) t
              refine XS.iushr X0.here hx rfl (hb hby d6_76) rfl ?_
              show Steps p.tables e below (s₁.setTop (mkF m 77 #[.val (.int ((p0.toUInt32 >>> ((2 : Int32) &&& 31).toUInt32).toInt32)), .val (.int (29 : Int32))] [(.int ((((p0.toUInt32 >>> ((2 : Int32) &&& 31).toUInt32).toInt32).toUInt32 >>> ((1 : Int32) &&& 31).toUInt32).toInt32)), (.int (29 : Int32))])) t
              refine XS.isub X0.here hx rfl (hb hby d6_77) rfl ?_
              exact kt
            refine OGo.retI X0 hx hlk hret (hb hby d6_78) ?_ (by decide) (by decide)
            exact ⟨(by rw [f6, if_pos hc1, if_pos hc22, if_pos hc37, if_pos hc51, if_neg hc63]), N0, e0⟩
        · refine OGo.step (F' := s₁.setTop (mkF m 54 #[.val (.int p0), .val (.int (31 : Int32))] [])) (fun t kt => ?_) ?_
          · show Steps p.tables e below (s₁.setTop (mkF m 51 #[.val (.int p0), .val (.int (31 : Int32))] [(.int (16 : Int32)), (.int p0)])) t
            refine XS.icmpNo X0.here hx rfl (hb hby d6_51) rfl (flt hc51).1 ?_
            exact kt
          refine OGo.step (F' := s₁.setTop (mkF m 63 #[.val (.int ((p0.toUInt32 >>> ((4 : Int32) &&& 31).toUInt32).toInt32)), .val (.int (27 : Int32))] [(.int (4 : Int32)), (.int ((p0.toUInt32 >>> ((4 : Int32) &&& 31).toUInt32).toInt32))])) (fun t kt => ?_) ?_
          · show Steps p.tables e below (s₁.setTop (mkF m 54 #[.val (.int p0), .val (.int (31 : Int32))] [])) t
            refine XS.iinc X0.here hx rfl (hb hby d6_54) rfl (l' := #[.val (.int p0), .val (.int (27 : Int32))]) rfl ?_
            show Steps p.tables e below (s₁.setTop (mkF m 57 #[.val (.int p0), .val (.int (27 : Int32))] [])) t
            refine XS.iloadN X0.here hx rfl (hb hby d6_57) rfl ?_
            show Steps p.tables e below (s₁.setTop (mkF m 58 #[.val (.int p0), .val (.int (27 : Int32))] [(.int p0)])) t
            refine XS.iconst X0.here hx rfl (hb hby d6_58) ?_
            show Steps p.tables e below (s₁.setTop (mkF m 59 #[.val (.int p0), .val (.int (27 : Int32))] [(.int (4 : Int32)), (.int p0)])) t
            refine XS.iushr X0.here hx rfl (hb hby d6_59) rfl ?_
            show Steps p.tables e below (s₁.setTop (mkF m 60 #[.val (.int p0), .val (.int (27 : Int32))] [(.int ((p0.toUInt32 >>> ((4 : Int32) &&& 31).toUInt32).toInt32))])) t
            refine XS.istoreN X0.here hx rfl (hb hby d6_60) rfl (l' := #[.val (.int ((p0.toUInt32 >>> ((4 : Int32) &&& 31).toUInt32).toInt32)), .val (.int (27 : Int32))]) rfl ?_
            show Steps p.tables e below (s₁.setTop (mkF m 61 #[.val (.int ((p0.toUInt32 >>> ((4 : Int32) &&& 31).toUInt32).toInt32)), .val (.int (27 : Int32))] [])) t
            refine XS.iloadN X0.here hx rfl (hb hby d6_61) rfl ?_
            show Steps p.tables e below (s₁.setTop (mkF m 62 #[.val (.int ((p0.toUInt32 >>> ((4 : Int32) &&& 31).toUInt32).toInt32)), .val (.int (27 : Int32))] [(.int ((p0.toUInt32 >>> ((4 : Int32) &&& 31).toUInt32).toInt32))])) t
            refine XS.iconst X0.here hx rfl (hb hby d6_62) ?_
            exact kt
          by_cases hc63 : ((p0.toUInt32 >>> ((4 : Int32) &&& 31).toUInt32).toInt32) < (4 : Int32)
          · refine OGo.step (F' := s₁.setTop (mkF m 73 #[.val (.int ((p0.toUInt32 >>> ((4 : Int32) &&& 31).toUInt32).toInt32)), .val (.int (27 : Int32))] [])) (fun t kt => ?_) ?_
            · show Steps p.tables e below (s₁.setTop (mkF m 63 #[.val (.int ((p0.toUInt32 >>> ((4 : Int32) &&& 31).toUInt32).toInt32)), .val (.int (27 : Int32))] [(.int (4 : Int32)), (.int ((p0.toUInt32 >>> ((4 : Int32) &&& 31).toUInt32).toInt32))])) t
              refine XS.icmpYes X0.here hx rfl (pc0 := 63) (pc' := 73) rfl (hb hby d6_63) rfl (tlt hc63).1 (by decide) (by decide) ?_
              exact kt
            refine OGo.step (F' := s₁.setTop (mkF m 78 #[.val (.int ((p0.toUInt32 >>> ((4 : Int32) &&& 31).toUInt32).toInt32)), .val (.int (27 : Int32))] [(.int ((27 : Int32) - ((((p0.toUInt32 >>> ((4 : Int32) &&& 31).toUInt32).toInt32).toUInt32 >>> ((1 : Int32) &&& 31).toUInt32).toInt32)))])) (fun t kt => ?_) ?_
            · show Steps p.tables e below (s₁.setTop (mkF m 73 #[.val (.int ((p0.toUInt32 >>> ((4 : Int32) &&& 31).toUInt32).toInt32)), .val (.int (27 : Int32))] [])) t
              refine XS.iloadN X0.here hx rfl (hb hby d6_73) rfl ?_
              show Steps p.tables e below (s₁.setTop (mkF m 74 #[.val (.int ((p0.toUInt32 >>> ((4 : Int32) &&& 31).toUInt32).toInt32)), .val (.int (27 : Int32))] [(.int (27 : Int32))])) t
              refine XS.iloadN X0.here hx rfl (hb hby d6_74) rfl ?_
              show Steps p.tables e below (s₁.setTop (mkF m 75 #[.val (.int ((p0.toUInt32 >>> ((4 : Int32) &&& 31).toUInt32).toInt32)), .val (.int (27 : Int32))] [(.int ((p0.toUInt32 >>> ((4 : Int32) &&& 31).toUInt32).toInt32)), (.int (27 : Int32))])) t
              refine XS.iconst X0.here hx rfl (hb hby d6_75) ?_
              show Steps p.tables e below (s₁.setTop (mkF m 76 #[.val (.int ((p0.toUInt32 >>> ((4 : Int32) &&& 31).toUInt32).toInt32)), .val (.int (27 : Int32))] [(.int (1 : Int32)), (.int ((p0.toUInt32 >>> ((4 : Int32) &&& 31).toUInt32).toInt32)), (.int (27 : Int32))])) t
              refine XS.iushr X0.here hx rfl (hb hby d6_76) rfl ?_
              show Steps p.tables e below (s₁.setTop (mkF m 77 #[.val (.int ((p0.toUInt32 >>> ((4 : Int32) &&& 31).toUInt32).toInt32)), .val (.int (27 : Int32))] [(.int ((((p0.toUInt32 >>> ((4 : Int32) &&& 31).toUInt32).toInt32).toUInt32 >>> ((1 : Int32) &&& 31).toUInt32).toInt32)), (.int (27 : Int32))])) t
              refine XS.isub X0.here hx rfl (hb hby d6_77) rfl ?_
              exact kt
            refine OGo.retI X0 hx hlk hret (hb hby d6_78) ?_ (by decide) (by decide)
            exact ⟨(by rw [f6, if_pos hc1, if_pos hc22, if_pos hc37, if_neg hc51, if_pos hc63]), N0, e0⟩
          · refine OGo.step (F' := s₁.setTop (mkF m 66 #[.val (.int ((p0.toUInt32 >>> ((4 : Int32) &&& 31).toUInt32).toInt32)), .val (.int (27 : Int32))] [])) (fun t kt => ?_) ?_
            · show Steps p.tables e below (s₁.setTop (mkF m 63 #[.val (.int ((p0.toUInt32 >>> ((4 : Int32) &&& 31).toUInt32).toInt32)), .val (.int (27 : Int32))] [(.int (4 : Int32)), (.int ((p0.toUInt32 >>> ((4 : Int32) &&& 31).toUInt32).toInt32))])) t
              refine XS.icmpNo X0.here hx rfl (hb hby d6_63) rfl (flt hc63).1 ?_
              exact kt
            refine OGo.step (F' := s₁.setTop (mkF m 78 #[.val (.int ((((p0.toUInt32 >>> ((4 : Int32) &&& 31).toUInt32).toInt32).toUInt32 >>> ((2 : Int32) &&& 31).toUInt32).toInt32)), .val (.int (25 : Int32))] [(.int ((25 : Int32) - ((((((p0.toUInt32 >>> ((4 : Int32) &&& 31).toUInt32).toInt32).toUInt32 >>> ((2 : Int32) &&& 31).toUInt32).toInt32).toUInt32 >>> ((1 : Int32) &&& 31).toUInt32).toInt32)))])) (fun t kt => ?_) ?_
            · show Steps p.tables e below (s₁.setTop (mkF m 66 #[.val (.int ((p0.toUInt32 >>> ((4 : Int32) &&& 31).toUInt32).toInt32)), .val (.int (27 : Int32))] [])) t
              refine XS.iinc X0.here hx rfl (hb hby d6_66) rfl (l' := #[.val (.int ((p0.toUInt32 >>> ((4 : Int32) &&& 31).toUInt32).toInt32)), .val (.int (25 : Int32))]) rfl ?_
              show Steps p.tables e below (s₁.setTop (mkF m 69 #[.val (.int ((p0.toUInt32 >>> ((4 : Int32) &&& 31).toUInt32).toInt32)), .val (.int (25 : Int32))] [])) t
              refine XS.iloadN X0.here hx rfl (hb hby d6_69) rfl ?_
              show Steps p.tables e below (s₁.setTop (mkF m 70 #[.val (.int ((p0.toUInt32 >>> ((4 : Int32) &&& 31).toUInt32).toInt32)), .val (.int (25 : Int32))] [(.int ((p0.toUInt32 >>> ((4 : Int32) &&& 31).toUInt32).toInt32))])) t
              refine XS.iconst X0.here hx rfl (hb hby d6_70) ?_
              show Steps p.tables e below (s₁.setTop (mkF m 71 #[.val (.int ((p0.toUInt32 >>> ((4 : Int32) &&& 31).toUInt32).toInt32)), .val (.int (25 : Int32))] [(.int (2 : Int32)), (.int ((p0.toUInt32 >>> ((4 : Int32) &&& 31).toUInt32).toInt32))])) t
              refine XS.iushr X0.here hx rfl (hb hby d6_71) rfl ?_
              show Steps p.tables e below (s₁.setTop (mkF m 72 #[.val (.int ((p0.toUInt32 >>> ((4 : Int32) &&& 31).toUInt32).toInt32)), .val (.int (25 : Int32))] [(.int ((((p0.toUInt32 >>> ((4 : Int32) &&& 31).toUInt32).toInt32).toUInt32 >>> ((2 : Int32) &&& 31).toUInt32).toInt32))])) t
              refine XS.istoreN X0.here hx rfl (hb hby d6_72) rfl (l' := #[.val (.int ((((p0.toUInt32 >>> ((4 : Int32) &&& 31).toUInt32).toInt32).toUInt32 >>> ((2 : Int32) &&& 31).toUInt32).toInt32)), .val (.int (25 : Int32))]) rfl ?_
              show Steps p.tables e below (s₁.setTop (mkF m 73 #[.val (.int ((((p0.toUInt32 >>> ((4 : Int32) &&& 31).toUInt32).toInt32).toUInt32 >>> ((2 : Int32) &&& 31).toUInt32).toInt32)), .val (.int (25 : Int32))] [])) t
              refine XS.iloadN X0.here hx rfl (hb hby d6_73) rfl ?_
              show Steps p.tables e below (s₁.setTop (mkF m 74 #[.val (.int ((((p0.toUInt32 >>> ((4 : Int32) &&& 31).toUInt32).toInt32).toUInt32 >>> ((2 : Int32) &&& 31).toUInt32).toInt32)), .val (.int (25 : Int32))] [(.int (25 : Int32))])) t
              refine XS.iloadN X0.here hx rfl (hb hby d6_74) rfl ?_
              show Steps p.tables e below (s₁.setTop (mkF m 75 #[.val (.int ((((p0.toUInt32 >>> ((4 : Int32) &&& 31).toUInt32).toInt32).toUInt32 >>> ((2 : Int32) &&& 31).toUInt32).toInt32)), .val (.int (25 : Int32))] [(.int ((((p0.toUInt32 >>> ((4 : Int32) &&& 31).toUInt32).toInt32).toUInt32 >>> ((2 : Int32) &&& 31).toUInt32).toInt32)), (.int (25 : Int32))])) t
              refine XS.iconst X0.here hx rfl (hb hby d6_75) ?_
              show Steps p.tables e below (s₁.setTop (mkF m 76 #[.val (.int ((((p0.toUInt32 >>> ((4 : Int32) &&& 31).toUInt32).toInt32).toUInt32 >>> ((2 : Int32) &&& 31).toUInt32).toInt32)), .val (.int (25 : Int32))] [(.int (1 : Int32)), (.int ((((p0.toUInt32 >>> ((4 : Int32) &&& 31).toUInt32).toInt32).toUInt32 >>> ((2 : Int32) &&& 31).toUInt32).toInt32)), (.int (25 : Int32))])) t
              refine XS.iushr X0.here hx rfl (hb hby d6_76) rfl ?_
              show Steps p.tables e below (s₁.setTop (mkF m 77 #[.val (.int ((((p0.toUInt32 >>> ((4 : Int32) &&& 31).toUInt32).toInt32).toUInt32 >>> ((2 : Int32) &&& 31).toUInt32).toInt32)), .val (.int (25 : Int32))] [(.int ((((((p0.toUInt32 >>> ((4 : Int32) &&& 31).toUInt32).toInt32).toUInt32 >>> ((2 : Int32) &&& 31).toUInt32).toInt32).toUInt32 >>> ((1 : Int32) &&& 31).toUInt32).toInt32)), (.int (25 : Int32))])) t
              refine XS.isub X0.here hx rfl (hb hby d6_77) rfl ?_
              exact kt
            refine OGo.retI X0 hx hlk hret (hb hby d6_78) ?_ (by decide) (by decide)
            exact ⟨(by rw [f6, if_pos hc1, if_pos hc22, if_pos hc37, if_neg hc51, if_neg hc63]), N0, e0⟩
      · refine OGo.step (F' := s₁.setTop (mkF m 40 #[.val (.int p0), .val (.int (31 : Int32))] [])) (fun t kt => ?_) ?_
        · show Steps p.tables e below (s₁.setTop (mkF m 37 #[.val (.int p0), .val (.int (31 : Int32))] [(.int (256 : Int32)), (.int p0)])) t
          refine XS.icmpNo X0.here hx rfl (hb hby d6_37) rfl (flt hc37).1 ?_
          exact kt
        refine OGo.step (F' := s₁.setTop (mkF m 51 #[.val (.int ((p0.toUInt32 >>> ((8 : Int32) &&& 31).toUInt32).toInt32)), .val (.int (23 : Int32))] [(.int (16 : Int32)), (.int ((p0.toUInt32 >>> ((8 : Int32) &&& 31).toUInt32).toInt32))])) (fun t kt => ?_) ?_
        · show Steps p.tables e below (s₁.setTop (mkF m 40 #[.val (.int p0), .val (.int (31 : Int32))] [])) t
          refine XS.iinc X0.here hx rfl (hb hby d6_40) rfl (l' := #[.val (.int p0), .val (.int (23 : Int32))]) rfl ?_
          show Steps p.tables e below (s₁.setTop (mkF m 43 #[.val (.int p0), .val (.int (23 : Int32))] [])) t
          refine XS.iloadN X0.here hx rfl (hb hby d6_43) rfl ?_
          show Steps p.tables e below (s₁.setTop (mkF m 44 #[.val (.int p0), .val (.int (23 : Int32))] [(.int p0)])) t
          refine XS.bipush X0.here hx rfl (hb hby d6_44) ?_
          show Steps p.tables e below (s₁.setTop (mkF m 46 #[.val (.int p0), .val (.int (23 : Int32))] [(.int (8 : Int32)), (.int p0)])) t
          refine XS.iushr X0.here hx rfl (hb hby d6_46) rfl ?_
          show Steps p.tables e below (s₁.setTop (mkF m 47 #[.val (.int p0), .val (.int (23 : Int32))] [(.int ((p0.toUInt32 >>> ((8 : Int32) &&& 31).toUInt32).toInt32))])) t
          refine XS.istoreN X0.here hx rfl (hb hby d6_47) rfl (l' := #[.val (.int ((p0.toUInt32 >>> ((8 : Int32) &&& 31).toUInt32).toInt32)), .val (.int (23 : Int32))]) rfl ?_
          show Steps p.tables e below (s₁.setTop (mkF m 48 #[.val (.int ((p0.toUInt32 >>> ((8 : Int32) &&& 31).toUInt32).toInt32)), .val (.int (23 : Int32))] [])) t
          refine XS.iloadN X0.here hx rfl (hb hby d6_48) rfl ?_
          show Steps p.tables e below (s₁.setTop (mkF m 49 #[.val (.int ((p0.toUInt32 >>> ((8 : Int32) &&& 31).toUInt32).toInt32)), .val (.int (23 : Int32))] [(.int ((p0.toUInt32 >>> ((8 : Int32) &&& 31).toUInt32).toInt32))])) t
          refine XS.bipush X0.here hx rfl (hb hby d6_49) ?_
          exact kt
        by_cases hc51 : ((p0.toUInt32 >>> ((8 : Int32) &&& 31).toUInt32).toInt32) < (16 : Int32)
        · refine OGo.step (F' := s₁.setTop (mkF m 61 #[.val (.int ((p0.toUInt32 >>> ((8 : Int32) &&& 31).toUInt32).toInt32)), .val (.int (23 : Int32))] [])) (fun t kt => ?_) ?_
          · show Steps p.tables e below (s₁.setTop (mkF m 51 #[.val (.int ((p0.toUInt32 >>> ((8 : Int32) &&& 31).toUInt32).toInt32)), .val (.int (23 : Int32))] [(.int (16 : Int32)), (.int ((p0.toUInt32 >>> ((8 : Int32) &&& 31).toUInt32).toInt32))])) t
            refine XS.icmpYes X0.here hx rfl (pc0 := 51) (pc' := 61) rfl (hb hby d6_51) rfl (tlt hc51).1 (by decide) (by decide) ?_
            exact kt
          refine OGo.step (F' := s₁.setTop (mkF m 63 #[.val (.int ((p0.toUInt32 >>> ((8 : Int32) &&& 31).toUInt32).toInt32)), .val (.int (23 : Int32))] [(.int (4 : Int32)), (.int ((p0.toUInt32 >>> ((8 : Int32) &&& 31).toUInt32).toInt32))])) (fun t kt => ?_) ?_
          · show Steps p.tables e below (s₁.setTop (mkF m 61 #[.val (.int ((p0.toUInt32 >>> ((8 : Int32) &&& 31).toUInt32).toInt32)), .val (.int (23 : Int32))] [])) t
            refine XS.iloadN X0.here hx rfl (hb hby d6_61) rfl ?_
            show Steps p.tables e below (s₁.setTop (mkF m 62 #[.val (.int ((p0.toUInt32 >>> ((8 : Int32) &&& 31).toUInt32).toInt32)), .val (.int (23 : Int32))] [(.int ((p0.toUInt32 >>> ((8 : Int32) &&& 31).toUInt32).toInt32))])) t
            refine XS.iconst X0.here hx rfl (hb hby d6_62) ?_
            exact kt
          by_cases hc63 : ((p0.toUInt32 >>> ((8 : Int32) &&& 31).toUInt32).toInt32) < (4 : Int32)
          · refine OGo.step (F' := s₁.setTop (mkF m 73 #[.val (.int ((p0.toUInt32 >>> ((8 : Int32) &&& 31).toUInt32).toInt32)), .val (.int (23 : Int32))] [])) (fun t kt => ?_) ?_
            · show Steps p.tables e below (s₁.setTop (mkF m 63 #[.val (.int ((p0.toUInt32 >>> ((8 : Int32) &&& 31).toUInt32).toInt32)), .val (.int (23 : Int32))] [(.int (4 : Int32)), (.int ((p0.toUInt32 >>> ((8 : Int32) &&& 31).toUInt32).toInt32))])) t
              refine XS.icmpYes X0.here hx rfl (pc0 := 63) (pc' := 73) rfl (hb hby d6_63) rfl (tlt hc63).1 (by decide) (by decide) ?_
              exact kt
            refine OGo.step (F' := s₁.setTop (mkF m 78 #[.val (.int ((p0.toUInt32 >>> ((8 : Int32) &&& 31).toUInt32).toInt32)), .val (.int (23 : Int32))] [(.int ((23 : Int32) - ((((p0.toUInt32 >>> ((8 : Int32) &&& 31).toUInt32).toInt32).toUInt32 >>> ((1 : Int32) &&& 31).toUInt32).toInt32)))])) (fun t kt => ?_) ?_
            · show Steps p.tables e below (s₁.setTop (mkF m 73 #[.val (.int ((p0.toUInt32 >>> ((8 : Int32) &&& 31).toUInt32).toInt32)), .val (.int (23 : Int32))] [])) t
              refine XS.iloadN X0.here hx rfl (hb hby d6_73) rfl ?_
              show Steps p.tables e below (s₁.setTop (mkF m 74 #[.val (.int ((p0.toUInt32 >>> ((8 : Int32) &&& 31).toUInt32).toInt32)), .val (.int (23 : Int32))] [(.int (23 : Int32))])) t
              refine XS.iloadN X0.here hx rfl (hb hby d6_74) rfl ?_
              show Steps p.tables e below (s₁.setTop (mkF m 75 #[.val (.int ((p0.toUInt32 >>> ((8 : Int32) &&& 31).toUInt32).toInt32)), .val (.int (23 : Int32))] [(.int ((p0.toUInt32 >>> ((8 : Int32) &&& 31).toUInt32).toInt32)), (.int (23 : Int32))])) t
              refine XS.iconst X0.here hx rfl (hb hby d6_75) ?_
              show Steps p.tables e below (s₁.setTop (mkF m 76 #[.val (.int ((p0.toUInt32 >>> ((8 : Int32) &&& 31).toUInt32).toInt32)), .val (.int (23 : Int32))] [(.int (1 : Int32)), (.int ((p0.toUInt32 >>> ((8 : Int32) &&& 31).toUInt32).toInt32)), (.int (23 : Int32))])) t
              refine XS.iushr X0.here hx rfl (hb hby d6_76) rfl ?_
              show Steps p.tables e below (s₁.setTop (mkF m 77 #[.val (.int ((p0.toUInt32 >>> ((8 : Int32) &&& 31).toUInt32).toInt32)), .val (.int (23 : Int32))] [(.int ((((p0.toUInt32 >>> ((8 : Int32) &&& 31).toUInt32).toInt32).toUInt32 >>> ((1 : Int32) &&& 31).toUInt32).toInt32)), (.int (23 : Int32))])) t
              refine XS.isub X0.here hx rfl (hb hby d6_77) rfl ?_
              exact kt
            refine OGo.retI X0 hx hlk hret (hb hby d6_78) ?_ (by decide) (by decide)
            exact ⟨(by rw [f6, if_pos hc1, if_pos hc22, if_neg hc37, if_pos hc51, if_pos hc63]), N0, e0⟩
          · refine OGo.step (F' := s₁.setTop (mkF m 66 #[.val (.int ((p0.toUInt32 >>> ((8 : Int32) &&& 31).toUInt32).toInt32)), .val (.int (23 : Int32))] [])) (fun t kt => ?_) ?_
            · show Steps p.tables e below (s₁.setTop (mkF m 63 #[.val (.int ((p0.toUInt32 >>> ((8 : Int32) &&& 31).toUInt32).toInt32)), .val (.int (23 : Int32))] [(.int (4 : Int32)), (.int ((p0.toUInt32 >>> ((8 : Int32) &&& 31).toUInt32).toInt32))])) t
              refine XS.icmpNo X0.here hx rfl (hb hby d6_63) rfl (flt hc63).1 ?_
              exact kt
            refine OGo.step (F' := s₁.setTop (mkF m 78 #[.val (.int ((((p0.toUInt32 >>> ((8 : Int32) &&& 31).toUInt32).toInt32).toUInt32 >>> ((2 : Int32) &&& 31).toUInt32).toInt32)), .val (.int (21 : Int32))] [(.int ((21 : Int32) - ((((((p0.toUInt32 >>> ((8 : Int32) &&& 31).toUInt32).toInt32).toUInt32 >>> ((2 : Int32) &&& 31).toUInt32).toInt32).toUInt32 >>> ((1 : Int32) &&& 31).toUInt32).toInt32)))])) (fun t kt => ?_) ?_
            · show Steps p.tables e below (s₁.setTop (mkF m 66 #[.val (.int ((p0.toUInt32 >>> ((8 : Int32) &&& 31).toUInt32).toInt32)), .val (.int (23 : Int32))] [])) t
              refine XS.iinc X0.here hx rfl (hb hby d6_66) rfl (l' := #[.val (.int ((p0.toUInt32 >>> ((8 : Int32) &&& 31).toUInt32).toInt32)), .val (.int (21 : Int32))]) rfl ?_
              show Steps p.tables e below (s₁.setTop (mkF m 69 #[.val (.int ((p0.toUInt32 >>> ((8 : Int32) &&& 31).toUInt32).toInt32)), .val (.int (21 : Int32))] [])) t
              refine XS.iloadN X0.here hx rfl (hb hby d6_69) rfl ?_
              show Steps p.tables e below (s₁.setTop (mkF m 70 #[.val (.int ((p0.toUInt32 >>> ((8 : Int32) &&& 31).toUInt32).toInt32)), .val (.int (21 : Int32))] [(.int ((p0.toUInt32 >>> ((8 : Int32) &&& 31).toUInt32).toInt32))])) t
              refine XS.iconst X0.here hx rfl (hb hby d6_70) ?_
              show Steps p.tables e below (s₁.setTop (mkF m 71 #[.val (.int ((p0.toUInt32 >>> ((8 : Int32) &&& 31).toUInt32).toInt32)), .val (.int (21 : Int32))] [(.int (2 : Int32)), (.int ((p0.toUInt32 >>> ((8 : Int32) &&& 31).toUInt32).toInt32))])) t
              refine XS.iushr X0.here hx rfl (hb hby d6_71) rfl ?_
              show Steps p.tables e below (s₁.setTop (mkF m 72 #[.val (.int ((p0.toUInt32 >>> ((8 : Int32) &&& 31).toUInt32).toInt32)), .val (.int (21 : Int32))] [(.int ((((p0.toUInt32 >>> ((8 : Int32) &&& 31).toUInt32).toInt32).toUInt32 >>> ((2 : Int32) &&& 31).toUInt32).toInt32))])) t
              refine XS.istoreN X0.here hx rfl (hb hby d6_72) rfl (l' := #[.val (.int ((((p0.toUInt32 >>> ((8 : Int32) &&& 31).toUInt32).toInt32).toUInt32 >>> ((2 : Int32) &&& 31).toUInt32).toInt32)), .val (.int (21 : Int32))]) rfl ?_
              show Steps p.tables e below (s₁.setTop (mkF m 73 #[.val (.int ((((p0.toUInt32 >>> ((8 : Int32) &&& 31).toUInt32).toInt32).toUInt32 >>> ((2 : Int32) &&& 31).toUInt32).toInt32)), .val (.int (21 : Int32))] [])) t
              refine XS.iloadN X0.here hx rfl (hb hby d6_73) rfl ?_
              show Steps p.tables e below (s₁.setTop (mkF m 74 #[.val (.int ((((p0.toUInt32 >>> ((8 : Int32) &&& 31).toUInt32).toInt32).toUInt32 >>> ((2 : Int32) &&& 31).toUInt32).toInt32)), .val (.int (21 : Int32))] [(.int (21 : Int32))])) t
              refine XS.iloadN X0.here hx rfl (hb hby d6_74) rfl ?_
              show Steps p.tables e below (s₁.setTop (mkF m 75 #[.val (.int ((((p0.toUInt32 >>> ((8 : Int32) &&& 31).toUInt32).toInt32).toUInt32 >>> ((2 : Int32) &&& 31).toUInt32).toInt32)), .val (.int (21 : Int32))] [(.int ((((p0.toUInt32 >>> ((8 : Int32) &&& 31).toUInt32).toInt32).toUInt32 >>> ((2 : Int32) &&& 31).toUInt32).toInt32)), (.int (21 : Int32))])) t
              refine XS.iconst X0.here hx rfl (hb hby d6_75) ?_
              show Steps p.tables e below (s₁.setTop (mkF m 76 #[.val (.int ((((p0.toUInt32 >>> ((8 : Int32) &&& 31).toUInt32).toInt32).toUInt32 >>> ((2 : Int32) &&& 31).toUInt32).toInt32)), .val (.int (21 : Int32))] [(.int (1 : Int32)), (.int ((((p0.toUInt32 >>> ((8 : Int32) &&& 31).toUInt32).toInt32).toUInt32 >>> ((2 : Int32) &&& 31).toUInt32).toInt32)), (.int (21 : Int32))])) t
              refine XS.iushr X0.here hx rfl (hb hby d6_76) rfl ?_
              show Steps p.tables e below (s₁.setTop (mkF m 77 #[.val (.int ((((p0.toUInt32 >>> ((8 : Int32) &&& 31).toUInt32).toInt32).toUInt32 >>> ((2 : Int32) &&& 31).toUInt32).toInt32)), .val (.int (21 : Int32))] [(.int ((((((p0.toUInt32 >>> ((8 : Int32) &&& 31).toUInt32).toInt32).toUInt32 >>> ((2 : Int32) &&& 31).toUInt32).toInt32).toUInt32 >>> ((1 : Int32) &&& 31).toUInt32).toInt32)), (.int (21 : Int32))])) t
              refine XS.isub X0.here hx rfl (hb hby d6_77) rfl ?_
              exact kt
            refine OGo.retI X0 hx hlk hret (hb hby d6_78) ?_ (by decide) (by decide)
            exact ⟨(by rw [f6, if_pos hc1, if_pos hc22, if_neg hc37, if_pos hc51, if_neg hc63]), N0, e0⟩
        · refine OGo.step (F' := s₁.setTop (mkF m 54 #[.val (.int ((p0.toUInt32 >>> ((8 : Int32) &&& 31).toUInt32).toInt32)), .val (.int (23 : Int32))] [])) (fun t kt => ?_) ?_
          · show Steps p.tables e below (s₁.setTop (mkF m 51 #[.val (.int ((p0.toUInt32 >>> ((8 : Int32) &&& 31).toUInt32).toInt32)), .val (.int (23 : Int32))] [(.int (16 : Int32)), (.int ((p0.toUInt32 >>> ((8 : Int32) &&& 31).toUInt32).toInt32))])) t
            refine XS.icmpNo X0.here hx rfl (hb hby d6_51) rfl (flt hc51).1 ?_
            exact kt
          refine OGo.step (F' := s₁.setTop (mkF m 63 #[.val (.int ((((p0.toUInt32 >>> ((8 : Int32) &&& 31).toUInt32).toInt32).toUInt32 >>> ((4 : Int32) &&& 31).toUInt32).toInt32)), .val (.int (19 : Int32))] [(.int (4 : Int32)), (.int ((((p0.toUInt32 >>> ((8 : Int32) &&& 31).toUInt32).toInt32).toUInt32 >>> ((4 : Int32) &&& 31).toUInt32).toInt32))])) (fun t kt => ?_) ?_
          · show Steps p.tables e below (s₁.setTop (mkF m 54 #[.val (.int ((p0.toUInt32 >>> ((8 : Int32) &&& 31).toUInt32).toInt32)), .val (.int (23 : Int32))] [])) t
            refine XS.iinc X0.here hx rfl (hb hby d6_54) rfl (l' := #[.val (.int ((p0.toUInt32 >>> ((8 : Int32) &&& 31).toUInt32).toInt32)), .val (.int (19 : Int32))]) rfl ?_
            show Steps p.tables e below (s₁.setTop (mkF m 57 #[.val (.int ((p0.toUInt32 >>> ((8 : Int32) &&& 31).toUInt32).toInt32)), .val (.int (19 : Int32))] [])) t
            refine XS.iloadN X0.here hx rfl (hb hby d6_57) rfl ?_
            show Steps p.tables e below (s₁.setTop (mkF m 58 #[.val (.int ((p0.toUInt32 >>> ((8 : Int32) &&& 31).toUInt32).toInt32)), .val (.int (19 : Int32))] [(.int ((p0.toUInt32 >>> ((8 : Int32) &&& 31).toUInt32).toInt32))])) t
            refine XS.iconst X0.here hx rfl (hb hby d6_58) ?_
            show Steps p.tables e below (s₁.setTop (mkF m 59 #[.val (.int ((p0.toUInt32 >>> ((8 : Int32) &&& 31).toUInt32).toInt32)), .val (.int (19 : Int32))] [(.int (4 : Int32)), (.int ((p0.toUInt32 >>> ((8 : Int32) &&& 31).toUInt32).toInt32))])) t
            refine XS.iushr X0.here hx rfl (hb hby d6_59) rfl ?_
            show Steps p.tables e below (s₁.setTop (mkF m 60 #[.val (.int ((p0.toUInt32 >>> ((8 : Int32) &&& 31).toUInt32).toInt32)), .val (.int (19 : Int32))] [(.int ((((p0.toUInt32 >>> ((8 : Int32) &&& 31).toUInt32).toInt32).toUInt32 >>> ((4 : Int32) &&& 31).toUInt32).toInt32))])) t
            refine XS.istoreN X0.here hx rfl (hb hby d6_60) rfl (l' := #[.val (.int ((((p0.toUInt32 >>> ((8 : Int32) &&& 31).toUInt32).toInt32).toUInt32 >>> ((4 : Int32) &&& 31).toUInt32).toInt32)), .val (.int (19 : Int32))]) rfl ?_
            show Steps p.tables e below (s₁.setTop (mkF m 61 #[.val (.int ((((p0.toUInt32 >>> ((8 : Int32) &&& 31).toUInt32).toInt32).toUInt32 >>> ((4 : Int32) &&& 31).toUInt32).toInt32)), .val (.int (19 : Int32))] [])) t
            refine XS.iloadN X0.here hx rfl (hb hby d6_61) rfl ?_
            show Steps p.tables e below (s₁.setTop (mkF m 62 #[.val (.int ((((p0.toUInt32 >>> ((8 : Int32) &&& 31).toUInt32).toInt32).toUInt32 >>> ((4 : Int32) &&& 31).toUInt32).toInt32)), .val (.int (19 : Int32))] [(.int ((((p0.toUInt32 >>> ((8 : Int32) &&& 31).toUInt32).toInt32).toUInt32 >>> ((4 : Int32) &&& 31).toUInt32).toInt32))])) t
            refine XS.iconst X0.here hx rfl (hb hby d6_62) ?_
            exact kt
          by_cases hc63 : ((((p0.toUInt32 >>> ((8 : Int32) &&& 31).toUInt32).toInt32).toUInt32 >>> ((4 : Int32) &&& 31).toUInt32).toInt32) < (4 : Int32)
          · refine OGo.step (F' := s₁.setTop (mkF m 73 #[.val (.int ((((p0.toUInt32 >>> ((8 : Int32) &&& 31).toUInt32).toInt32).toUInt32 >>> ((4 : Int32) &&& 31).toUInt32).toInt32)), .val (.int (19 : Int32))] [])) (fun t kt => ?_) ?_
            · show Steps p.tables e below (s₁.setTop (mkF m 63 #[.val (.int ((((p0.toUInt32 >>> ((8 : Int32) &&& 31).toUInt32).toInt32).toUInt32 >>> ((4 : Int32) &&& 31).toUInt32).toInt32)), .val (.int (19 : Int32))] [(.int (4 : Int32)), (.int ((((p0.toUInt32 >>> ((8 : Int32) &&& 31).toUInt32).toInt32).toUInt32 >>> ((4 : Int32) &&& 31).toUInt32).toInt32))])) t
              refine XS.icmpYes X0.here hx rfl (pc0 := 63) (pc' := 73) rfl (hb hby d6_63) rfl (tlt hc63).1 (by decide) (by decide) ?_
              exact kt
            refine OGo.step (F' := s₁.setTop (mkF m 78 #[.val (.int ((((p0.toUInt32 >>> ((8 : Int32) &&& 31).toUInt32).toInt32).toUInt32 >>> ((4 : Int32) &&& 31).toUInt32).toInt32)), .val (.int (19 : Int32))] [(.int ((19 : Int32) - ((((((p0.toUInt32 >>> ((8 : Int32) &&& 31).toUInt32).toInt32).toUInt32 >>> ((4 : Int32) &&& 31).toUInt32).toInt32).toUInt32 >>> ((1 : Int32) &&& 31).toUInt32).toInt32)))])) (fun t kt => ?_) ?_
            · show Steps p.tables e below (s₁.setTop (mkF m 73 #[.val (.int ((((p0.toUInt32 >>> ((8 : Int32) &&& 31).toUInt32).toInt32).toUInt32 >>> ((4 : Int32) &&& 31).toUInt32).toInt32)), .val (.int (19 : Int32))] [])) t
              refine XS.iloadN X0.here hx rfl (hb hby d6_73) rfl ?_
              show Steps p.tables e below (s₁.setTop (mkF m 74 #[.val (.int ((((p0.toUInt32 >>> ((8 : Int32) &&& 31).toUInt32).toInt32).toUInt32 >>> ((4 : Int32) &&& 31).toUInt32).toInt32)), .val (.int (19 : Int32))] [(.int (19 : Int32))])) t
              refine XS.iloadN X0.here hx rfl (hb hby d6_74) rfl ?_
              show Steps p.tables e below (s₁.setTop (mkF m 75 #[.val (.int ((((p0.toUInt32 >>> ((8 : Int32) &&& 31).toUInt32).toInt32).toUInt32 >>> ((4 : Int32) &&& 31).toUInt32).toInt32)), .val (.int (19 : Int32))] [(.int ((((p0.toUInt32 >>> ((8 : Int32) &&& 31).toUInt32).toInt32).toUInt32 >>> ((4 : Int32) &&& 31).toUInt32).toInt32)), (.int (19 : Int32))])) t
              refine XS.iconst X0.here hx rfl (hb hby d6_75) ?_
              show Steps p.tables e below (s₁.setTop (mkF m 76 #[.val (.int ((((p0.toUInt32 >>> ((8 : Int32) &&& 31).toUInt32).toInt32).toUInt32 >>> ((4 : Int32) &&& 31).toUInt32).toInt32)), .val (.int (19 : Int32))] [(.int (1 : Int32)), (.int ((((p0.toUInt32 >>> ((8 : Int32) &&& 31).toUInt32).toInt32).toUInt32 >>> ((4 : Int32) &&& 31).toUInt32).toInt32)), (.int (19 : Int32))])) t
              refine XS.iushr X0.here hx rfl (hb hby d6_76) rfl ?_
              show Steps p.tables e below (s₁.setTop (mkF m 77 #[.val (.int ((((p0.toUInt32 >>> ((8 : Int32) &&& 31).toUInt32).toInt32).toUInt32 >>> ((4 : Int32) &&& 31).toUInt32).toInt32)), .val (.int (19 : Int32))] [(.int ((((((p0.toUInt32 >>> ((8 : Int32) &&& 31).toUInt32).toInt32).toUInt32 >>> ((4 : Int32) &&& 31).toUInt32).toInt32).toUInt32 >>> ((1 : Int32) &&& 31).toUInt32).toInt32)), (.int (19 : Int32))])) t
              refine XS.isub X0.here hx rfl (hb hby d6_77) rfl ?_
              exact kt
            refine OGo.retI X0 hx hlk hret (hb hby d6_78) ?_ (by decide) (by decide)
            exact ⟨(by rw [f6, if_pos hc1, if_pos hc22, if_neg hc37, if_neg hc51, if_pos hc63]), N0, e0⟩
          · refine OGo.step (F' := s₁.setTop (mkF m 66 #[.val (.int ((((p0.toUInt32 >>> ((8 : Int32) &&& 31).toUInt32).toInt32).toUInt32 >>> ((4 : Int32) &&& 31).toUInt32).toInt32)), .val (.int (19 : Int32))] [])) (fun t kt => ?_) ?_
            · show Steps p.tables e below (s₁.setTop (mkF m 63 #[.val (.int ((((p0.toUInt32 >>> ((8 : Int32) &&& 31).toUInt32).toInt32).toUInt32 >>> ((4 : Int32) &&& 31).toUInt32).toInt32)), .val (.int (19 : Int32))] [(.int (4 : Int32)), (.int ((((p0.toUInt32 >>> ((8 : Int32) &&& 31).toUInt32).toInt32).toUInt32 >>> ((4 : Int32) &&& 31).toUInt32).toInt32))])) t
              refine XS.icmpNo X0.here hx rfl (hb hby d6_63) rfl (flt hc63).1 ?_
              exact kt
            refine OGo.step (F' := s₁.setTop (mkF m 78 #[.val (.int ((((((p0.toUInt32 >>> ((8 : Int32) &&& 31).toUInt32).toInt32).toUInt32 >>> ((4 : Int32) &&& 31).toUInt32).toInt32).toUInt32 >>> ((2 : Int32) &&& 31).toUInt32).toInt32)), .val (.int (17 : Int32))] [(.int ((17 : Int32) - ((((((((p0.toUInt32 >>> ((8 : Int32) &&& 31).toUInt32).toInt32).toUInt32 >>> ((4 : Int32) &&& 31).toUInt32).toInt32).toUInt32 >>> ((2 : Int32) &&& 31).toUInt32).toInt32).toUInt32 >>> ((1 : Int32) &&& 31).toUInt32).toInt32)))])) (fun t kt => ?_) ?_
            · show Steps p.tables e below (s₁.setTop (mkF m 66 #[.val (.int ((((p0.toUInt32 >>> ((8 : Int32) &&& 31).toUInt32).toInt32).toUInt32 >>> ((4 : Int32) &&& 31).toUInt32).toInt32)), .val (.int (19 : Int32))] [])) t
              refine XS.iinc X0.here hx rfl (hb hby d6_66) rfl (l' := #[.val (.int ((((p0.toUInt32 >>> ((8 : Int32) &&& 31).toUInt32).toInt32).toUInt32 >>> ((4 : Int32) &&& 31).toUInt32).toInt32)), .val (.int (17 : Int32))]) rfl ?_
              show Steps p.tables e below (s₁.setTop (mkF m 69 #[.val (.int ((((p0.toUInt32 >>> ((8 : Int32) &&& 31).toUInt32).toInt32).toUInt32 >>> ((4 : Int32) &&& 31).toUInt32).toInt32)), .val (.int (17 : Int32))] [])) t
              refine XS.iloadN X0.here hx rfl (hb hby d6_69) rfl ?_
              show Steps p.tables e below (s₁.setTop (mkF m 70 #[.val (.int ((((p0.toUInt32 >>> ((8 : Int32) &&& 31).toUInt32).toInt32).toUInt32 >>> ((4 : Int32) &&& 31).toUInt32).toInt32)), .val (.int (17 : Int32))] [(.int ((((p0.toUInt32 >>> ((8 : Int32) &&& 31).toUInt32).toInt32).toUInt32 >>> ((4 : Int32) &&& 31).toUInt32).toInt32))])) t
              refine XS.iconst X0.here hx rfl (hb hby d6_70) ?_
              show Steps p.tables e below (s₁.setTop (mkF m 71 #[.val (.int ((((p0.toUInt32 >>> ((8 : Int32) &&& 31).toUInt32).toInt32).toUInt32 >>> ((4 : Int32) &&& 31).toUInt32).toInt32)), .val (.int (17 : Int32))] [(.int (2 : Int32)), (.int ((((p0.toUInt32 >>> ((8 : Int32) &&& 31).toUInt32).toInt32).toUInt32 >>> ((4 : Int32) &&& 31).toUInt32).toInt32))])) t
              refine XS.iushr X0.here hx rfl (hb hby d6_71) rfl ?_
              show Steps p.tables e below (s₁.setTop (mkF m 72 #[.val (.int ((((p0.toUInt32 >>> ((8 : Int32) &&& 31).toUInt32).toInt32).toUInt32 >>> ((4 : Int32) &&& 31).toUInt32).toInt32)), .val (.int (17 : Int32))] [(.int ((((((p0.toUInt32 >>> ((8 : Int32) &&& 31).toUInt32).toInt32).toUInt32 >>> ((4 : Int32) &&& 31).toUInt32).toInt32).toUInt32 >>> ((2 : Int32) &&& 31).toUInt32).toInt32))])) t
              refine XS.istoreN X0.here hx rfl (hb hby d6_72) rfl (l' := #[.val (.int ((((((p0.toUInt32 >>> ((8 : Int32) &&& 31).toUInt32).toInt32).toUInt32 >>> ((4 : Int32) &&& 31).toUInt32).toInt32).toUInt32 >>> ((2 : Int32) &&& 31).toUInt32).toInt32)), .val (.int (17 : Int32))]) rfl ?_
              show Steps p.tables e below (s₁.setTop (mkF m 73 #[.val (.int ((((((p0.toUInt32 >>> ((8 : Int32) &&& 31).toUInt32).toInt32).toUInt32 >>> ((4 : Int32) &&& 31).toUInt32).toInt32).toUInt32 >>> ((2 : Int32) &&& 31).toUInt32).toInt32)), .val (.int (17 : Int32))] [])) t
              refine XS.iloadN X0.here hx rfl (hb hby d6_73) rfl ?_
              show Steps p.tables e below (s₁.setTop (mkF m 74 #[.val (.int ((((((p0.toUInt32 >>> ((8 : Int32) &&& 31).toUInt32).toInt32).toUInt32 >>> ((4 : Int32) &&& 31).toUInt32).toInt32).toUInt32 >>> ((2 : Int32) &&& 31).toUInt32).toInt32)), .val (.int (17 : Int32))] [(.int (17 : Int32))])) t
              refine XS.iloadN X0.here hx rfl (hb hby d6_74) rfl ?_
              show Steps p.tables e below (s₁.setTop (mkF m 75 #[.val (.int ((((((p0.toUInt32 >>> ((8 : Int32) &&& 31).toUInt32).toInt32).toUInt32 >>> ((4 : Int32) &&& 31).toUInt32).toInt32).toUInt32 >>> ((2 : Int32) &&& 31).toUInt32).toInt32)), .val (.int (17 : Int32))] [(.int ((((((p0.toUInt32 >>> ((8 : Int32) &&& 31).toUInt32).toInt32).toUInt32 >>> ((4 : Int32) &&& 31).toUInt32).toInt32).toUInt32 >>> ((2 : Int32) &&& 31).toUInt32).toInt32)), (.int (17 : Int32))])) t
              refine XS.iconst X0.here hx rfl (hb hby d6_75) ?_
              show Steps p.tables e below (s₁.setTop (mkF m 76 #[.val (.int ((((((p0.toUInt32 >>> ((8 : Int32) &&& 31).toUInt32).toInt32).toUInt32 >>> ((4 : Int32) &&& 31).toUInt32).toInt32).toUInt32 >>> ((2 : Int32) &&& 31).toUInt32).toInt32)), .val (.int (17 : Int32))] [(.int (1 : Int32)), (.int ((((((p0.toUInt32 >>> ((8 : Int32) &&& 31).toUInt32).toInt32).toUInt32 >>> ((4 : Int32) &&& 31).toUInt32).toInt32).toUInt32 >>> ((2 : Int32) &&& 31).toUInt32).toInt32)), (.int (17 : Int32))])) t
              refine XS.iushr X0.here hx rfl (hb hby d6_76) rfl ?_
              show Steps p.tables e below (s₁.setTop (mkF m 77 #[.val (.int ((((((p0.toUInt32 >>> ((8 : Int32) &&& 31).toUInt32).toInt32).toUInt32 >>> ((4 : Int32) &&& 31).toUInt32).toInt32).toUInt32 >>> ((2 : Int32) &&& 31).toUInt32).toInt32)), .val (.int (17 : Int32))] [(.int ((((((((p0.toUInt32 >>> ((8 : Int32) &&& 31).toUInt32).toInt32).toUInt32 >>> ((4 : Int32) &&& 31).toUInt32).toInt32).toUInt32 >>> ((2 : Int32) &&& 31).toUInt32).toInt32).toUInt32 >>> ((1 : Int32) &&& 31).toUInt32).toInt32)), (.int (17 : Int32))])) t
              refine XS.isub X0.here hx rfl (hb hby d6_77) rfl ?_
              exact kt
            refine OGo.retI X0 hx hlk hret (hb hby d6_78) ?_ (by decide) (by decide)
            exact ⟨(by rw [f6, if_pos hc1, if_pos hc22, if_neg hc37, if_neg hc51, if_neg hc63]), N0, e0⟩
    · refine OGo.step (F' := s₁.setTop (mkF m 25 #[.val (.int p0), .val (.int (31 : Int32))] [])) (fun t kt => ?_) ?_
      · show Steps p.tables e below (s₁.setTop (mkF m 22 #[.val (.int p0), .val (.int (31 : Int32))] [(.int (65536 : Int32)), (.int p0)])) t
        refine XS.icmpNo X0.here hx rfl (hb hby d6_22) rfl (flt hc22).1 ?_
        exact kt
      refine OGo.step (F' := s₁.setTop (mkF m 37 #[.val (.int ((p0.toUInt32 >>> ((16 : Int32) &&& 31).toUInt32).toInt32)), .val (.int (15 : Int32))] [(.int (256 : Int32)), (.int ((p0.toUInt32 >>> ((16 : Int32) &&& 31).toUInt32).toInt32))])) (fun t kt => ?_) ?_
      · show Steps p.tables e below (s₁.setTop (mkF m 25 #[.val (.int p0), .val (.int (31 : Int32))] [])) t
        refine XS.iinc X0.here hx rfl (hb hby d6_25) rfl (l' := #[.val (.int p0), .val (.int (15 : Int32))]) rfl ?_
        show Steps p.tables e below (s₁.setTop (mkF m 28 #[.val (.int p0), .val (.int (15 : Int32))] [])) t
        refine XS.iloadN X0.here hx rfl (hb hby d6_28) rfl ?_
        show Steps p.tables e below (s₁.setTop (mkF m 29 #[.val (.int p0), .val (.int (15 : Int32))] [(.int p0)])) t
        refine XS.bipush X0.here hx rfl (hb hby d6_29) ?_
        show Steps p.tables e below (s₁.setTop (mkF m 31 #[.val (.int p0), .val (.int (15 : Int32))] [(.int (16 : Int32)), (.int p0)])) t
        refine XS.iushr X0.here hx rfl (hb hby d6_31) rfl ?_
        show Steps p.tables e below (s₁.setTop (mkF m 32 #[.val (.int p0), .val (.int (15 : Int32))] [(.int ((p0.toUInt32 >>> ((16 : Int32) &&& 31).toUInt32).toInt32))])) t
        refine XS.istoreN X0.here hx rfl (hb hby d6_32) rfl (l' := #[.val (.int ((p0.toUInt32 >>> ((16 : Int32) &&& 31).toUInt32).toInt32)), .val (.int (15 : Int32))]) rfl ?_
        show Steps p.tables e below (s₁.setTop (mkF m 33 #[.val (.int ((p0.toUInt32 >>> ((16 : Int32) &&& 31).toUInt32).toInt32)), .val (.int (15 : Int32))] [])) t
        refine XS.iloadN X0.here hx rfl (hb hby d6_33) rfl ?_
        show Steps p.tables e below (s₁.setTop (mkF m 34 #[.val (.int ((p0.toUInt32 >>> ((16 : Int32) &&& 31).toUInt32).toInt32)), .val (.int (15 : Int32))] [(.int ((p0.toUInt32 >>> ((16 : Int32) &&& 31).toUInt32).toInt32))])) t
        refine XS.sipush X0.here hx rfl (hb hby d6_34) ?_
        exact kt
      by_cases hc37 : ((p0.toUInt32 >>> ((16 : Int32) &&& 31).toUInt32).toInt32) < (256 : Int32)
      · refine OGo.step (F' := s₁.setTop (mkF m 48 #[.val (.int ((p0.toUInt32 >>> ((16 : Int32) &&& 31).toUInt32).toInt32)), .val (.int (15 : Int32))] [])) (fun t kt => ?_) ?_
        · show Steps p.tables e below (s₁.setTop (mkF m 37 #[.val (.int ((p0.toUInt32 >>> ((16 : Int32) &&& 31).toUInt32).toInt32)), .val (.int (15 : Int32))] [(.int (256 : Int32)), (.int ((p0.toUInt32 >>> ((16 : Int32) &&& 31).toUInt32).toInt32))])) t
          refine XS.icmpYes X0.here hx rfl (pc0 := 37) (pc' := 48) rfl (hb hby d6_37) rfl (tlt hc37).1 (by decide) (by decide) ?_
          exact kt
        refine OGo.step (F' := s₁.setTop (mkF m 51 #[.val (.int ((p0.toUInt32 >>> ((16 : Int32) &&& 31).toUInt32).toInt32)), .val (.int (15 : Int32))] [(.int (16 : Int32)), (.int ((p0.toUInt32 >>> ((16 : Int32) &&& 31).toUInt32).toInt32))])) (fun t kt => ?_) ?_
        · show Steps p.tables e below (s₁.setTop (mkF m 48 #[.val (.int ((p0.toUInt32 >>> ((16 : Int32) &&& 31).toUInt32).toInt32)), .val (.int (15 : Int32))] [])) t
          refine XS.iloadN X0.here hx rfl (hb hby d6_48) rfl ?_
          show Steps p.tables e below (s₁.setTop (mkF m 49 #[.val (.int ((p0.toUInt32 >>> ((16 : Int32) &&& 31).toUInt32).toInt32)), .val (.int (15 : Int32))] [(.int ((p0.toUInt32 >>> ((16 : Int32) &&& 31).toUInt32).toInt32))])) t
          refine XS.bipush X0.here hx rfl (hb hby d6_49) ?_
          exact kt
        by_cases hc51 : ((p0.toUInt32 >>> ((16 : Int32) &&& 31).toUInt32).toInt32) < (16 : Int32)
        · refine OGo.step (F' := s₁.setTop (mkF m 61 #[.val (.int ((p0.toUInt32 >>> ((16 : Int32) &&& 31).toUInt32).toInt32)), .val (.int (15 : Int32))] [])) (fun t kt => ?_) ?_
          · show Steps p.tables e below (s₁.setTop (mkF m 51 #[.val (.int ((p0.toUInt32 >>> ((16 : Int32) &&& 31).toUInt32).toInt32)), .val (.int (15 : Int32))] [(.int (16 : Int32)), (.int ((p0.toUInt32 >>> ((16 : Int32) &&& 31).toUInt32).toInt32))])) t
            refine XS.icmpYes X0.here hx rfl (pc0 := 51) (pc' := 61) rfl (hb hby d6_51) rfl (tlt hc51).1 (by decide) (by decide) ?_
            exact kt
          refine OGo.step (F' := s₁.setTop (mkF m 63 #[.val (.int ((p0.toUInt32 >>> ((16 : Int32) &&& 31).toUInt32).toInt32)), .val (.int (15 : Int32))] [(.int (4 : Int32)), (.int ((p0.toUInt32 >>> ((16 : Int32) &&& 31).toUInt32).toInt32))])) (fun t kt => ?_) ?_
          · show Steps p.tables e below (s₁.setTop (mkF m 61 #[.val (.int ((p0.toUInt32 >>> ((16 : Int32) &&& 31).toUInt32).toInt32)), .val (.int (15 : Int32))] [])) t
            refine XS.iloadN X0.here hx rfl (hb hby d6_61) rfl ?_
            show Steps p.tables e below (s₁.setTop (mkF m 62 #[.val (.int ((p0.toUInt32 >>> ((16 : Int32) &&& 31).toUInt32).toInt32)), .val (.int (15 : Int32))] [(.int ((p0.toUInt32 >>> ((16 : Int32) &&& 31).toUInt32).toInt32))])) t
            refine XS.iconst X0.here hx rfl (hb hby d6_62) ?_
            exact kt
          by_cases hc63 : ((p0.toUInt32 >>> ((16 : Int32) &&& 31).toUInt32).toInt32) < (4 : Int32)
          · refine OGo.step (F' := s₁.setTop (mkF m 73 #[.val (.int ((p0.toUInt32 >>> ((16 : Int32) &&& 31).toUInt32).toInt32)), .val (.int (15 : Int32))] [])) (fun t kt => ?_) ?_
            · show Steps p.tables e below (s₁.setTop (mkF m 63 #[.val (.int ((p0.toUInt32 >>> ((16 : Int32) &&& 31).toUInt32).toInt32)), .val (.int (15 : Int32))] [(.int (4 : Int32)), (.int ((p0.toUInt32 >>> ((16 : Int32) &&& 31).toUInt32).toInt32))])) t
              refine XS.icmpYes X0.here hx rfl (pc0 := 63) (pc' := 73) rfl (hb hby d6_63) rfl (tlt hc63).1 (by decide) (by decide) ?_
              exact kt
            refine OGo.step (F' := s₁.setTop (mkF m 78 #[.val (.int ((p0.toUInt32 >>> ((16 : Int32) &&& 31).toUInt32).toInt32)), .val (.int (15 : Int32))] [(.int ((15 : Int32) - ((((p0.toUInt32 >>> ((16 : Int32) &&& 31).toUInt32).toInt32).toUInt32 >>> ((1 : Int32) &&& 31).toUInt32).toInt32)))])) (fun t kt => ?_) ?_
            · show Steps p.tables e below (s₁.setTop (mkF m 73 #[.val (.int ((p0.toUInt32 >>> ((16 : Int32) &&& 31).toUInt32).toInt32)), .val (.int (15 : Int32))] [])) t
              refine XS.iloadN X0.here hx rfl (hb hby d6_73) rfl ?_
              show Steps p.tables e below (s₁.setTop (mkF m 74 #[.val (.int ((p0.toUInt32 >>> ((16 : Int32) &&& 31).toUInt32).toInt32)), .val (.int (15 : Int32))] [(.int (15 : Int32))])) t
              refine XS.iloadN X0.here hx rfl (hb hby d6_74) rfl ?_
              show Steps p.tables e below (s₁.setTop (mkF m 75 #[.val (.int ((p0.toUInt32 >>> ((16 : Int32) &&& 31).toUInt32).toInt32)), .val (.int (15 : Int32))] [(.int ((p0.toUInt32 >>> ((16 : Int32) &&& 31).toUInt32).toInt32)), (.int (15 : Int32))])) t
              refine XS.iconst X0.here hx rfl (hb hby d6_75) ?_
              show Steps p.tables e below (s₁.setTop (mkF m 76 #[.val (.int ((p0.toUInt32 >>> ((16 : Int32) &&& 31).toUInt32).toInt32)), .val (.int (15 : Int32))] [(.int (1 : Int32)), (.int ((p0.toUInt32 >>> ((16 : Int32) &&& 31).toUInt32).toInt32)), (.int (15 : Int32))])) t
              refine XS.iushr X0.here hx rfl (hb hby d6_76) rfl ?_
              show Steps p.tables e below (s₁.setTop (mkF m 77 #[.val (.int ((p0.toUInt32 >>> ((16 : Int32) &&& 31).toUInt32).toInt32)), .val (.int (15 : Int32))] [(.int ((((p0.toUInt32 >>> ((16 : Int32) &&& 31).toUInt32).toInt32).toUInt32 >>> ((1 : Int32) &&& 31).toUInt32).toInt32)), (.int (15 : Int32))])) t
              refine XS.isub X0.here hx rfl (hb hby d6_77) rfl ?_
              exact kt
            refine OGo.retI X0 hx hlk hret (hb hby d6_78) ?_ (by decide) (by decide)
            exact ⟨(by rw [f6, if_pos hc1, if_neg hc22, if_pos hc37, if_pos hc51, if_pos hc63]), N0, e0⟩
          · refine OGo.step (F' := s₁.setTop (mkF m 66 #[.val (.int ((p0.toUInt32 >>> ((16 : Int32) &&& 31).toUInt32).toInt32)), .val (.int (15 : Int32))] [])) (fun t kt => ?_) ?_
            · show Steps p.tables e below (s₁.setTop (mkF m 63 #[.val (.int ((p0.toUInt32 >>> ((16 : Int32) &&& 31).toUInt32).toInt32)), .val (.int (15 : Int32))] [(.int (4 : Int32)), (.int ((p0.toUInt32 >>> ((16 : Int32) &&& 31).toUInt32).toInt32))])) t
              refine XS.icmpNo X0.here hx rfl (hb hby d6_63) rfl (flt hc63).1 ?_
              exact kt
            refine OGo.step (F' := s₁.setTop (mkF m 78 #[.val (.int ((((p0.toUInt32 >>> ((16 : Int32) &&& 31).toUInt32).toInt32).toUInt32 >>> ((2 : Int32) &&& 31).toUInt32).toInt32)), .val (.int (13 : Int32))] [(.int ((13 : Int32) - ((((((p0.toUInt32 >>> ((16 : Int32) &&& 31).toUInt32).toInt32).toUInt32 >>> ((2 : Int32) &&& 31).toUInt32).toInt32).toUInt32 >>> ((1 : Int32) &&& 31).toUInt32).toInt32)))])) (fun t kt => ?_) ?_
            · show Steps p.tables e below (s₁.setTop (mkF m 66 #[.val (.int ((p0.toUInt32 >>> ((16 : Int32) &&& 31).toUInt32).toInt32)), .val (.int (15 : Int32))] [])) t
              refine XS.iinc X0.here hx rfl (hb hby d6_66) rfl (l' := #[.val (.int ((p0.toUInt32 >>> ((16 : Int32) &&& 31).toUInt32).toInt32)), .val (.int (13 : Int32))]) rfl ?_
              show Steps p.tables e below (s₁.setTop (mkF m 69 #[.val (.int ((p0.toUInt32 >>> ((16 : Int32) &&& 31).toUInt32).toInt32)), .val (.int (13 : Int32))] [])) t
              refine XS.iloadN X0.here hx rfl (hb hby d6_69) rfl ?_
              show Steps p.tables e below (s₁.setTop (mkF m 70 #[.val (.int ((p0.toUInt32 >>> ((16 : Int32) &&& 31).toUInt32).toInt32)), .val (.int (13 : Int32))] [(.int ((p0.toUInt32 >>> ((16 : Int32) &&& 31).toUInt32).toInt32))])) t
              refine XS.iconst X0.here hx rfl (hb hby d6_70) ?_
              show Steps p.tables e below (s₁.setTop (mkF m 71 #[.val (.int ((p0.toUInt32 >>> ((16 : Int32) &&& 31).toUInt32).toInt32)), .val (.int (13 : Int32))] [(.int (2 : Int32)), (.int ((p0.toUInt32 >>> ((16 : Int32) &&& 31).toUInt32).toInt32))])) t
              refine XS.iushr X0.here hx rfl (hb hby d6_71) rfl ?_
              show Steps p.tables e below (s₁.setTop (mkF m 72 #[.val (.int ((p0.toUInt32 >>> ((16 : Int32) &&& 31).toUInt32).toInt32)), .val (.int (13 : Int32))] [(.int ((((p0.toUInt32 >>> ((16 : Int32) &&& 31).toUInt32).toInt32).toUInt32 >>> ((2 : Int32) &&& 31).toUInt32).toInt32))])) t
              refine XS.istoreN X0.here hx rfl (hb hby d6_72) rfl (l' := #[.val (.int ((((p0.toUInt32 >>> ((16 : Int32) &&& 31).toUInt32).toInt32).toUInt32 >>> ((2 : Int32) &&& 31).toUInt32).toInt32)), .val (.int (13 : Int32))]) rfl ?_
              show Steps p.tables e below (s₁.setTop (mkF m 73 #[.val (.int ((((p0.toUInt32 >>> ((16 : Int32) &&& 31).toUInt32).toInt32).toUInt32 >>> ((2 : Int32) &&& 31).toUInt32).toInt32)), .val (.int (13 : Int32))] [])) t
              refine XS.iloadN X0.here hx rfl (hb hby d6_73) rfl ?_
              show Steps p.tables e below (s₁.setTop (mkF m 74 #[.val (.int ((((p0.toUInt32 >>> ((16 : Int32) &&& 31).toUInt32).toInt32).toUInt32 >>> ((2 : Int32) &&& 31).toUInt32).toInt32)), .val (.int (13 : Int32))] [(.int (13 : Int32))])) t
              refine XS.iloadN X0.here hx rfl (hb hby d6_74) rfl ?_
              show Steps p.tables e below (s₁.setTop (mkF m 75 #[.val (.int ((((p0.toUInt32 >>> ((16 : Int32) &&& 31).toUInt32).toInt32).toUInt32 >>> ((2 : Int32) &&& 31).toUInt32).toInt32)), .val (.int (13 : Int32))] [(.int ((((p0.toUInt32 >>> ((16 : Int32) &&& 31).toUInt32).toInt32).toUInt32 >>> ((2 : Int32) &&& 31).toUInt32).toInt32)), (.int (13 : Int32))])) t
              refine XS.iconst X0.here hx rfl (hb hby d6_75) ?_
              show Steps p.tables e below (s₁.setTop (mkF m 76 #[.val (.int ((((p0.toUInt32 >>> ((16 : Int32) &&& 31).toUInt32).toInt32).toUInt32 >>> ((2 : Int32) &&& 31).toUInt32).toInt32)), .val (.int (13 : Int32))] [(.int (1 : Int32)), (.int ((((p0.toUInt32 >>> ((16 : Int32) &&& 31).toUInt32).toInt32).toUInt32 >>> ((2 : Int32) &&& 31).toUInt32).toInt32)), (.int (13 : Int32))])) t
              refine XS.iushr X0.here hx rfl (hb hby d6_76) rfl ?_
              show Steps p.tables e below (s₁.setTop (mkF m 77 #[.val (.int ((((p0.toUInt32 >>> ((16 : Int32) &&& 31).toUInt32).toInt32).toUInt32 >>> ((2 : Int32) &&& 31).toUInt32).toInt32)), .val (.int (13 : Int32))] [(.int ((((((p0.toUInt32 >>> ((16 : Int32) &&& 31).toUInt32).toInt32).toUInt32 >>> ((2 : Int32) &&& 31).toUInt32).toInt32).toUInt32 >>> ((1 : Int32) &&& 31).toUInt32).toInt32)), (.int (13 : Int32))])) t
              refine XS.isub X0.here hx rfl (hb hby d6_77) rfl ?_
              exact kt
            refine OGo.retI X0 hx hlk hret (hb hby d6_78) ?_ (by decide) (by decide)
            exact ⟨(by rw [f6, if_pos hc1, if_neg hc22, if_pos hc37, if_pos hc51, if_neg hc63]), N0, e0⟩
        · refine OGo.step (F' := s₁.setTop (mkF m 54 #[.val (.int ((p0.toUInt32 >>> ((16 : Int32) &&& 31).toUInt32).toInt32)), .val (.int (15 : Int32))] [])) (fun t kt => ?_) ?_
          · show Steps p.tables e below (s₁.setTop (mkF m 51 #[.val (.int ((p0.toUInt32 >>> ((16 : Int32) &&& 31).toUInt32).toInt32)), .val (.int (15 : Int32))] [(.int (16 : Int32)), (.int ((p0.toUInt32 >>> ((16 : Int32) &&& 31).toUInt32).toInt32))])) t
            refine XS.icmpNo X0.here hx rfl (hb hby d6_51) rfl (flt hc51).1 ?_
            exact kt
          refine OGo.step (F' := s₁.setTop (mkF m 63 #[.val (.int ((((p0.toUInt32 >>> ((16 : Int32) &&& 31).toUInt32).toInt32).toUInt32 >>> ((4 : Int32) &&& 31).toUInt32).toInt32)), .val (.int (11 : Int32))] [(.int (4 : Int32)), (.int ((((p0.toUInt32 >>> ((16 : Int32) &&& 31).toUInt32).toInt32).toUInt32 >>> ((4 : Int32) &&& 31).toUInt32).toInt32))])) (fun t kt => ?_) ?_
          · show Steps p.tables e below (s₁.setTop (mkF m 54 #[.val (.int ((p0.toUInt32 >>> ((16 : Int32) &&& 31).toUInt32).toInt32)), .val (.int (15 : Int32))] [])) t
            refine XS.iinc X0.here hx rfl (hb hby d6_54) rfl (l' := #[.val (.int ((p0.toUInt32 >>> ((16 : Int32) &&& 31).toUInt32).toInt32)), .val (.int (11 : Int32))]) rfl ?_
            show Steps p.tables e below (s₁.setTop (mkF m 57 #[.val (.int ((p0.toUInt32 >>> ((16 : Int32) &&& 31).toUInt32).toInt32)), .val (.int (11 : Int32))] [])) t
            refine XS.iloadN X0.here hx rfl (hb hby d6_57) rfl ?_
            show Steps p.tables e below (s₁.setTop (mkF m 58 #[.val (.int ((p0.toUInt32 >>> ((16 : Int32) &&& 31).toUInt32).toInt32)), .val (.int (11 : Int32))] [(.int ((p0.toUInt32 >>> ((16 : Int32) &&& 31).toUInt32).toInt32))])) t
            refine XS.iconst X0.here hx rfl (hb hby d6_58) ?_
            show Steps p.tables e below (s₁.setTop (mkF m 59 #[.val (.int ((p0.toUInt32 >>> ((16 : Int32) &&& 31).toUInt32).toInt32)), .val (.int (11 : Int32))] [(.int (4 : Int32)), (.int ((p0.toUInt32 >>> ((16 : Int32) &&& 31).toUInt32).toInt32))])) t
            refine XS.iushr X0.here hx rfl (hb hby d6_59) rfl ?_
            show Steps p.tables e below (s₁.setTop (mkF m 60 #[.val (.int ((p0.toUInt32 >>> ((16 : Int32) &&& 31).toUInt32).toInt32)), .val (.int (11 : Int32))] [(.int ((((p0.toUInt32 >>> ((16 : Int32) &&& 31).toUInt32).toInt32).toUInt32 >>> ((4 : Int32) &&& 31).toUInt32).toInt32))])) t
            refine XS.istoreN X0.here hx rfl (hb hby d6_60) rfl (l' := #[.val (.int ((((p0.toUInt32 >>> ((16 : Int32) &&& 31).toUInt32).toInt32).toUInt32 >>> ((4 : Int32) &&& 31).toUInt32).toInt32)), .val (.int (11 : Int32))]) rfl ?_
            show Steps p.tables e below (s₁.setTop (mkF m 61 #[.val (.int ((((p0.toUInt32 >>> ((16 : Int32) &&& 31).toUInt32).toInt32).toUInt32 >>> ((4 : Int32) &&& 31).toUInt32).toInt32)), .val (.int (11 : Int32))] [])) t
            refine XS.iloadN X0.here hx rfl (hb hby d6_61) rfl ?_
            show Steps p.tables e below (s₁.setTop (mkF m 62 #[.val (.int ((((p0.toUInt32 >>> ((16 : Int32) &&& 31).toUInt32).toInt32).toUInt32 >>> ((4 : Int32) &&& 31).toUInt32).toInt32)), .val (.int (11 : Int32))] [(.int ((((p0.toUInt32 >>> ((16 : Int32) &&& 31).toUInt32).toInt32).toUInt32 >>> ((4 : Int32) &&& 31).toUInt32).toInt32))])) t
            refine XS.iconst X0.here hx rfl (hb hby d6_62) ?_
            exact kt
          by_cases hc63 : ((((p0.toUInt32 >>> ((16 : Int32) &&& 31).toUInt32).toInt32).toUInt32 >>> ((4 : Int32) &&& 31).toUInt32).toInt32) < (4 : Int32)
          · refine OGo.step (F' := s₁.setTop (mkF m 73 #[.val (.int ((((p0.toUInt32 >>> ((16 : Int32) &&& 31).toUInt32).toInt32).toUInt32 >>> ((4 : Int32) &&& 31).toUInt32).toInt32)), .val (.int (11 : Int32))] [])) (fun t kt => ?_) ?_
            · show Steps p.tables e below (s₁.setTop (mkF m 63 #[.val (.int ((((p0.toUInt32 >>> ((16 : Int32) &&& 31).toUInt32).toInt32).toUInt32 >>> ((4 : Int32) &&& 31).toUInt32).toInt32)), .val (.int (11 : Int32))] [(.int (4 : Int32)), (.int ((((p0.toUInt32 >>> ((16 : Int32) &&& 31).toUInt32).toInt32).toUInt32 >>> ((4 : Int32) &&& 31).toUInt32).toInt32))])) t
              refine XS.icmpYes X0.here hx rfl (pc0 := 63) (pc' := 73) rfl (hb hby d6_63) rfl (tlt hc63).1 (by decide) (by decide) ?_
              exact kt
            refine OGo.step (F' := s₁.setTop (mkF m 78 #[.val (.int ((((p0.toUInt32 >>> ((16 : Int32) &&& 31).toUInt32).toInt32).toUInt32 >>> ((4 : Int32) &&& 31).toUInt32).toInt32)), .val (.int (11 : Int32))] [(.int ((11 : Int32) - ((((((p0.toUInt32 >>> ((16 : Int32) &&& 31).toUInt32).toInt32).toUInt32 >>> ((4 : Int32) &&& 31).toUInt32).toInt32).toUInt32 >>> ((1 : Int32) &&& 31).toUInt32).toInt32)))])) (fun t kt => ?_) ?_
            · show Steps p.tables e below (s₁.setTop (mkF m 73 #[.val (.int ((((p0.toUInt32 >>> ((16 : Int32) &&& 31).toUInt32).toInt32).toUInt32 >>> ((4 : Int32) &&& 31).toUInt32).toInt32)), .val (.int (11 : Int32))] [])) t
              refine XS.iloadN X0.here hx rfl (hb hby d6_73) rfl ?_
              show Steps p.tables e below (s₁.setTop (mkF m 74 #[.val (.int ((((p0.toUInt32 >>> ((16 : Int32) &&& 31).toUInt32).toInt32).toUInt32 >>> ((4 : Int32) &&& 31).toUInt32).toInt32)), .val (.int (11 : Int32))] [(.int (11 : Int32))])) t
              refine XS.iloadN X0.here hx rfl (hb hby d6_74) rfl ?_
              show Steps p.tables e below (s₁.setTop (mkF m 75 #[.val (.int ((((p0.toUInt32 >>> ((16 : Int32) &&& 31).toUInt32).toInt32).toUInt32 >>> ((4 : Int32) &&& 31).toUInt32).toInt32)), .val (.int (11 : Int32))] [(.int ((((p0.toUInt32 >>> ((16 : Int32) &&& 31).toUInt32).toInt32).toUInt32 >>> ((4 : Int32) &&& 31).toUInt32).toInt32)), (.int (11 : Int32))])) t
              refine XS.iconst X0.here hx rfl (hb hby d6_75) ?_
              show Steps p.tables e below (s₁.setTop (mkF m 76 #[.val (.int ((((p0.toUInt32 >>> ((16 : Int32) &&& 31).toUInt32).toInt32).toUInt32 >>> ((4 : Int32) &&& 31).toUInt32).toInt32)), .val (.int (11 : Int32))] [(.int (1 : Int32)), (.int ((((p0.toUInt32 >>> ((16 : Int32) &&& 31).toUInt32).toInt32).toUInt32 >>> ((4 : Int32) &&& 31).toUInt32).toInt32)), (.int (11 : Int32))])) t
              refine XS.iushr X0.here hx rfl (hb hby d6_76) rfl ?_
              show Steps p.tables e below (s₁.setTop (mkF m 77 #[.val (.int ((((p0.toUInt32 >>> ((16 : Int32) &&& 31).toUInt32).toInt32).toUInt32 >>> ((4 : Int32) &&& 31).toUInt32).toInt32)), .val (.int (11 : Int32))] [(.int ((((((p0.toUInt32 >>> ((16 : Int32) &&& 31).toUInt32).toInt32).toUInt32 >>> ((4 : Int32) &&& 31).toUInt32).toInt32).toUInt32 >>> ((1 : Int32) &&& 31).toUInt32).toInt32)), (.int (11 : Int32))])) t
              refine XS.isub X0.here hx rfl (hb hby d6_77) rfl ?_
              exact kt
            refine OGo.retI X0 hx hlk hret (hb hby d6_78) ?_ (by decide) (by decide)
            exact ⟨(by rw [f6, if_pos hc1, if_neg hc22, if_pos hc37, if_neg hc51, if_pos hc63]), N0, e0⟩
          · refine OGo.step (F' := s₁.setTop (mkF m 66 #[.val (.int ((((p0.toUInt32 >>> ((16 : Int32) &&& 31).toUInt32).toInt32).toUInt32 >>> ((4 : Int32) &&& 31).toUInt32).toInt32)), .val (.int (11 : Int32))] [])) (fun t kt => ?_) ?_
            · show Steps p.tables e below (s₁.setTop (mkF m 63 #[.val (.int ((((p0.toUInt32 >>> ((16 : Int32) &&& 31).toUInt32).toInt32).toUInt32 >>> ((4 : Int32) &&& 31).toUInt32).toInt32)), .val (.int (11 : Int32))] [(.int (4 : Int32)), (.int ((((p0.toUInt32 >>> ((16 : Int32) &&& 31).toUInt32).toInt32).toUInt32 >>> ((4 : Int32) &&& 31).toUInt32).toInt32))])) t
              refine XS.icmpNo X0.here hx rfl (hb hby d6_63) rfl (flt hc63).1 ?_
              exact kt
            refine OGo.step (F' := s₁.setTop (mkF m 78 #[.val (.int ((((((p0.toUInt32 >>> ((16 : Int32) &&& 31).toUInt32).toInt32).toUInt32 >>> ((4 : Int32) &&& 31).toUInt32).toInt32).toUInt32 >>> ((2 : Int32) &&& 31).toUInt32).toInt32)), .val (.int (9 : Int32))] [(.int ((9 : Int32) - ((((((((p0.toUInt32 >>> ((16 : Int32) &&& 31).toUInt32).toInt32).toUInt32 >>> ((4 : Int32) &&& 31).toUInt32).toInt32).toUInt32 >>> ((2 : Int32) &&& 31).toUInt32).toInt32).toUInt32 >>> ((1 : Int32) &&& 31).toUInt32).toInt32)))])) (fun t kt => ?_) ?_
            · show Steps p.tables e below (s₁.setTop (mkF m 66 #[.val (.int ((((p0.toUInt32 >>> ((16 : Int32) &&& 31).toUInt32).toInt32).toUInt32 >>> ((4 : Int32) &&& 31).toUInt32).toInt32)), .val (.int (11 : Int32))] [])) t
              refine XS.iinc X0.here hx rfl (hb hby d6_66) rfl (l' := #[.val (.int ((((p0.toUInt32 >>> ((16 : Int32) &&& 31).toUInt32).toInt32).toUInt32 >>> ((4 : Int32) &&& 31).toUInt32).toInt32)), .val (.int (9 : Int32))]) rfl ?_
              show Steps p.tables e below (s₁.setTop (mkF m 69 #[.val (.int ((((p0.toUInt32 >>> ((16 : Int32) &&& 31).toUInt32).toInt32).toUInt32 >>> ((4 : Int32) &&& 31).toUInt32).toInt32)), .val (.int (9 : Int32))] [])) t
              refine XS.iloadN X0.here hx rfl (hb hby d6_69) rfl ?_
              show Steps p.tables e below (s₁.setTop (mkF m 70 #[.val (.int ((((p0.toUInt32 >>> ((16 : Int32) &&& 31).toUInt32).toInt32).toUInt32 >>> ((4 : Int32) &&& 31).toUInt32).toInt32)), .val (.int (9 : Int32))] [(.int ((((p0.toUInt32 >>> ((16 : Int32) &&& 31).toUInt32).toInt32).toUInt32 >>> ((4 : Int32) &&& 31).toUInt32).toInt32))])) t
              refine XS.iconst X0.here hx rfl (hb hby d6_70) ?_
              show Steps p.tables e below (s₁.setTop (mkF m 71 #[.val (.int ((((p0.toUInt32 >>> ((16 : Int32) &&& 31).toUInt32).toInt32).toUInt32 >>> ((4 : Int32) &&& 31).toUInt32).toInt32)), .val (.int (9 : Int32))] [(.int (2 : Int32)), (.int ((((p0.toUInt32 >>> ((16 : Int32) &&& 31).toUInt32).toInt32).toUInt32 >>> ((4 : Int32) &&& 31).toUInt32).toInt32))])) t
              refine XS.iushr X0.here hx rfl (hb hby d6_71) rfl ?_
              show Steps p.tables e below (s₁.setTop (mkF m 72 #[.val (.int ((((p0.toUInt32 >>> ((16 : Int32) &&& 31).toUInt32).toInt32).toUInt32 >>> ((4 : Int32) &&& 31).toUInt32).toInt32)), .val (.int (9 : Int32))] [(.int ((((((p0.toUInt32 >>> ((16 : Int32) &&& 31).toUInt32).toInt32).toUInt32 >>> ((4 : Int32) &&& 31).toUInt32).toInt32).toUInt32 >>> ((2 : Int32) &&& 31).toUInt32).toInt32))])) t
              refine XS.istoreN X0.here hx rfl (hb hby d6_72) rfl (l' := #[.val (.int ((((((p0.toUInt32 >>> ((16 : Int32) &&& 31).toUInt32).toInt32).toUInt32 >>> ((4 : Int32) &&& 31).toUInt32).toInt32).toUInt32 >>> ((2 : Int32) &&& 31).toUInt32).toInt32)), .val (.int (9 : Int32))]) rfl ?_
              show Steps p.tables e below (s₁.setTop (mkF m 73 #[.val (.int ((((((p0.toUInt32 >>> ((16 : Int32) &&& 31).toUInt32).toInt32).toUInt32 >>> ((4 : Int32) &&& 31).toUInt32).toInt32).toUInt32 >>> ((2 : Int32) &&& 31).toUInt32).toInt32)), .val (.int (9 : Int32))] [])) t
              refine XS.iloadN X0.here hx rfl (hb hby d6_73) rfl ?_
              show Steps p.tables e below (s₁.setTop (mkF m 74 #[.val (.int ((((((p0.toUInt32 >>> ((16 : Int32) &&& 31).toUInt32).toInt32).toUInt32 >>> ((4 : Int32) &&& 31).toUInt32).toInt32).toUInt32 >>> ((2 : Int32) &&& 31).toUInt32).toInt32)), .val (.int (9 : Int32))] [(.int (9 : Int32))])) t
              refine XS.iloadN X0.here hx rfl (hb hby d6_74) rfl ?_
              show Steps p.tables e below (s₁.setTop (mkF m 75 #[.val (.int ((((((p0.toUInt32 >>> ((16 : Int32) &&& 31).toUInt32).toInt32).toUInt32 >>> ((4 : Int32) &&& 31).toUInt32).toInt32).toUInt32 >>> ((2 : Int32) &&& 31).toUInt32).toInt32)), .val (.int (9 : Int32))] [(.int ((((((p0.toUInt32 >>> ((16 : Int32) &&& 31).toUInt32).toInt32).toUInt32 >>> ((4 : Int32) &&& 31).toUInt32).toInt32).toUInt32 >>> ((2 : Int32) &&& 31).toUInt32).toInt32)), (.int (9 : Int32))])) t
              refine XS.iconst X0.here hx rfl (hb hby d6_75) ?_
              show Steps p.tables e below (s₁.setTop (mkF m 76 #[.val (.int ((((((p0.toUInt32 >>> ((16 : Int32) &&& 31).toUInt32).toInt32).toUInt32 >>> ((4 : Int32) &&& 31).toUInt32).toInt32).toUInt32 >>> ((2 : Int32) &&& 31).toUInt32).toInt32)), .val (.int (9 : Int32))] [(.int (1 : Int32)), (.int ((((((p0.toUInt32 >>> ((16 : Int32) &&& 31).toUInt32).toInt32).toUInt32 >>> ((4 : Int32) &&& 31).toUInt32).toInt32).toUInt32 >>> ((2 : Int32) &&& 31).toUInt32).toInt32)), (.int (9 : Int32))])) t
              refine XS.iushr X0.here hx rfl (hb hby d6_76) rfl ?_
              show Steps p.tables e below (s₁.setTop (mkF m 77 #[.val (.int ((((((p0.toUInt32 >>> ((16 : Int32) &&& 31).toUInt32).toInt32).toUInt32 >>> ((4 : Int32) &&& 31).toUInt32).toInt32).toUInt32 >>> ((2 : Int32) &&& 31).toUInt32).toInt32)), .val (.int (9 : Int32))] [(.int ((((((((p0.toUInt32 >>> ((16 : Int32) &&& 31).toUInt32).toInt32).toUInt32 >>> ((4 : Int32) &&& 31).toUInt32).toInt32).toUInt32 >>> ((2 : Int32) &&& 31).toUInt32).toInt32).toUInt32 >>> ((1 : Int32) &&& 31).toUInt32).toInt32)), (.int (9 : Int32))])) t
              refine XS.isub X0.here hx rfl (hb hby d6_77) rfl ?_
              exact kt
            refine OGo.retI X0 hx hlk hret (hb hby d6_78) ?_ (by decide) (by decide)
            exact ⟨(by rw [f6, if_pos hc1, if_neg hc22, if_pos hc37, if_neg hc51, if_neg hc63]), N0, e0⟩
      · refine OGo.step (F' := s₁.setTop (mkF m 40 #[.val (.int ((p0.toUInt32 >>> ((16 : Int32) &&& 31).toUInt32).toInt32)), .val (.int (15 : Int32))] [])) (fun t kt => ?_) ?_
        · show Steps p.tables e below (s₁.setTop (mkF m 37 #[.val (.int ((p0.toUInt32 >>> ((16 : Int32) &&& 31).toUInt32).toInt32)), .val (.int (15 : Int32))] [(.int (256 : Int32)), (.int ((p0.toUInt32 >>> ((16 : Int32) &&& 31).toUInt32).toInt32))])) t
          refine XS.icmpNo X0.here hx rfl (hb hby d6_37) rfl (flt hc37).1 ?_
          exact kt
        refine OGo.step (F' := s₁.setTop (mkF m 51 #[.val (.int ((((p0.toUInt32 >>> ((16 : Int32) &&& 31).toUInt32).toInt32).toUInt32 >>> ((8 : Int32) &&& 31).toUInt32).toInt32)), .val (.int (7 : Int32))] [(.int (16 : Int32)), (.int ((((p0.toUInt32 >>> ((16 : Int32) &&& 31).toUInt32).toInt32).toUInt32 >>> ((8 : Int32) &&& 31).toUInt32).toInt32))])) (fun t kt => ?_) ?_
        · show Steps p.tables e below (s₁.setTop (mkF m 40 #[.val (.int ((p0.toUInt32 >>> ((16 : Int32) &&& 31).toUInt32).toInt32)), .val (.int (15 : Int32))] [])) t
          refine XS.iinc X0.here hx rfl (hb hby d6_40) rfl (l' := #[.val (.int ((p0.toUInt32 >>> ((16 : Int32) &&& 31).toUInt32).toInt32)), .val (.int (7 : Int32))]) rfl ?_
          show Steps p.tables e below (s₁.setTop (mkF m 43 #[.val (.int ((p0.toUInt32 >>> ((16 : Int32) &&& 31).toUInt32).toInt32)), .val (.int (7 : Int32))] [])) t
          refine XS.iloadN X0.here hx rfl (hb hby d6_43) rfl ?_
          show Steps p.tables e below (s₁.setTop (mkF m 44 #[.val (.int ((p0.toUInt32 >>> ((16 : Int32) &&& 31).toUInt32).toInt32)), .val (.int (7 : Int32))] [(.int ((p0.toUInt32 >>> ((16 : Int32) &&& 31).toUInt32).toInt32))])) t
          refine XS.bipush X0.here hx rfl (hb hby d6_44) ?_
          show Steps p.tables e below (s₁.setTop (mkF m 46 #[.val (.int ((p0.toUInt32 >>> ((16 : Int32) &&& 31).toUInt32).toInt32)), .val (.int (7 : Int32))] [(.int (8 : Int32)), (.int ((p0.toUInt32 >>> ((16 : Int32) &&& 31).toUInt32).toInt32))])) t
          refine XS.iushr X0.here hx rfl (hb hby d6_46) rfl ?_
          show Steps p.tables e below (s₁.setTop (mkF m 47 #[.val (.int ((p0.toUInt32 >>> ((16 : Int32) &&& 31).toUInt32).toInt32)), .val (.int (7 : Int32))] [(.int ((((p0.toUInt32 >>> ((16 : Int32) &&& 31).toUInt32).toInt32).toUInt32 >>> ((8 : Int32) &&& 31).toUInt32).toInt32))])) t
          refine XS.istoreN X0.here hx rfl (hb hby d6_47) rfl (l' := #[.val (.int ((((p0.toUInt32 >>> ((16 : Int32) &&& 31).toUInt32).toInt32).toUInt32 >>> ((8 : Int32) &&& 31).toUInt32).toInt32)), .val (.int (7 : Int32))]) rfl ?_
          show Steps p.tables e below (s₁.setTop (mkF m 48 #[.val (.int ((((p0.toUInt32 >>> ((16 : Int32) &&& 31).toUInt32).toInt32).toUInt32 >>> ((8 : Int32) &&& 31).toUInt32).toInt32)), .val (.int (7 : Int32))] [])) t
          refine XS.iloadN X0.here hx rfl (hb hby d6_48) rfl ?_
          show Steps p.tables e below (s₁.setTop (mkF m 49 #[.val (.int ((((p0.toUInt32 >>> ((16 : Int32) &&& 31).toUInt32).toInt32).toUInt32 >>> ((8 : Int32) &&& 31).toUInt32).toInt32)), .val (.int (7 : Int32))] [(.int ((((p0.toUInt32 >>> ((16 : Int32) &&& 31).toUInt32).toInt32).toUInt32 >>> ((8 : Int32) &&& 31).toUInt32).toInt32))])) t
          refine XS.bipush X0.here hx rfl (hb hby d6_49) ?_
          exact kt
        by_cases hc51 : ((((p0.toUInt32 >>> ((16 : Int32) &&& 31).toUInt32).toInt32).toUInt32 >>> ((8 : Int32) &&& 31).toUInt32).toInt32) < (16 : Int32)
        · refine OGo.step (F' := s₁.setTop (mkF m 61 #[.val (.int ((((p0.toUInt32 >>> ((16 : Int32) &&& 31).toUInt32).toInt32).toUInt32 >>> ((8 : Int32) &&& 31).toUInt32).toInt32)), .val (.int (7 : Int32))] [])) (fun t kt => ?_) ?_
          · show Steps p.tables e below (s₁.setTop (mkF m 51 #[.val (.int ((((p0.toUInt32 >>> ((16 : Int32) &&& 31).toUInt32).toInt32).toUInt32 >>> ((8 : Int32) &&& 31).toUInt32).toInt32)), .val (.int (7 : Int32))] [(.int (16 : Int32)), (.int ((((p0.toUInt32 >>> ((16 : Int32) &&& 31).toUInt32).toInt32).toUInt32 >>> ((8 : Int32) &&& 31).toUInt32).toInt32))])) t
            refine XS.icmpYes X0.here hx rfl (pc0 := 51) (pc' := 61) rfl (hb hby d6_51) rfl (tlt hc51).1 (by decide) (by decide) ?_
            exact kt
          refine OGo.step (F' := s₁.setTop (mkF m 63 #[.val (.int ((((p0.toUInt32 >>> ((16 : Int32) &&& 31).toUInt32).toInt32).toUInt32 >>> ((8 : Int32) &&& 31).toUInt32).toInt32)), .val (.int (7 : Int32))] [(.int (4 : Int32)), (.int ((((p0.toUInt32 >>> ((16 : Int32) &&& 31).toUInt32).toInt32).toUInt32 >>> ((8 : Int32) &&& 31).toUInt32).toInt32))])) (fun t kt => ?_) ?_
          · show Steps p.tables e below (s₁.setTop (mkF m 61 #[.val (.int ((((p0.toUInt32 >>> ((16 : Int32) &&& 31).toUInt32).toInt32).toUInt32 >>> ((8 : Int32) &&& 31).toUInt32).toInt32)), .val (.int (7 : Int32))] [])) t
            refine XS.iloadN X0.here hx rfl (hb hby d6_61) rfl ?_
            show Steps p.tables e below (s₁.setTop (mkF m 62 #[.val (.int ((((p0.toUInt32 >>> ((16 : Int32) &&& 31).toUInt32).toInt32).toUInt32 >>> ((8 : Int32) &&& 31).toUInt32).toInt32)), .val (.int (7 : Int32))] [(.int ((((p0.toUInt32 >>> ((16 : Int32) &&& 31).toUInt32).toInt32).toUInt32 >>> ((8 : Int32) &&& 31).toUInt32).toInt32))])) t
            refine XS.iconst X0.here hx rfl (hb hby d6_62) ?_
            exact kt
          by_cases hc63 : ((((p0.toUInt32 >>> ((16 : Int32) &&& 31).toUInt32).toInt32).toUInt32 >>> ((8 : Int32) &&& 31).toUInt32).toInt32) < (4 : Int32)
          · refine OGo.step (F' := s₁.setTop (mkF m 73 #[.val (.int ((((p0.toUInt32 >>> ((16 : Int32) &&& 31).toUInt32).toInt32).toUInt32 >>> ((8 : Int32) &&& 31).toUInt32).toInt32)), .val (.int (7 : Int32))] [])) (fun t kt => ?_) ?_
            · show Steps p.tables e below (s₁.setTop (mkF m 63 #[.val (.int ((((p0.toUInt32 >>> ((16 : Int32) &&& 31).toUInt32).toInt32).toUInt32 >>> ((8 : Int32) &&& 31).toUInt32).toInt32)), .val (.int (7 : Int32))] [(.int (4 : Int32)), (.int ((((p0.toUInt32 >>> ((16 : Int32) &&& 31).toUInt32).toInt32).toUInt32 >>> ((8 : Int32) &&& 31).toUInt32).toInt32))])) t
              refine XS.icmpYes X0.here hx rfl (pc0 := 63) (pc' := 73) rfl (hb hby d6_63) rfl (tlt hc63).1 (by decide) (by decide) ?_
              exact kt
            refine OGo.step (F' := s₁.setTop (mkF m 78 #[.val (.int ((((p0.toUInt32 >>> ((16 : Int32) &&& 31).toUInt32).toInt32).toUInt32 >>> ((8 : Int32) &&& 31).toUInt32).toInt32)), .val (.int (7 : Int32))] [(.int ((7 : Int32) - ((((((p0.toUInt32 >>> ((16 : Int32) &&& 31).toUInt32).toInt32).toUInt32 >>> ((8 : Int32) &&& 31).toUInt32).toInt32).toUInt32 >>> ((1 : Int32) &&& 31).toUInt32).toInt32)))])) (fun t kt => ?_) ?_
            · show Steps p.tables e below (s₁.setTop (mkF m 73 #[.val (.int ((((p0.toUInt32 >>> ((16 : Int32) &&& 31).toUInt32).toInt32).toUInt32 >>> ((8 : Int32) &&& 31).toUInt32).toInt32)), .val (.int (7 : Int32))] [])) t
              refine XS.iloadN X0.here hx rfl (hb hby d6_73) rfl ?_
              show Steps p.tables e below (s₁.setTop (mkF m 74 #[.val (.int ((((p0.toUInt32 >>> ((16 : Int32) &&& 31).toUInt32).toInt32).toUInt32 >>> ((8 : Int32) &&& 31).toUInt32).toInt32)), .val (.int (7 : Int32))] [(.int (7 : Int32))])) t
              refine XS.iloadN X0.here hx rfl (hb hby d6_74) rfl ?_
              show Steps p.tables e below (s₁.setTop (mkF m 75 #[.val (.int ((((p0.toUInt32 >>> ((16 : Int32) &&& 31).toUInt32).toInt32).toUInt32 >>> ((8 : Int32) &&& 31).toUInt32).toInt32)), .val (.int (7 : Int32))] [(.int ((((p0.toUInt32 >>> ((16 : Int32) &&& 31).toUInt32).toInt32).toUInt32 >>> ((8 : Int32) &&& 31).toUInt32).toInt32)), (.int (7 : Int32))])) t
              refine XS.iconst X0.here hx rfl (hb hby d6_75) ?_
              show Steps p.tables e below (s₁.setTop (mkF m 76 #[.val (.int ((((p0.toUInt32 >>> ((16 : Int32) &&& 31).toUInt32).toInt32).toUInt32 >>> ((8 : Int32) &&& 31).toUInt32).toInt32)), .val (.int (7 : Int32))] [(.int (1 : Int32)), (.int ((((p0.toUInt32 >>> ((16 : Int32) &&& 31).toUInt32).toInt32).toUInt32 >>> ((8 : Int32) &&& 31).toUInt32).toInt32)), (.int (7 : Int32))])) t
              refine XS.iushr X0.here hx rfl (hb hby d6_76) rfl ?_
              show Steps p.tables e below (s₁.setTop (mkF m 77 #[.val (.int ((((p0.toUInt32 >>> ((16 : Int32) &&& 31).toUInt32).toInt32).toUInt32 >>> ((8 : Int32) &&& 31).toUInt32).toInt32)), .val (.int (7 : Int32))] [(.int ((((((p0.toUInt32 >>> ((16 : Int32) &&& 31).toUInt32).toInt32).toUInt32 >>> ((8 : Int32) &&& 31).toUInt32).toInt32).toUInt32 >>> ((1 : Int32) &&& 31).toUInt32).toInt32)), (.int (7 : Int32))])) t
              refine XS.isub X0.here hx rfl (hb hby d6_77) rfl ?_
              exact kt
            refine OGo.retI X0 hx hlk hret (hb hby d6_78) ?_ (by decide) (by decide)
            exact ⟨(by rw [f6, if_pos hc1, if_neg hc22, if_neg hc37, if_pos hc51, if_pos hc63]), N0, e0⟩
          · refine OGo.step (F' := s₁.setTop (mkF m 66 #[.val (.int ((((p0.toUInt32 >>> ((16 : Int32) &&& 31).toUInt32).toInt32).toUInt32 >>> ((8 : Int32) &&& 31).toUInt32).toInt32)), .val (.int (7 : Int32))] [])) (fun t kt => ?_) ?_
            · show Steps p.tables e below (s₁.setTop (mkF m 63 #[.val (.int ((((p0.toUInt32 >>> ((16 : Int32) &&& 31).toUInt32).toInt32).toUInt32 >>> ((8 : Int32) &&& 31).toUInt32).toInt32)), .val (.int (7 : Int32))] [(.int (4 : Int32)), (.int ((((p0.toUInt32 >>> ((16 : Int32) &&& 31).toUInt32).toInt32).toUInt32 >>> ((8 : Int32) &&& 31).toUInt32).toInt32))])) t
              refine XS.icmpNo X0.here hx rfl (hb hby d6_63) rfl (flt hc63).1 ?_
              exact kt
            refine OGo.step (F' := s₁.setTop (mkF m 78 #[.val (.int ((((((p0.toUInt32 >>> ((16 : Int32) &&& 31).toUInt32).toInt32).toUInt32 >>> ((8 : Int32) &&& 31).toUInt32).toInt32).toUInt32 >>> ((2 : Int32) &&& 31).toUInt32).toInt32)), .val (.int (5 : Int32))] [(.int ((5 : Int32) - ((((((((p0.toUInt32 >>> ((16 : Int32) &&& 31).toUInt32).toInt32).toUInt32 >>> ((8 : Int32) &&& 31).toUInt32).toInt32).toUInt32 >>> ((2 : Int32) &&& 31).toUInt32).toInt32).toUInt32 >>> ((1 : Int32) &&& 31).toUInt32).toInt32)))])) (fun t kt => ?_) ?_
            · show Steps p.tables e below (s₁.setTop (mkF m 66 #[.val (.int ((((p0.toUInt32 >>> ((16 : Int32) &&& 31).toUInt32).toInt32).toUInt32 >>> ((8 : Int32) &&& 31).toUInt32).toInt32)), .val (.int (7 : Int32))] [])) t
              refine XS.iinc X0.here hx rfl (hb hby d6_66) rfl (l' := #[.val (.int ((((p0.toUInt32 >>> ((16 : Int32) &&& 31).toUInt32).toInt32).toUInt32 >>> ((8 : Int32) &&& 31).toUInt32).toInt32)), .val (.int (5 : Int32))]) rfl ?_
              show Steps p.tables e below (s₁.setTop (mkF m 69 #[.val (.int ((((p0.toUInt32 >>> ((16 : Int32) &&& 31).toUInt32).toInt32).toUInt32 >>> ((8 : Int32) &&& 31).toUInt32).toInt32)), .val (.int (5 : Int32))] [])) t
              refine XS.iloadN X0.here hx rfl (hb hby d6_69) rfl ?_
              show Steps p.tables e below (s₁.setTop (mkF m 70 #[.val (.int ((((p0.toUInt32 >>> ((16 : Int32) &&& 31).toUInt32).toInt32).toUInt32 >>> ((8 : Int32) &&& 31).toUInt32).toInt32)), .val (.int (5 : Int32))] [(.int ((((p0.toUInt32 >>> ((16 : Int32) &&& 31).toUInt32).toInt32).toUInt32 >>> ((8 : Int32) &&& 31).toUInt32).toInt32))])) t
              refine XS.iconst X0.here hx rfl (hb hby d6_70) ?_
              show Steps p.tables e below (s₁.setTop (mkF m 71 #[.val (.int ((((p0.toUInt32 >>> ((16 : Int32) &&& 31).toUInt32).toInt32).toUInt32 >>> ((8 : Int32) &&& 31).toUInt32).toInt32)), .val (.int (5 : Int32))] [(.int (2 : Int32)), (.int ((((p0.toUInt32 >>> ((16 : Int32) &&& 31).toUInt32).toInt32).toUInt32 >>> ((8 : Int32) &&& 31).toUInt32).toInt32))])) t
              refine XS.iushr X0.here hx rfl (hb hby d6_71) rfl ?_
              show Steps p.tables e below (s₁.setTop (mkF m 72 #[.val (.int ((((p0.toUInt32 >>> ((16 : Int32) &&& 31).toUInt32).toInt32).toUInt32 >>> ((8 : Int32) &&& 31).toUInt32).toInt32)), .val (.int (5 : Int32))] [(.int ((((((p0.toUInt32 >>> ((16 : Int32) &&& 31).toUInt32).toInt32).toUInt32 >>> ((8 : Int32) &&& 31).toUInt32).toInt32).toUInt32 >>> ((2 : Int32) &&& 31).toUInt32).toInt32))])) t
              refine XS.istoreN X0.here hx rfl (hb hby d6_72) rfl (l' := #[.val (.int ((((((p0.toUInt32 >>> ((16 : Int32) &&& 31).toUInt32).toInt32).toUInt32 >>> ((8 : Int32) &&& 31).toUInt32).toInt32).toUInt32 >>> ((2 : Int32) &&& 31).toUInt32).toInt32)), .val (.int (5 : Int32))]) rfl ?_
              show Steps p.tables e below (s₁.setTop (mkF m 73 #[.val (.int ((((((p0.toUInt32 >>> ((16 : Int32) &&& 31).toUInt32).toInt32).toUInt32 >>> ((8 : Int32) &&& 31).toUInt32).toInt32).toUInt32 >>> ((2 : Int32) &&& 31).toUInt32).toInt32)), .val (.int (5 : Int32))] [])) t
              refine XS.iloadN X0.here hx rfl (hb hby d6_73) rfl ?_
              show Steps p.tables e below (s₁.setTop (mkF m 74 #[.val (.int ((((((p0.toUInt32 >>> ((16 : Int32) &&& 31).toUInt32).toInt32).toUInt32 >>> ((8 : Int32) &&& 31).toUInt32).toInt32).toUInt32 >>> ((2 : Int32) &&& 31).toUInt32).toInt32)), .val (.int (5 : Int32))] [(.int (5 : Int32))])) t
              refine XS.iloadN X0.here hx rfl (hb hby d6_74) rfl ?_
              show Steps p.tables e below (s₁.setTop (mkF m 75 #[.val (.int ((((((p0.toUInt32 >>> ((16 : Int32) &&& 31).toUInt32).toInt32).toUInt32 >>> ((8 : Int32) &&& 31).toUInt32).toInt32).toUInt32 >>> ((2 : Int32) &&& 31).toUInt32).toInt32)), .val (.int (5 : Int32))] [(.int ((((((p0.toUInt32 >>> ((16 : Int32) &&& 31).toUInt32).toInt32).toUInt32 >>> ((8 : Int32) &&& 31).toUInt32).toInt32).toUInt32 >>> ((2 : Int32) &&& 31).toUInt32).toInt32)), (.int (5 : Int32))])) t
              refine XS.iconst X0.here hx rfl (hb hby d6_75) ?_
              show Steps p.tables e below (s₁.setTop (mkF m 76 #[.val (.int ((((((p0.toUInt32 >>> ((16 : Int32) &&& 31).toUInt32).toInt32).toUInt32 >>> ((8 : Int32) &&& 31).toUInt32).toInt32).toUInt32 >>> ((2 : Int32) &&& 31).toUInt32).toInt32)), .val (.int (5 : Int32))] [(.int (1 : Int32)), (.int ((((((p0.toUInt32 >>> ((16 : Int32) &&& 31).toUInt32).toInt32).toUInt32 >>> ((8 : Int32) &&& 31).toUInt32).toInt32).toUInt32 >>> ((2 : Int32) &&& 31).toUInt32).toInt32)), (.int (5 : Int32))])) t
              refine XS.iushr X0.here hx rfl (hb hby d6_76) rfl ?_
              show Steps p.tables e below (s₁.setTop (mkF m 77 #[.val (.int ((((((p0.toUInt32 >>> ((16 : Int32) &&& 31).toUInt32).toInt32).toUInt32 >>> ((8 : Int32) &&& 31).toUInt32).toInt32).toUInt32 >>> ((2 : Int32) &&& 31).toUInt32).toInt32)), .val (.int (5 : Int32))] [(.int ((((((((p0.toUInt32 >>> ((16 : Int32) &&& 31).toUInt32).toInt32).toUInt32 >>> ((8 : Int32) &&& 31).toUInt32).toInt32).toUInt32 >>> ((2 : Int32) &&& 31).toUInt32).toInt32).toUInt32 >>> ((1 : Int32) &&& 31).toUInt32).toInt32)), (.int (5 : Int32))])) t
              refine XS.isub X0.here hx rfl (hb hby d6_77) rfl ?_
              exact kt
            refine OGo.retI X0 hx hlk hret (hb hby d6_78) ?_ (by decide) (by decide)
            exact ⟨(by rw [f6, if_pos hc1, if_neg hc22, if_neg hc37, if_pos hc51, if_neg hc63]), N0, e0⟩
        · refine OGo.step (F' := s₁.setTop (mkF m 54 #[.val (.int ((((p0.toUInt32 >>> ((16 : Int32) &&& 31).toUInt32).toInt32).toUInt32 >>> ((8 : Int32) &&& 31).toUInt32).toInt32)), .val (.int (7 : Int32))] [])) (fun t kt => ?_) ?_
          · show Steps p.tables e below (s₁.setTop (mkF m 51 #[.val (.int ((((p0.toUInt32 >>> ((16 : Int32) &&& 31).toUInt32).toInt32).toUInt32 >>> ((8 : Int32) &&& 31).toUInt32).toInt32)), .val (.int (7 : Int32))] [(.int (16 : Int32)), (.int ((((p0.toUInt32 >>> ((16 : Int32) &&& 31).toUInt32).toInt32).toUInt32 >>> ((8 : Int32) &&& 31).toUInt32).toInt32))])) t
            refine XS.icmpNo X0.here hx rfl (hb hby d6_51) rfl (flt hc51).1 ?_
            exact kt
          refine OGo.step (F' := s₁.setTop (mkF m 63 #[.val (.int ((((((p0.toUInt32 >>> ((16 : Int32) &&& 31).toUInt32).toInt32).toUInt32 >>> ((8 : Int32) &&& 31).toUInt32).toInt32).toUInt32 >>> ((4 : Int32) &&& 31).toUInt32).toInt32)), .val (.int (3 : Int32))] [(.int (4 : Int32)), (.int ((((((p0.toUInt32 >>> ((16 : Int32) &&& 31).toUInt32).toInt32).toUInt32 >>> ((8 : Int32) &&& 31).toUInt32).toInt32).toUInt32 >>> ((4 : Int32) &&& 31).toUInt32).toInt32))])) (fun t kt => ?_) ?_
          · show Steps p.tables e below (s₁.setTop (mkF m 54 #[.val (.int ((((p0.toUInt32 >>> ((16 : Int32) &&& 31).toUInt32).toInt32).toUInt32 >>> ((8 : Int32) &&& 31).toUInt32).toInt32)), .val (.int (7 : Int32))] [])) t
            refine XS.iinc X0.here hx rfl (hb hby d6_54) rfl (l' := #[.val (.int ((((p0.toUInt32 >>> ((16 : Int32) &&& 31).toUInt32).toInt32).toUInt32 >>> ((8 : Int32) &&& 31).toUInt32).toInt32)), .val (.int (3 : Int32))]) rfl ?_
            show Steps p.tables e below (s₁.setTop (mkF m 57 #[.val (.int ((((p0.toUInt32 >>> ((16 : Int32) &&& 31).toUInt32).toInt32).toUInt32 >>> ((8 : Int32) &&& 31).toUInt32).toInt32)), .val (.int (3 : Int32))] [])) t
            refine XS.iloadN X0.here hx rfl (hb hby d6_57) rfl ?_
            show Steps p.tables e below (s₁.setTop (mkF m 58 #[.val (.int ((((p0.toUInt32 >>> ((16 : Int32) &&& 31).toUInt32).toInt32).toUInt32 >>> ((8 : Int32) &&& 31).toUInt32).toInt32)), .val (.int (3 : Int32))] [(.int ((((p0.toUInt32 >>> ((16 : Int32) &&& 31).toUInt32).toInt32).toUInt32 >>> ((8 : Int32) &&& 31).toUInt32).toInt32))])) t
            refine XS.iconst X0.here hx rfl (hb hby d6_58) ?_
            show Steps p.tables e below (s₁.setTop (mkF m 59 #[.val (.int ((((p0.toUInt32 >>> ((16 : Int32) &&& 31).toUInt32).toInt32).toUInt32 >>> ((8 : Int32) &&& 31).toUInt32).toInt32)), .val (.int (3 : Int32))] [(.int (4 : Int32)), (.int ((((p0.toUInt32 >>> ((16 : Int32) &&& 31).toUInt32).toInt32).toUInt32 >>> ((8 : Int32) &&& 31).toUInt32).toInt32))])) t
            refine XS.iushr X0.here hx rfl (hb hby d6_59) rfl ?_
            show Steps p.tables e below (s₁.setTop (mkF m 60 #[.val (.int ((((p0.toUInt32 >>> ((16 : Int32) &&& 31).toUInt32).toInt32).toUInt32 >>> ((8 : Int32) &&& 31).toUInt32).toInt32)), .val (.int (3 : Int32))] [(.int ((((((p0.toUInt32 >>> ((16 : Int32) &&& 31).toUInt32).toInt32).toUInt32 >>> ((8 : Int32) &&& 31).toUInt32).toInt32).toUInt32 >>> ((4 : Int32) &&& 31).toUInt32).toInt32))])) t
            refine XS.istoreN X0.here hx rfl (hb hby d6_60) rfl (l' := #[.val (.int ((((((p0.toUInt32 >>> ((16 : Int32) &&& 31).toUInt32).toInt32).toUInt32 >>> ((8 : Int32) &&& 31).toUInt32).toInt32).toUInt32 >>> ((4 : Int32) &&& 31).toUInt32).toInt32)), .val (.int (3 : Int32))]) rfl ?_
            show Steps p.tables e below (s₁.setTop (mkF m 61 #[.val (.int ((((((p0.toUInt32 >>> ((16 : Int32) &&& 31).toUInt32).toInt32).toUInt32 >>> ((8 : Int32) &&& 31).toUInt32).toInt32).toUInt32 >>> ((4 : Int32) &&& 31).toUInt32).toInt32)), .val (.int (3 : Int32))] [])) t
            refine XS.iloadN X0.here hx rfl (hb hby d6_61) rfl ?_
            show Steps p.tables e below (s₁.setTop (mkF m 62 #[.val (.int ((((((p0.toUInt32 >>> ((16 : Int32) &&& 31).toUInt32).toInt32).toUInt32 >>> ((8 : Int32) &&& 31).toUInt32).toInt32).toUInt32 >>> ((4 : Int32) &&& 31).toUInt32).toInt32)), .val (.int (3 : Int32))] [(.int ((((((p0.toUInt32 >>> ((16 : Int32) &&& 31).toUInt32).toInt32).toUInt32 >>> ((8 : Int32) &&& 31).toUInt32).toInt32).toUInt32 >>> ((4 : Int32) &&& 31).toUInt32).toInt32))])) t
            refine XS.iconst X0.here hx rfl (hb hby d6_62) ?_
            exact kt
          by_cases hc63 : ((((((p0.toUInt32 >>> ((16 : Int32) &&& 31).toUInt32).toInt32).toUInt32 >>> ((8 : Int32) &&& 31).toUInt32).toInt32).toUInt32 >>> ((4 : Int32) &&& 31).toUInt32).toInt32) < (4 : Int32)
          · refine OGo.step (F' := s₁.setTop (mkF m 73 #[.val (.int ((((((p0.toUInt32 >>> ((16 : Int32) &&& 31).toUInt32).toInt32).toUInt32 >>> ((8 : Int32) &&& 31).toUInt32).toInt32).toUInt32 >>> ((4 : Int32) &&& 31).toUInt32).toInt32)), .val (.int (3 : Int32))] [])) (fun t kt => ?_) ?_
            · show Steps p.tables e below (s₁.setTop (mkF m 63 #[.val (.int ((((((p0.toUInt32 >>> ((16 : Int32) &&& 31).toUInt32).toInt32).toUInt32 >>> ((8 : Int32) &&& 31).toUInt32).toInt32).toUInt32 >>> ((4 : Int32) &&& 31).toUInt32).toInt32)), .val (.int (3 : Int32))] [(.int (4 : Int32)), (.int ((((((p0.toUInt32 >>> ((16 : Int32) &&& 31).toUInt32).toInt32).toUInt32 >>> ((8 : Int32) &&& 31).toUInt32).toInt32).toUInt32 >>> ((4 : Int32) &&& 31).toUInt32).toInt32))])) t
              refine XS.icmpYes X0.here hx rfl (pc0 := 63) (pc' := 73) rfl (hb hby d6_63) rfl (tlt hc63).1 (by decide) (by decide) ?_
              exact kt
            refine OGo.step (F' := s₁.setTop (mkF m 78 #[.val (.int ((((((p0.toUInt32 >>> ((16 : Int32) &&& 31).toUInt32).toInt32).toUInt32 >>> ((8 : Int32) &&& 31).toUInt32).toInt32).toUInt32 >>> ((4 : Int32) &&& 31).toUInt32).toInt32)), .val (.int (3 : Int32))] [(.int ((3 : Int32) - ((((((((p0.toUInt32 >>> ((16 : Int32) &&& 31).toUInt32).toInt32).toUInt32 >>> ((8 : Int32) &&& 31).toUInt32).toInt32).toUInt32 >>> ((4 : Int32) &&& 31).toUInt32).toInt32).toUInt32 >>> ((1 : Int32) &&& 31).toUInt32).toInt32)))])) (fun t kt => ?_) ?_
            · show Steps p.tables e below (s₁.setTop (mkF m 73 #[.val (.int ((((((p0.toUInt32 >>> ((16 : Int32) &&& 31).toUInt32).toInt32).toUInt32 >>> ((8 : Int32) &&& 31).toUInt32).toInt32).toUInt32 >>> ((4 : Int32) &&& 31).toUInt32).toInt32)), .val (.int (3 : Int32))] [])) t
              refine XS.iloadN X0.here hx rfl (hb hby d6_73) rfl ?_
              show Steps p.tables e below (s₁.setTop (mkF m 74 #[.val (.int ((((((p0.toUInt32 >>> ((16 : Int32) &&& 31).toUInt32).toInt32).toUInt32 >>> ((8 : Int32) &&& 31).toUInt32).toInt32).toUInt32 >>> ((4 : Int32) &&& 31).toUInt32).toInt32)), .val (.int (3 : Int32))] [(.int (3 : Int32))])) t
              refine XS.iloadN X0.here hx rfl (hb hby d6_74) rfl ?_
              show Steps p.tables e below (s₁.setTop (mkF m 75 #[.val (.int ((((((p0.toUInt32 >>> ((16 : Int32) &&& 31).toUInt32).toInt32).toUInt32 >>> ((8 : Int32) &&& 31).toUInt32).toInt32).toUInt32 >>> ((4 : Int32) &&& 31).toUInt32).toInt32)), .val (.int (3 : Int32))] [(.int ((((((p0.toUInt32 >>> ((16 : Int32) &&& 31).toUInt32).toInt32).toUInt32 >>> ((8 : Int32) &&& 31).toUInt32).toInt32).toUInt32 >>> ((4 : Int32) &&& 31).toUInt32).toInt32)), (.int (3 : Int32))])) t
              refine XS.iconst X0.here hx rfl (hb hby d6_75) ?_
              show Steps p.tables e below (s₁.setTop (mkF m 76 #[.val (.int ((((((p0.toUInt32 >>> ((16 : Int32) &&& 31).toUInt32).toInt32).toUInt32 >>> ((8 : Int32) &&& 31).toUInt32).toInt32).toUInt32 >>> ((4 : Int32) &&& 31).toUInt32).toInt32)), .val (.int (3 : Int32))] [(.int (1 : Int32)), (.int ((((((p0.toUInt32 >>> ((16 : Int32) &&& 31).toUInt32).toInt32).toUInt32 >>> ((8 : Int32) &&& 31).toUInt32).toInt32).toUInt32 >>> ((4 : Int32) &&& 31).toUInt32).toInt32)), (.int (3 : Int32))])) t
              refine XS.iushr X0.here hx rfl (hb hby d6_76) rfl ?_
              show Steps p.tables e below (s₁.setTop (mkF m 77 #[.val (.int ((((((p0.toUInt32 >>> ((16 : Int32) &&& 31).toUInt32).toInt32).toUInt32 >>> ((8 : Int32) &&& 31).toUInt32).toInt32).toUInt32 >>> ((4 : Int32) &&& 31).toUInt32).toInt32)), .val (.int (3 : Int32))] [(.int ((((((((p0.toUInt32 >>> ((16 : Int32) &&& 31).toUInt32).toInt32).toUInt32 >>> ((8 : Int32) &&& 31).toUInt32).toInt32).toUInt32 >>> ((4 : Int32) &&& 31).toUInt32).toInt32).toUInt32 >>> ((1 : Int32) &&& 31).toUInt32).toInt32)), (.int (3 : Int32))])) t
              refine XS.isub X0.here hx rfl (hb hby d6_77) rfl ?_
              exact kt
            refine OGo.retI X0 hx hlk hret (hb hby d6_78) ?_ (by decide) (by decide)
            exact ⟨(by rw [f6, if_pos hc1, if_neg hc22, if_neg hc37, if_neg hc51, if_pos hc63]), N0, e0⟩
          · refine OGo.step (F' := s₁.setTop (mkF m 66 #[.val (.int ((((((p0.toUInt32 >>> ((16 : Int32) &&& 31).toUInt32).toInt32).toUInt32 >>> ((8 : Int32) &&& 31).toUInt32).toInt32).toUInt32 >>> ((4 : Int32) &&& 31).toUInt32).toInt32)), .val (.int (3 : Int32))] [])) (fun t kt => ?_) ?_
            · show Steps p.tables e below (s₁.setTop (mkF m 63 #[.val (.int ((((((p0.toUInt32 >>> ((16 : Int32) &&& 31).toUInt32).toInt32).toUInt32 >>> ((8 : Int32) &&& 31).toUInt32).toInt32).toUInt32 >>> ((4 : Int32) &&& 31).toUInt32).toInt32)), .val (.int (3 : Int32))] [(.int (4 : Int32)), (.int ((((((p0.toUInt32 >>> ((16 : Int32) &&& 31).toUInt32).toInt32).toUInt32 >>> ((8 : Int32) &&& 31).toUInt32).toInt32).toUInt32 >>> ((4 : Int32) &&& 31).toUInt32).toInt32))])) t
              refine XS.icmpNo X0.here hx rfl (hb hby d6_63) rfl (flt hc63).1 ?_
              exact kt
            refine OGo.step (F' := s₁.setTop (mkF m 78 #[.val (.int ((((((((p0.toUInt32 >>> ((16 : Int32) &&& 31).toUInt32).toInt32).toUInt32 >>> ((8 : Int32) &&& 31).toUInt32).toInt32).toUInt32 >>> ((4 : Int32) &&& 31).toUInt32).toInt32).toUInt32 >>> ((2 : Int32) &&& 31).toUInt32).toInt32)), .val (.int (1 : Int32))] [(.int ((1 : Int32) - ((((((((((p0.toUInt32 >>> ((16 : Int32) &&& 31).toUInt32).toInt32).toUInt32 >>> ((8 : Int32) &&& 31).toUInt32).toInt32).toUInt32 >>> ((4 : Int32) &&& 31).toUInt32).toInt32).toUInt32 >>> ((2 : Int32) &&& 31).toUInt32).toInt32).toUInt32 >>> ((1 : Int32) &&& 31).toUInt32).toInt32)))])) (fun t kt => ?_) ?_
            · show Steps p.tables e below (s₁.setTop (mkF m 66 #[.val (.int ((((((p0.toUInt32 >>> ((16 : Int32) &&& 31).toUInt32).toInt32).toUInt32 >>> ((8 : Int32) &&& 31).toUInt32).toInt32).toUInt32 >>> ((4 : Int32) &&& 31).toUInt32).toInt32)), .val (.int (3 : Int32))] [])) t
              refine XS.iinc X0.here hx rfl (hb hby d6_66) rfl (l' := #[.val (.int ((((((p0.toUInt32 >>> ((16 : Int32) &&& 31).toUInt32).toInt32).toUInt32 >>> ((8 : Int32) &&& 31).toUInt32).toInt32).toUInt32 >>> ((4 : Int32) &&& 31).toUInt32).toInt32)), .val (.int (1 : Int32))]) rfl ?_
              show Steps p.tables e below (s₁.setTop (mkF m 69 #[.val (.int ((((((p0.toUInt32 >>> ((16 : Int32) &&& 31).toUInt32).toInt32).toUInt32 >>> ((8 : Int32) &&& 31).toUInt32).toInt32).toUInt32 >>> ((4 : Int32) &&& 31).toUInt32).toInt32)), .val (.int (1 : Int32))] [])) t
              refine XS.iloadN X0.here hx rfl (hb hby d6_69) rfl ?_
              show Steps p.tables e below (s₁.setTop (mkF m 70 #[.val (.int ((((((p0.toUInt32 >>> ((16 : Int32) &&& 31).toUInt32).toInt32).toUInt32 >>> ((8 : Int32) &&& 31).toUInt32).toInt32).toUInt32 >>> ((4 : Int32) &&& 31).toUInt32).toInt32)), .val (.int (1 : Int32))] [(.int ((((((p0.toUInt32 >>> ((16 : Int32) &&& 31).toUInt32).toInt32).toUInt32 >>> ((8 : Int32) &&& 31).toUInt32).toInt32).toUInt32 >>> ((4 : Int32) &&& 31).toUInt32).toInt32))])) t
              refine XS.iconst X0.here hx rfl (hb hby d6_70) ?_
              show Steps p.tables e below (s₁.setTop (mkF m 71 #[.val (.int ((((((p0.toUInt32 >>> ((16 : Int32) &&& 31).toUInt32).toInt32).toUInt32 >>> ((8 : Int32) &&& 31).toUInt32).toInt32).toUInt32 >>> ((4 : Int32) &&& 31).toUInt32).toInt32)), .val (.int (1 : Int32))] [(.int (2 : Int32)), (.int ((((((p0.toUInt32 >>> ((16 : Int32) &&& 31).toUInt32).toInt32).toUInt32 >>> ((8 : Int32) &&& 31).toUInt32).toInt32).toUInt32 >>> ((4 : Int32) &&& 31).toUInt32).toInt32))])) t
              refine XS.iushr X0.here hx rfl (hb hby d6_71) rfl ?_
              show Steps p.tables e below (s₁.setTop (mkF m 72 #[.val (.int ((((((p0.toUInt32 >>> ((16 : Int32) &&& 31).toUInt32).toInt32).toUInt32 >>> ((8 : Int32) &&& 31).toUInt32).toInt32).toUInt32 >>> ((4 : Int32) &&& 31).toUInt32).toInt32)), .val (.int (1 : Int32))] [(.int ((((((((p0.toUInt32 >>> ((16 : Int32) &&& 31).toUInt32).toInt32).toUInt32 >>> ((8 : Int32) &&& 31).toUInt32).toInt32).toUInt32 >>> ((4 : Int32) &&& 31).toUInt32).toInt32).toUInt32 >>> ((2 : Int32) &&& 31).toUInt32).toInt32))])) t
              refine XS.istoreN X0.here hx rfl (hb hby d6_72) rfl (l' := #[.val (.int ((((((((p0.toUInt32 >>> ((16 : Int32) &&& 31).toUInt32).toInt32).toUInt32 >>> ((8 : Int32) &&& 31).toUInt32).toInt32).toUInt32 >>> ((4 : Int32) &&& 31).toUInt32).toInt32).toUInt32 >>> ((2 : Int32) &&& 31).toUInt32).toInt32)), .val (.int (1 : Int32))]) rfl ?_
              show Steps p.tables e below (s₁.setTop (mkF m 73 #[.val (.int ((((((((p0.toUInt32 >>> ((16 : Int32) &&& 31).toUInt32).toInt32).toUInt32 >>> ((8 : Int32) &&& 31).toUInt32).toInt32).toUInt32 >>> ((4 : Int32) &&& 31).toUInt32).toInt32).toUInt32 >>> ((2 : Int32) &&& 31).toUInt32).toInt32)), .val (.int (1 : Int32))] [])) t
              refine XS.iloadN X0.here hx rfl (hb hby d6_73) rfl ?_
              show Steps p.tables e below (s₁.setTop (mkF m 74 #[.val (.int ((((((((p0.toUInt32 >>> ((16 : Int32) &&& 31).toUInt32).toInt32).toUInt32 >>> ((8 : Int32) &&& 31).toUInt32).toInt32).toUInt32 >>> ((4 : Int32) &&& 31).toUInt32).toInt32).toUInt32 >>> ((2 : Int32) &&& 31).toUInt32).toInt32)), .val (.int (1 : Int32))] [(.int (1 : Int32))])) t
              refine XS.iloadN X0.here hx rfl (hb hby d6_74) rfl ?_
              show Steps p.tables e below (s₁.setTop (mkF m 75 #[.val (.int ((((((((p0.toUInt32 >>> ((16 : Int32) &&& 31).toUInt32).toInt32).toUInt32 >>> ((8 : Int32) &&& 31).toUInt32).toInt32).toUInt32 >>> ((4 : Int32) &&& 31).toUInt32).toInt32).toUInt32 >>> ((2 : Int32) &&& 31).toUInt32).toInt32)), .val (.int (1 : Int32))] [(.int ((((((((p0.toUInt32 >>> ((16 : Int32) &&& 31).toUInt32).toInt32).toUInt32 >>> ((8 : Int32) &&& 31).toUInt32).toInt32).toUInt32 >>> ((4 : Int32) &&& 31).toUInt32).toInt32).toUInt32 >>> ((2 : Int32) &&& 31).toUInt32).toInt32)), (.int (1 : Int32))])) t
              refine XS.iconst X0.here hx rfl (hb hby d6_75) ?_
              show Steps p.tables e below (s₁.setTop (mkF m 76 #[.val (.int ((((((((p0.toUInt32 >>> ((16 : Int32) &&& 31).toUInt32).toInt32).toUInt32 >>> ((8 : Int32) &&& 31).toUInt32).toInt32).toUInt32 >>> ((4 : Int32) &&& 31).toUInt32).toInt32).toUInt32 >>> ((2 : Int32) &&& 31).toUInt32).toInt32)), .val (.int (1 : Int32))] [(.int (1 : Int32)), (.int ((((((((p0.toUInt32 >>> ((16 : Int32) &&& 31).toUInt32).toInt32).toUInt32 >>> ((8 : Int32) &&& 31).toUInt32).toInt32).toUInt32 >>> ((4 : Int32) &&& 31).toUInt32).toInt32).toUInt32 >>> ((2 : Int32) &&& 31).toUInt32).toInt32)), (.int (1 : Int32))])) t
              refine XS.iushr X0.here hx rfl (hb hby d6_76) rfl ?_
              show Steps p.tables e below (s₁.setTop (mkF m 77 #[.val (.int ((((((((p0.toUInt32 >>> ((16 : Int32) &&& 31).toUInt32).toInt32).toUInt32 >>> ((8 : Int32) &&& 31).toUInt32).toInt32).toUInt32 >>> ((4 : Int32) &&& 31).toUInt32).toInt32).toUInt32 >>> ((2 : Int32) &&& 31).toUInt32).toInt32)), .val (.int (1 : Int32))] [(.int ((((((((((p0.toUInt32 >>> ((16 : Int32) &&& 31).toUInt32).toInt32).toUInt32 >>> ((8 : Int32) &&& 31).toUInt32).toInt32).toUInt32 >>> ((4 : Int32) &&& 31).toUInt32).toInt32).toUInt32 >>> ((2 : Int32) &&& 31).toUInt32).toInt32).toUInt32 >>> ((1 : Int32) &&& 31).toUInt32).toInt32)), (.int (1 : Int32))])) t
              refine XS.isub X0.here hx rfl (hb hby d6_77) rfl ?_
              exact kt
            refine OGo.retI X0 hx hlk hret (hb hby d6_78) ?_ (by decide) (by decide)
            exact ⟨(by rw [f6, if_pos hc1, if_neg hc22, if_neg hc37, if_neg hc51, if_neg hc63]), N0, e0⟩
  · refine OGo.step (F' := s₁.setTop (mkF m 4 #[.val (.int p0), .unset] [])) (fun t kt => ?_) ?_
    · show Steps p.tables e below (s₁.setTop (mkF m 1 #[.val (.int p0), .unset] [(.int p0)])) t
      refine XS.ifNo X0.here hx rfl (hb hby d6_1) rfl ((if0 _ _).trans (flt hc1).2.2.1) ?_
      exact kt
    refine OGo.step (F' := s₁.setTop (mkF m 5 #[.val (.int p0), .unset] [(.int p0)])) (fun t kt => ?_) ?_
    · show Steps p.tables e below (s₁.setTop (mkF m 4 #[.val (.int p0), .unset] [])) t
      refine XS.iloadN X0.here hx rfl (hb hby d6_4) rfl ?_
      exact kt
    by_cases hc5 : p0 = (0 : Int32)
    · refine OGo.step (F' := s₁.setTop (mkF m 8 #[.val (.int p0), .unset] [])) (fun t kt => ?_) ?_
      · show Steps p.tables e below (s₁.setTop (mkF m 5 #[.val (.int p0), .unset] [(.int p0)])) t
        refine XS.ifNo X0.here hx rfl (hb hby d6_5) rfl ((if0 _ _).trans (teq hc5).2) ?_
        exact kt
      refine OGo.step (F' := s₁.setTop (mkF m 14 #[.val (.int p0), .unset] [(.int (32 : Int32))])) (fun t kt => ?_) ?_
      · show Steps p.tables e below (s₁.setTop (mkF m 8 #[.val (.int p0), .unset] [])) t
        refine XS.bipush X0.here hx rfl (hb hby d6_8) ?_
        show Steps p.tables e below (s₁.setTop (mkF m 10 #[.val (.int p0), .unset] [(.int (32 : Int32))])) t
        refine XS.goto X0.here hx rfl (pc0 := 10) (pc' := 14) rfl (hb hby d6_10) (by decide) (by decide) ?_
        exact kt
      refine OGo.retI X0 hx hlk hret (hb hby d6_14) ?_ (by decide) (by decide)
      exact ⟨(by rw [f6, if_neg hc1, if_pos hc5]), N0, e0⟩
    · refine OGo.step (F' := s₁.setTop (mkF m 13 #[.val (.int p0), .unset] [])) (fun t kt => ?_) ?_
      · show Steps p.tables e below (s₁.setTop (mkF m 5 #[.val (.int p0), .unset] [(.int p0)])) t
        refine XS.ifYes X0.here hx rfl (pc0 := 5) (pc' := 13) rfl (hb hby d6_5) rfl ((if0 _ _).trans (feq hc5).2) (by decide) (by decide) ?_
        exact kt
      refine OGo.step (F' := s₁.setTop (mkF m 14 #[.val (.int p0), .unset] [(.int (0 : Int32))])) (fun t kt => ?_) ?_
      · show Steps p.tables e below (s₁.setTop (mkF m 13 #[.val (.int p0), .unset] [])) t
        refine XS.iconst X0.here hx rfl (hb hby d6_13) ?_
        exact kt
      refine OGo.retI X0 hx hlk hret (hb hby d6_14) ?_ (by decide) (by decide)
      exact ⟨(by rw [f6, if_neg hc1, if_neg hc5]), N0, e0⟩
/-! body 5: java/lang/Integer.highestOneBit:(I)I -/
theorem d5_0 : decode jdk_33_method_45_code 0 = .ok (.iload_n 0, 1) := by decide +kernel
theorem d5_1 : decode jdk_33_method_45_code 1 = .ok (.ldc 127, 2) := by decide +kernel
theorem d5_3 : decode jdk_33_method_45_code 3 = .ok (.iload_n 0, 1) := by decide +kernel
theorem d5_4 : decode jdk_33_method_45_code 4 = .ok (.invokestatic 51, 3) := by decide +kernel
theorem d5_7 : decode jdk_33_method_45_code 7 = .ok (.iushr, 1) := by decide +kernel
theorem d5_8 : decode jdk_33_method_45_code 8 = .ok (.iand, 1) := by decide +kernel
theorem d5_9 : decode jdk_33_method_45_code 9 = .ok (.ireturn, 1) := by decide +kernel
theorem pn_5 : plainName "java/lang/Integer" = true := by first | (simp [plainName, overriddenIn]; done) | decide +kernel
theorem pd_5_0 : parseMethodDescriptor "(I)I" = some ⟨[.int], some .int⟩ := by decide +kernel
theorem ef_5 (m : MethodId) (x0 : Int32) : entryFrame m #[(.int x0)] 1 = mkF m 0 #[.val (.int x0)] [] := by first | (simp [entryFrame, mkF, argsToLocals, Value.category]; done) | rfl
def f5 (p0 : Int32) : Int32 :=
  (p0 &&& (((-2147483648 : Int32).toUInt32 >>> ((f6 p0) &&& 31).toUInt32).toInt32))
set_option maxRecDepth 65536 in
set_option maxHeartbeats 40000000 in
theorem rm5 (l : Launch) (Z : State) (az : Array Value) (hw : ∀ d ∈ tables_1, d.before az Z = true) (ws : List Jvm.Cond) (p0 : Int32) (h0 : Heap) (n0 : Nat) (Z0 : n0 ≤ h0.size) :
    OCtr l Z (⟨"java/lang/Integer", "highestOneBit", "(I)I"⟩ : MethodName) jdk_33_method_45_code 1 (some .int) ws ({ frames := 1, cells := 0, slots := 0, locals := 15 } : Room) #[(.int p0)] h0 (OPure (some (.int (f5 p0))) h0 n0) := by
  refine OCtr.of (plainFor_of_name pn_5) ?_
  intro p e s m below meth c s₁ X0 hx hlk hZ hown0 hnm hby hml0 hret e0
  have hown : s.vm.findClass "java/lang/Integer" = some m.cls := hown0
  have hml : c.maxLocals = 1 := hml0
  have N0 := Fr.nil n0
  refine OGo.step (fun t k => castTop (ef_5 m p0) k) ?_
  refine OGo.step (F' := s₁.setTop (mkF m 4 #[.val (.int p0)] [(.int p0), (.int (-2147483648 : Int32)), (.int p0)])) (fun t kt => ?_) ?_
  · show Steps p.tables e below (s₁.setTop (mkF m 0 #[.val (.int p0)] [])) t
    refine XS.iloadN X0.here hx rfl (hb hby d5_0) rfl ?_
    show Steps p.tables e below (s₁.setTop (mkF m 1 #[.val (.int p0)] [(.int p0)])) t
    refine X0.ldcInt hx hown (mvT hZ (own_wd hw 30 rfl)) (g := (mkF m 1 #[.val (.int p0)] [(.int p0)])) rfl (hb hby d5_1) _ ?_
    show Steps p.tables e below (s₁.setTop (mkF m 3 #[.val (.int p0)] [(.int (-2147483648 : Int32)), (.int p0)])) t
    refine XS.iloadN X0.here hx rfl (hb hby d5_3) rfl ?_
    exact kt
  refine OGo.callS X0 hx hZ (y := (⟨"java/lang/Integer", "numberOfLeadingZeros", "(I)I"⟩ : MethodName)) hown (own_wd hw 31 rfl) (own_wd hw 32 rfl) (own_wd hw 28 rfl) (own_wd hw 33 rfl) (by decide) (rm6 l Z az hw [] p0 h0 n0 Z0) (W := 2) (by decide) (by decide) (g := (mkF m 4 #[.val (.int p0)] [(.int p0), (.int (-2147483648 : Int32)), (.int p0)])) rfl (by rw [hml]; rfl) (argsL := [(.int p0)]) (rest := [(.int (-2147483648 : Int32)), (.int p0)]) (lenOf pd_5_0 rfl) rfl (by show 2 * 0 + _ ≤ _; exact Nat.le_of_eq rfl) (hb hby d5_4) rfl e0 (by decide) (by decide) ?_
  rintro _ T1 L1 X1 ⟨rfl, Nq1, e1⟩
  have N1 := Fr.app N0 Nq1
  show OGo _ _ _ _ _ _ _ (T1.setTop (mkF m 7 #[.val (.int p0)] [(.int (f6 p0)), (.int (-2147483648 : Int32)), (.int p0)]))
  refine OGo.step (F' := T1.setTop (mkF m 9 #[.val (.int p0)] [(.int (p0 &&& (((-2147483648 : Int32).toUInt32 >>> ((f6 p0) &&& 31).toUInt32).toInt32)))])) (fun t kt => ?_) ?_
  · show Steps p.tables e below (T1.setTop (mkF m 7 #[.val (.int p0)] [(.int (f6 p0)), (.int (-2147483648 : Int32)), (.int p0)])) t
    refine XS.iushr X1.here hx rfl (hb hby d5_7) rfl ?_
    show Steps p.tables e below (T1.setTop (mkF m 8 #[.val (.int p0)] [(.int (((-2147483648 : Int32).toUInt32 >>> ((f6 p0) &&& 31).toUInt32).toInt32)), (.int p0)])) t
    refine XS.iand X1.here hx rfl (hb hby d5_8) rfl ?_
    exact kt
  refine OGo.retI X1 hx hlk hret (hb hby d5_9) ?_ (by decide) (by decide)
  exact ⟨(by rw [f5]), N1, e1⟩
/-! body 7: java/lang/Math.max:(II)I -/
theorem d7_0 : decode jdk_29_method_65_code 0 = .ok (.iload_n 0, 1) := by decide +kernel
theorem d7_1 : decode jdk_29_method_65_code 1 = .ok (.iload_n 1, 1) := by decide +kernel
theorem d7_2 : decode jdk_29_method_65_code 2 = .ok (.if_icmp .lt 7, 3) := by decide +kernel
theorem d7_5 : decode jdk_29_method_65_code 5 = .ok (.iload_n 0, 1) := by decide +kernel
theorem d7_6 : decode jdk_29_method_65_code 6 = .ok (.goto 4, 3) := by decide +kernel
theorem d7_9 : decode jdk_29_method_65_code 9 = .ok (.iload_n 1, 1) := by decide +kernel
theorem d7_10 : decode jdk_29_method_65_code 10 = .ok (.ireturn, 1) := by decide +kernel
theorem ef_7 (m : MethodId) (x0 : Int32) (x1 : Int32) : entryFrame m #[(.int x0), (.int x1)] 2 = mkF m 0 #[.val (.int x0), .val (.int x1)] [] := by first | (simp [entryFrame, mkF, argsToLocals, Value.category]; done) | rfl
def f7 (p0 : Int32) (p1 : Int32) : Int32 :=
  if p0 < p1 then p1
  else p0
set_option maxRecDepth 65536 in
set_option maxHeartbeats 40000000 in
theorem rm7 (l : Launch) (Z : State) (az : Array Value) (hw : ∀ d ∈ tables_1, d.before az Z = true) (ws : List Jvm.Cond) (p0 : Int32) (p1 : Int32) (h0 : Heap) (n0 : Nat) (Z0 : n0 ≤ h0.size) :
    OCtr l Z (⟨"java/lang/Math", "max", "(II)I"⟩ : MethodName) jdk_29_method_65_code 2 (some .int) ws ({ frames := 0, cells := 0, slots := 0, locals := 0 } : Room) #[(.int p0), (.int p1)] h0 (OPure (some (.int (f7 p0 p1))) h0 n0) := by
  refine OCtr.of (Jvm.Free.JP.mathPlain rfl (by decide +kernel)) ?_
  intro p e s m below meth c s₁ X0 hx hlk hZ hown0 hnm hby hml0 hret e0
  have hown : s.vm.findClass "java/lang/Math" = some m.cls := hown0
  have hml : c.maxLocals = 2 := hml0
  have N0 := Fr.nil n0
  refine OGo.step (fun t k => castTop (ef_7 m p0 p1) k) ?_
  refine OGo.step (F' := s₁.setTop (mkF m 2 #[.val (.int p0), .val (.int p1)] [(.int p1), (.int p0)])) (fun t kt => ?_) ?_
  · show Steps p.tables e below (s₁.setTop (mkF m 0 #[.val (.int p0), .val (.int p1)] [])) t
    refine XS.iloadN X0.here hx rfl (hb hby d7_0) rfl ?_
    show Steps p.tables e below (s₁.setTop (mkF m 1 #[.val (.int p0), .val (.int p1)] [(.int p0)])) t
    refine XS.iloadN X0.here hx rfl (hb hby d7_1) rfl ?_
    exact kt
  by_cases hc2 : p0 < p1
  · refine OGo.step (F' := s₁.setTop (mkF m 9 #[.val (.int p0), .val (.int p1)] [])) (fun t kt => ?_) ?_
    · show Steps p.tables e below (s₁.setTop (mkF m 2 #[.val (.int p0), .val (.int p1)] [(.int p1), (.int p0)])) t
      refine XS.icmpYes X0.here hx rfl (pc0 := 2) (pc' := 9) rfl (hb hby d7_2) rfl (tlt hc2).1 (by decide) (by decide) ?_
      exact kt
    refine OGo.step (F' := s₁.setTop (mkF m 10 #[.val (.int p0), .val (.int p1)] [(.int p1)])) (fun t kt => ?_) ?_
    · show Steps p.tables e below (s₁.setTop (mkF m 9 #[.val (.int p0), .val (.int p1)] [])) t
      refine XS.iloadN X0.here hx rfl (hb hby d7_9) rfl ?_
      exact kt
    refine OGo.retI X0 hx hlk hret (hb hby d7_10) ?_ (by decide) (by decide)
    exact ⟨(by rw [f7, if_pos hc2]), N0, e0⟩
  · refine OGo.step (F' := s₁.setTop (mkF m 5 #[.val (.int p0), .val (.int p1)] [])) (fun t kt => ?_) ?_
    · show Steps p.tables e below (s₁.setTop (mkF m 2 #[.val (.int p0), .val (.int p1)] [(.int p1), (.int p0)])) t
      refine XS.icmpNo X0.here hx rfl (hb hby d7_2) rfl (flt hc2).1 ?_
      exact kt
    refine OGo.step (F' := s₁.setTop (mkF m 10 #[.val (.int p0), .val (.int p1)] [(.int p0)])) (fun t kt => ?_) ?_
    · show Steps p.tables e below (s₁.setTop (mkF m 5 #[.val (.int p0), .val (.int p1)] [])) t
      refine XS.iloadN X0.here hx rfl (hb hby d7_5) rfl ?_
      show Steps p.tables e below (s₁.setTop (mkF m 6 #[.val (.int p0), .val (.int p1)] [(.int p0)])) t
      refine XS.goto X0.here hx rfl (pc0 := 6) (pc' := 10) rfl (hb hby d7_6) (by decide) (by decide) ?_
      exact kt
    refine OGo.retI X0 hx hlk hret (hb hby d7_10) ?_ (by decide) (by decide)
    exact ⟨(by rw [f7, if_neg hc2]), N0, e0⟩
/-! body 9: com/example/kursor/kursor/storage/table/FreeSpaceFirstPinLaw.pick:(IZI)I -/
theorem d9_0 : decode method_2_code 0 = .ok (.iload_n 1, 1) := by decide +kernel
theorem d9_1 : decode method_2_code 1 = .ok (.ifCond .ne 5, 3) := by decide +kernel
theorem d9_4 : decode method_2_code 4 = .ok (.iload_n 0, 1) := by decide +kernel
theorem d9_5 : decode method_2_code 5 = .ok (.ireturn, 1) := by decide +kernel
theorem d9_6 : decode method_2_code 6 = .ok (.iload_n 0, 1) := by decide +kernel
theorem d9_7 : decode method_2_code 7 = .ok (.ifCond .eq 8, 3) := by decide +kernel
theorem d9_10 : decode method_2_code 10 = .ok (.iload_n 2, 1) := by decide +kernel
theorem d9_11 : decode method_2_code 11 = .ok (.iload_n 0, 1) := by decide +kernel
theorem d9_12 : decode method_2_code 12 = .ok (.if_icmp .ge 5, 3) := by decide +kernel
theorem d9_15 : decode method_2_code 15 = .ok (.iload_n 2, 1) := by decide +kernel
theorem d9_16 : decode method_2_code 16 = .ok (.ireturn, 1) := by decide +kernel
theorem d9_17 : decode method_2_code 17 = .ok (.iload_n 0, 1) := by decide +kernel
theorem d9_18 : decode method_2_code 18 = .ok (.ireturn, 1) := by decide +kernel
theorem pn_9 : plainName "com/example/kursor/kursor/storage/table/FreeSpaceFirstPinLaw" = true := by first | (simp [plainName, overriddenIn]; done) | decide +kernel
theorem ef_9 (m : MethodId) (x0 : Int32) (x1 : Int32) (x2 : Int32) : entryFrame m #[(.int x0), (.int x1), (.int x2)] 3 = mkF m 0 #[.val (.int x0), .val (.int x1), .val (.int x2)] [] := by first | (simp [entryFrame, mkF, argsToLocals, Value.category]; done) | rfl
def f9 (p0 : Int32) (p1 : Int32) (p2 : Int32) : Int32 :=
  if p1 = (0 : Int32) then p0
  else if p0 = (0 : Int32) then p2
    else if p2 < p0 then p2
      else p0
set_option maxRecDepth 65536 in
set_option maxHeartbeats 40000000 in
theorem rm9 (l : Launch) (Z : State) (az : Array Value) (hw : ∀ d ∈ tables_1, d.before az Z = true) (ws : List Jvm.Cond) (p0 : Int32) (p1 : Int32) (p2 : Int32) (h0 : Heap) (n0 : Nat) (Z0 : n0 ≤ h0.size) :
    OCtr l Z (⟨"com/example/kursor/kursor/storage/table/FreeSpaceFirstPinLaw", "pick", "(IZI)I"⟩ : MethodName) method_2_code 3 (some .int) ws ({ frames := 0, cells := 0, slots := 0, locals := 0 } : Room) #[(.int p0), (.int p1), (.int p2)] h0 (OPure (some (.int (f9 p0 p1 p2))) h0 n0) := by
  refine OCtr.of (plainFor_of_name pn_9) ?_
  intro p e s m below meth c s₁ X0 hx hlk hZ hown0 hnm hby hml0 hret e0
  have hown : s.vm.findClass "com/example/kursor/kursor/storage/table/FreeSpaceFirstPinLaw" = some m.cls := hown0
  have hml : c.maxLocals = 3 := hml0
  have N0 := Fr.nil n0
  refine OGo.step (fun t k => castTop (ef_9 m p0 p1 p2) k) ?_
  refine OGo.step (F' := s₁.setTop (mkF m 1 #[.val (.int p0), .val (.int p1), .val (.int p2)] [(.int p1)])) (fun t kt => ?_) ?_
  · show Steps p.tables e below (s₁.setTop (mkF m 0 #[.val (.int p0), .val (.int p1), .val (.int p2)] [])) t
    refine XS.iloadN X0.here hx rfl (hb hby d9_0) rfl ?_
    exact kt
  by_cases hc1 : p1 = (0 : Int32)
  · refine OGo.step (F' := s₁.setTop (mkF m 4 #[.val (.int p0), .val (.int p1), .val (.int p2)] [])) (fun t kt => ?_) ?_
    · show Steps p.tables e below (s₁.setTop (mkF m 1 #[.val (.int p0), .val (.int p1), .val (.int p2)] [(.int p1)])) t
      refine XS.ifNo X0.here hx rfl (hb hby d9_1) rfl ((if0 _ _).trans (teq hc1).2) ?_
      exact kt
    refine OGo.step (F' := s₁.setTop (mkF m 5 #[.val (.int p0), .val (.int p1), .val (.int p2)] [(.int p0)])) (fun t kt => ?_) ?_
    · show Steps p.tables e below (s₁.setTop (mkF m 4 #[.val (.int p0), .val (.int p1), .val (.int p2)] [])) t
      refine XS.iloadN X0.here hx rfl (hb hby d9_4) rfl ?_
      exact kt
    refine OGo.retI X0 hx hlk hret (hb hby d9_5) ?_ (by decide) (by decide)
    exact ⟨(by rw [f9, if_pos hc1]), N0, e0⟩
  · refine OGo.step (F' := s₁.setTop (mkF m 6 #[.val (.int p0), .val (.int p1), .val (.int p2)] [])) (fun t kt => ?_) ?_
    · show Steps p.tables e below (s₁.setTop (mkF m 1 #[.val (.int p0), .val (.int p1), .val (.int p2)] [(.int p1)])) t
      refine XS.ifYes X0.here hx rfl (pc0 := 1) (pc' := 6) rfl (hb hby d9_1) rfl ((if0 _ _).trans (feq hc1).2) (by decide) (by decide) ?_
      exact kt
    refine OGo.step (F' := s₁.setTop (mkF m 7 #[.val (.int p0), .val (.int p1), .val (.int p2)] [(.int p0)])) (fun t kt => ?_) ?_
    · show Steps p.tables e below (s₁.setTop (mkF m 6 #[.val (.int p0), .val (.int p1), .val (.int p2)] [])) t
      refine XS.iloadN X0.here hx rfl (hb hby d9_6) rfl ?_
      exact kt
    by_cases hc7 : p0 = (0 : Int32)
    · refine OGo.step (F' := s₁.setTop (mkF m 15 #[.val (.int p0), .val (.int p1), .val (.int p2)] [])) (fun t kt => ?_) ?_
      · show Steps p.tables e below (s₁.setTop (mkF m 7 #[.val (.int p0), .val (.int p1), .val (.int p2)] [(.int p0)])) t
        refine XS.ifYes X0.here hx rfl (pc0 := 7) (pc' := 15) rfl (hb hby d9_7) rfl ((if0 _ _).trans (teq hc7).1) (by decide) (by decide) ?_
        exact kt
      refine OGo.step (F' := s₁.setTop (mkF m 16 #[.val (.int p0), .val (.int p1), .val (.int p2)] [(.int p2)])) (fun t kt => ?_) ?_
      · show Steps p.tables e below (s₁.setTop (mkF m 15 #[.val (.int p0), .val (.int p1), .val (.int p2)] [])) t
        refine XS.iloadN X0.here hx rfl (hb hby d9_15) rfl ?_
        exact kt
      refine OGo.retI X0 hx hlk hret (hb hby d9_16) ?_ (by decide) (by decide)
      exact ⟨(by rw [f9, if_neg hc1, if_pos hc7]), N0, e0⟩
    · refine OGo.step (F' := s₁.setTop (mkF m 10 #[.val (.int p0), .val (.int p1), .val (.int p2)] [])) (fun t kt => ?_) ?_
      · show Steps p.tables e below (s₁.setTop (mkF m 7 #[.val (.int p0), .val (.int p1), .val (.int p2)] [(.int p0)])) t
        refine XS.ifNo X0.here hx rfl (hb hby d9_7) rfl ((if0 _ _).trans (feq hc7).1) ?_
        exact kt
      refine OGo.step (F' := s₁.setTop (mkF m 12 #[.val (.int p0), .val (.int p1), .val (.int p2)] [(.int p0), (.int p2)])) (fun t kt => ?_) ?_
      · show Steps p.tables e below (s₁.setTop (mkF m 10 #[.val (.int p0), .val (.int p1), .val (.int p2)] [])) t
        refine XS.iloadN X0.here hx rfl (hb hby d9_10) rfl ?_
        show Steps p.tables e below (s₁.setTop (mkF m 11 #[.val (.int p0), .val (.int p1), .val (.int p2)] [(.int p2)])) t
        refine XS.iloadN X0.here hx rfl (hb hby d9_11) rfl ?_
        exact kt
      by_cases hc12 : p2 < p0
      · refine OGo.step (F' := s₁.setTop (mkF m 15 #[.val (.int p0), .val (.int p1), .val (.int p2)] [])) (fun t kt => ?_) ?_
        · show Steps p.tables e below (s₁.setTop (mkF m 12 #[.val (.int p0), .val (.int p1), .val (.int p2)] [(.int p0), (.int p2)])) t
          refine XS.icmpNo X0.here hx rfl (hb hby d9_12) rfl (tlt hc12).2.1 ?_
          exact kt
        refine OGo.step (F' := s₁.setTop (mkF m 16 #[.val (.int p0), .val (.int p1), .val (.int p2)] [(.int p2)])) (fun t kt => ?_) ?_
        · show Steps p.tables e below (s₁.setTop (mkF m 15 #[.val (.int p0), .val (.int p1), .val (.int p2)] [])) t
          refine XS.iloadN X0.here hx rfl (hb hby d9_15) rfl ?_
          exact kt
        refine OGo.retI X0 hx hlk hret (hb hby d9_16) ?_ (by decide) (by decide)
        exact ⟨(by rw [f9, if_neg hc1, if_neg hc7, if_pos hc12]), N0, e0⟩
      · refine OGo.step (F' := s₁.setTop (mkF m 17 #[.val (.int p0), .val (.int p1), .val (.int p2)] [])) (fun t kt => ?_) ?_
        · show Steps p.tables e below (s₁.setTop (mkF m 12 #[.val (.int p0), .val (.int p1), .val (.int p2)] [(.int p0), (.int p2)])) t
          refine XS.icmpYes X0.here hx rfl (pc0 := 12) (pc' := 17) rfl (hb hby d9_12) rfl (flt hc12).2.1 (by decide) (by decide) ?_
          exact kt
        refine OGo.step (F' := s₁.setTop (mkF m 18 #[.val (.int p0), .val (.int p1), .val (.int p2)] [(.int p0)])) (fun t kt => ?_) ?_
        · show Steps p.tables e below (s₁.setTop (mkF m 17 #[.val (.int p0), .val (.int p1), .val (.int p2)] [])) t
          refine XS.iloadN X0.here hx rfl (hb hby d9_17) rfl ?_
          exact kt
        refine OGo.retI X0 hx hlk hret (hb hby d9_18) ?_ (by decide) (by decide)
        exact ⟨(by rw [f9, if_neg hc1, if_neg hc7, if_neg hc12]), N0, e0⟩
/-! plain: the tree -/
def own_upd (g : Nat → Int32) (i : Nat) (v : Int32) : Nat → Int32 := fun j => if j = i then v else g j
def own_ch (x : Int32) : Int32 := nar .char (x.toUInt32.toUInt16.toUInt32.toInt32)
def own_mx (a b : Int32) : Int32 := own_ch (f7 a b)
def own_cr (x : Int32) : Prop := 0 ≤ x.toInt ∧ x.toInt ≤ 65535
theorem own_chi (x : Int32) : own_cr (own_ch x) ∧ (own_cr x → own_ch x = x) := by
  have e : own_ch x = x.toUInt32.toUInt16.toUInt32.toInt32 := own_narc x
  rw [e]
  have a := c_i2c x
  unfold own_cr
  refine ⟨by omega, fun h => ?_⟩
  rw [← Int32.toInt_inj]; omega
theorem own_mxv (a b : Int32) (ha : own_cr a) (hb : own_cr b) : (own_mx a b).toInt = if a.toInt < b.toInt then b.toInt else a.toInt := by
  unfold own_mx f7
  by_cases h : a < b
  · rw [if_pos h, (own_chi b).2 hb, if_pos (Int32.lt_iff_toInt_lt.mp h)]
  · rw [if_neg h, (own_chi a).2 ha, if_neg (fun q => h (Int32.lt_iff_toInt_lt.mpr q))]
/-- the way up -/
def own_up : Nat → Nat → (Nat → Int32) → (Nat → Int32)
  | 0, _, g => g
  | k + 1, N, g => if N = 0 then g else own_up k (N / 2) (own_upd g N (own_mx (g (2 * N)) (g (2 * N + 1))))
/-- the way down -/
def own_dn : Nat → (Nat → Int32) → (Nat → Int32)
  | 0, g => g
  | k + 1, g => own_dn k (own_upd g (k + 1) (own_mx (g (2 * (k + 1))) (g (2 * (k + 1) + 1))))
def own_cp (L G : Nat) (g : Nat → Int32) : Nat → Int32 := fun i => if G ≤ i ∧ i < G + L then g (L + (i - G)) else 0
def own_pw (L : Nat) : Prop := L = 1 ∨ L = 2 ∨ L = 4 ∨ L = 8 ∨ L = 16 ∨ L = 32 ∨ L = 64 ∨ L = 128
/-- a tree that holds: L leaves, the rooms rm -/
def own_val (L : Nat) (g rm : Nat → Int32) : Prop :=
  own_pw L ∧ (∀ n, 1 ≤ n → n < L → g n = own_mx (g (2 * n)) (g (2 * n + 1))) ∧ (∀ q, q < L → g (L + q) = rm q) ∧ (∀ q, L ≤ q → rm q = 0) ∧ (∀ i, own_cr (g i))
theorem own_updr {g : Nat → Int32} (h : ∀ i, own_cr (g i)) (i : Nat) {v : Int32} (hv : own_cr v) : ∀ j, own_cr (own_upd g i v j) := fun j => by
  unfold own_upd; split
  · exact hv
  · exact h j
theorem own_mxr (a b : Int32) : own_cr (own_mx a b) := (own_chi _).1
theorem own_upv : ∀ (k N L : Nat) (g rm : Nat → Int32), own_pw L → N < 2 ^ k → N < L → (∀ n, 1 ≤ n → n < L → (∀ e, n ≠ N / 2 ^ e) → g n = own_mx (g (2 * n)) (g (2 * n + 1))) → (∀ q, q < L → g (L + q) = rm q) → (∀ q, L ≤ q → rm q = 0) → (∀ i, own_cr (g i)) → own_val L (own_up k N g) rm
  | 0, N, L, g, rm, hL, hk, hN, h1, h2, h3, h4 => by
    refine ⟨hL, fun n a b => h1 n a b fun e => ?_, h2, h3, h4⟩
    have : N = 0 := by simpa using hk
    rw [this, Nat.zero_div]; omega
  | k + 1, N, L, g, rm, hL, hk, hN, h1, h2, h3, h4 => by
    show own_val L (if N = 0 then g else own_up k (N / 2) (own_upd g N (own_mx (g (2 * N)) (g (2 * N + 1))))) rm
    by_cases z : N = 0
    · rw [if_pos z]
      refine ⟨hL, fun n a b => h1 n a b fun e => ?_, h2, h3, h4⟩
      rw [z, Nat.zero_div]; omega
    · rw [if_neg z]
      refine own_upv k (N / 2) L _ rm hL (by rw [Nat.pow_succ] at hk; omega) (by omega) (fun n a b ne => ?_) (fun q hq => ?_) h3 (own_updr h4 N (own_mxr _ _))
      · by_cases u : n = N
        · subst u
          have e1 : own_upd g n (own_mx (g (2 * n)) (g (2 * n + 1))) n = own_mx (g (2 * n)) (g (2 * n + 1)) := if_pos rfl
          have e2 : own_upd g n (own_mx (g (2 * n)) (g (2 * n + 1))) (2 * n) = g (2 * n) := if_neg (by omega)
          have e3 : own_upd g n (own_mx (g (2 * n)) (g (2 * n + 1))) (2 * n + 1) = g (2 * n + 1) := if_neg (by omega)
          rw [e1, e2, e3]
        · have v : n ≠ N / 2 := by have := ne 0; simpa using this
          have e1 : own_upd g N (own_mx (g (2 * N)) (g (2 * N + 1))) n = g n := if_neg u
          have e2 : own_upd g N (own_mx (g (2 * N)) (g (2 * N + 1))) (2 * n) = g (2 * n) := if_neg (by omega)
          have e3 : own_upd g N (own_mx (g (2 * N)) (g (2 * N + 1))) (2 * n + 1) = g (2 * n + 1) := if_neg (by omega)
          rw [e1, e2, e3]
          refine h1 n a b fun e => ?_
          cases e with
          | zero => simpa using u
          | succ e => rw [Nat.pow_succ, Nat.mul_comm, ← Nat.div_div_eq_div_mul]; exact ne e
      · have : own_upd g N (own_mx (g (2 * N)) (g (2 * N + 1))) (L + q) = g (L + q) := if_neg (by omega)
        rw [this]; exact h2 q hq
/-- set, once the page has its leaf -/
theorem own_setv (L : Nat) (g rm : Nat → Int32) (V : own_val L g rm) (P : Nat) (hP : P < L) (x : Int32) : own_val L (own_up 8 ((L + P) / 2) (own_upd g (L + P) (own_ch x))) (own_upd rm P (own_ch x)) := by
  obtain ⟨hL, h1, h2, h3, h4⟩ := V
  have hl : L ≤ 128 := by rcases hL with h | h | h | h | h | h | h | h <;> omega
  refine own_upv 8 ((L + P) / 2) L _ _ hL (by show _ < 256; omega) (by omega) (fun n a b ne => ?_) (fun q hq => ?_) (fun q hq => ?_) (own_updr h4 _ (own_chi _).1)
  · have v : n ≠ (L + P) / 2 := by have := ne 0; simpa using this
    have e1 : own_upd g (L + P) (own_ch x) n = g n := if_neg (by omega)
    have e2 : own_upd g (L + P) (own_ch x) (2 * n) = g (2 * n) := if_neg (by omega)
    have e3 : own_upd g (L + P) (own_ch x) (2 * n + 1) = g (2 * n + 1) := if_neg (by omega)
    rw [e1, e2, e3]; exact h1 n a b
  · by_cases u : q = P
    · subst u
      rw [show own_upd g (L + q) (own_ch x) (L + q) = own_ch x from if_pos rfl, show own_upd rm q (own_ch x) q = own_ch x from if_pos rfl]
    · rw [show own_upd g (L + P) (own_ch x) (L + q) = g (L + q) from if_neg (by omega), show own_upd rm P (own_ch x) q = rm q from if_neg u]; exact h2 q hq
  · rw [show own_upd rm P (own_ch x) q = rm q from if_neg (by omega)]; exact h3 q hq
theorem own_dnv : ∀ (k L : Nat) (g rm : Nat → Int32), own_pw L → k < L → (∀ n, k < n → n < L → g n = own_mx (g (2 * n)) (g (2 * n + 1))) → (∀ q, q < L → g (L + q) = rm q) → (∀ q, L ≤ q → rm q = 0) → (∀ i, own_cr (g i)) → own_val L (own_dn k g) rm
  | 0, L, g, rm, hL, hk, h1, h2, h3, h4 => ⟨hL, fun n a b => h1 n a b, h2, h3, h4⟩
  | k + 1, L, g, rm, hL, hk, h1, h2, h3, h4 => by
    show own_val L (own_dn k (own_upd g (k + 1) (own_mx (g (2 * (k + 1))) (g (2 * (k + 1) + 1))))) rm
    refine own_dnv k L _ rm hL (by omega) (fun n a b => ?_) (fun q hq => ?_) h3 (own_updr h4 _ (own_mxr _ _))
    · have e2 : own_upd g (k + 1) (own_mx (g (2 * (k + 1))) (g (2 * (k + 1) + 1))) (2 * n) = g (2 * n) := if_neg (by omega)
      have e3 : own_upd g (k + 1) (own_mx (g (2 * (k + 1))) (g (2 * (k + 1) + 1))) (2 * n + 1) = g (2 * n + 1) := if_neg (by omega)
      rw [e2, e3]
      by_cases u : n = k + 1
      · subst u; exact if_pos rfl
      · rw [show own_upd g (k + 1) (own_mx (g (2 * (k + 1))) (g (2 * (k + 1) + 1))) n = g n from if_neg u]; exact h1 n (by omega) b
    · rw [show own_upd g (k + 1) (own_mx (g (2 * (k + 1))) (g (2 * (k + 1) + 1))) (L + q) = g (L + q) from if_neg (by omega)]; exact h2 q hq
theorem own_growv (L G : Nat) (g rm : Nat → Int32) (V : own_val L g rm) (hG : own_pw G) (hLG : L ≤ G) : own_val G (own_dn (G - 1) (own_cp L G g)) rm := by
  obtain ⟨hL, h1, h2, h3, h4⟩ := V
  have g1 : 1 ≤ G := by rcases hG with h | h | h | h | h | h | h | h <;> omega
  refine own_dnv (G - 1) G _ rm hG (by omega) (fun n a b => by omega) (fun q hq => ?_) (fun q hq => h3 q (by omega)) (fun i => ?_)
  · by_cases u : q < L
    · rw [show own_cp L G g (G + q) = g (L + (G + q - G)) from if_pos (by omega), show G + q - G = q by omega]; exact h2 q u
    · rw [show own_cp L G g (G + q) = 0 from if_neg (by omega), h3 q (by omega)]
  · unfold own_cp; split
    · exact h4 _
    · exact ⟨by decide, by decide⟩
theorem own_cr0 : own_cr (0 : Int32) := ⟨by decide, by decide⟩
theorem own_val0 : own_val 1 (fun _ => 0) (fun _ => 0) := ⟨Or.inl rfl, fun n a b => by omega, fun _ _ => rfl, fun _ _ => rfl, fun _ => own_cr0⟩
/-- the node n covers 2^e leaves -/
def own_cov (L e n : Nat) : Prop := L ≤ n * 2 ^ e ∧ (n + 1) * 2 ^ e ≤ 2 * L
theorem own_mxl (L : Nat) (g rm : Nat → Int32) (V : own_val L g rm) : ∀ (e n i : Nat), own_cov L e n → n * 2 ^ e ≤ i → i < (n + 1) * 2 ^ e → (g i).toInt ≤ (g n).toInt
  | 0, n, i, hc, a, b => by
    rw [show i = n by simp at a b; omega]; exact Int.le_refl _
  | e + 1, n, i, ⟨c1, c2⟩, a, b => by
    obtain ⟨hL, h1, h2, h3, h4⟩ := V
    have pe : 1 ≤ 2 ^ e := Nat.one_le_two_pow
    have x0 : n * 2 ^ (e + 1) = 2 * n * 2 ^ e := by rw [Nat.pow_succ, Nat.mul_comm (2 ^ e) 2, ← Nat.mul_assoc, Nat.mul_comm n 2]
    have x2 : (n + 1) * 2 ^ (e + 1) = (2 * n + 1 + 1) * 2 ^ e := by rw [Nat.pow_succ, Nat.mul_comm (2 ^ e) 2, ← Nat.mul_assoc, Nat.mul_comm (n + 1) 2]; rfl
    have x1 : (2 * n + 1) * 2 ^ e = 2 * n * 2 ^ e + 2 ^ e := by rw [Nat.add_mul, Nat.one_mul]
    have x3 : (2 * n + 1 + 1) * 2 ^ e = 2 * n * 2 ^ e + 2 ^ e + 2 ^ e := by rw [Nat.add_mul, Nat.one_mul, x1]
    have n1 : 1 ≤ n := by
      rcases Nat.eq_zero_or_pos n with h | h
      · subst h; simp at c1; rcases hL with h | h | h | h | h | h | h | h <;> omega
      · exact h
    have nL : n < L := by
      have : (n + 1) * 2 ≤ (n + 1) * 2 ^ (e + 1) := Nat.mul_le_mul_left _ (by rw [Nat.pow_succ]; omega)
      omega
    have m := own_mxv (g (2 * n)) (g (2 * n + 1)) (h4 _) (h4 _)
    rw [h1 n n1 nL, m]
    by_cases u : i < (2 * n + 1) * 2 ^ e
    · have := own_mxl L g rm ⟨hL, h1, h2, h3, h4⟩ e (2 * n) i ⟨by omega, by omega⟩ (by omega) u
      split <;> omega
    · have := own_mxl L g rm ⟨hL, h1, h2, h3, h4⟩ e (2 * n + 1) i ⟨by omega, by omega⟩ (by omega) (by omega)
      split <;> omega
/-- what first answers -/
def own_fst (rm : Nat → Int32) (P : Nat) (x r : Int32) : Prop :=
  (r = 0 ∧ ∀ q, P ≤ q → (rm q).toInt < x.toInt) ∨ (∃ q, q < 128 ∧ r = Int32.ofNat q ∧ P ≤ q ∧ x.toInt ≤ (rm q).toInt ∧ ∀ q', P ≤ q' → q' < q → (rm q').toInt < x.toInt)
def own_low (L : Nat) (rm : Nat → Int32) (P : Nat) (x : Int32) (v : Nat) : Prop := ∀ q, P ≤ q → L + q < v → (rm q).toInt < x.toInt
theorem own_l128 {L : Nat} (h : own_pw L) : 1 ≤ L ∧ L ≤ 128 := by rcases h with h | h | h | h | h | h | h | h <;> omega
theorem own_f0 {L : Nat} {g rm : Nat → Int32} (V : own_val L g rm) {P : Nat} {x : Int32} (hx : 1 ≤ x.toInt) (h : L ≤ P) : own_fst rm P x (0 : Int32) := by
  refine Or.inl ⟨rfl, fun q hq => ?_⟩
  rw [V.2.2.2.1 q (by omega)]; show (0 : Int) < _; omega
theorem own_c0 {L e n : Nat} (h : own_cov L e n) : n * 2 ^ e < 2 * L := by
  obtain ⟨h1, h2⟩ := h
  have pe : 1 ≤ 2 ^ e := Nat.one_le_two_pow
  have x1 : (n + 1) * 2 ^ e = n * 2 ^ e + 2 ^ e := by rw [Nat.add_mul, Nat.one_mul]
  omega
theorem own_cn {L e n : Nat} (h : own_cov L e n) : n < 2 * L := by
  have := own_c0 h
  have pe : 1 ≤ 2 ^ e := Nat.one_le_two_pow
  have : n * 1 ≤ n * 2 ^ e := Nat.mul_le_mul_left _ pe
  omega
/-- the node n is too small: nothing in it -/
theorem own_pass {L e n : Nat} {g rm : Nat → Int32} (V : own_val L g rm) {P : Nat} {x : Int32} (hc : own_cov L e n) (hl : own_low L rm P x (n * 2 ^ e)) (hn : g n < x) : own_low L rm P x ((n + 1) * 2 ^ e) := fun q hq hv => by
  by_cases u : L + q < n * 2 ^ e
  · exact hl q hq u
  · have a := own_mxl L g rm V e n (L + q) hc (by omega) hv
    have hv2 : q < L := by have := hc.2; omega
    rw [V.2.2.1 q hv2] at a
    have hn := Int32.lt_iff_toInt_lt.mp hn
    omega
/-- up from an odd node -/
theorem own_odd {n e : Nat} (h : n % 2 = 1) : (n / 2 + 1) * 2 ^ (e + 1) = (n + 1) * 2 ^ e := by
  rw [Nat.pow_succ, Nat.mul_comm (2 ^ e) 2, ← Nat.mul_assoc]; congr 1; omega
theorem own_pk {L : Nat} (h : own_pw L) : ∃ k, L = 2 ^ k := by
  rcases h with h | h | h | h | h | h | h | h
  · exact ⟨0, h⟩
  · exact ⟨1, h⟩
  · exact ⟨2, h⟩
  · exact ⟨3, h⟩
  · exact ⟨4, h⟩
  · exact ⟨5, h⟩
  · exact ⟨6, h⟩
  · exact ⟨7, h⟩
/-- the run past an even node stays within the tree -/
theorem own_evn {L n e : Nat} (hL : own_pw L) (h0 : n ≠ 0) (h : n % 2 = 0) (h1 : (n + 1) * 2 ^ e ≤ 2 * L) (h2 : L < (n + 1) * 2 ^ e) : own_cov L e (n + 1) := by
  refine ⟨Nat.le_of_lt h2, ?_⟩
  obtain ⟨k, hk⟩ := own_pk hL
  clear hL
  subst hk
  have pe : 0 < 2 ^ e := Nat.pow_pos (by decide)
  have he : e ≤ k + 1 := by
    apply Classical.byContradiction; intro u
    have a : 2 ^ (k + 2) ≤ 2 ^ e := Nat.pow_le_pow_right (by decide) (by omega)
    have b : 1 * 2 ^ e ≤ (n + 1) * 2 ^ e := Nat.mul_le_mul_right _ (by omega)
    have d : 2 ^ (k + 2) = 4 * 2 ^ k := by rw [Nat.pow_add, Nat.mul_comm]
    have f : 0 < 2 ^ k := Nat.pow_pos (by decide)
    omega
  obtain ⟨d, hd⟩ : ∃ d, k + 1 = e + d := ⟨k + 1 - e, by omega⟩
  have x : 2 * 2 ^ k = 2 ^ d * 2 ^ e := by rw [← Nat.pow_succ', show k.succ = e + d from hd, Nat.pow_add, Nat.mul_comm]
  rw [x] at h1 ⊢
  have y : n + 1 ≤ 2 ^ d := Nat.le_of_mul_le_mul_right h1 pe
  refine Nat.mul_le_mul_right _ ?_
  cases d with
  | zero => rw [Nat.pow_zero] at y; omega
  | succ d => rw [Nat.pow_succ] at y ⊢; omega
theorem own_end {L e : Nat} {g rm : Nat → Int32} (V : own_val L g rm) {P : Nat} {x : Int32} (hx : 1 ≤ x.toInt) (h2 : L < (0 + 1) * 2 ^ e) (hl : own_low L rm P x ((0 + 1) * 2 ^ e)) : own_fst rm P x (0 : Int32) := by
  refine Or.inl ⟨rfl, fun q hq => ?_⟩
  by_cases u : q < L
  · refine hl q hq ?_
    obtain ⟨k, hk⟩ := own_pk V.1
    have b : 2 ^ (k + 1) ≤ 2 ^ e := by
      refine Nat.pow_le_pow_right (by decide) ?_
      apply Classical.byContradiction; intro w
      have a : 2 ^ e ≤ 2 ^ k := Nat.pow_le_pow_right (by decide) (by omega)
      omega
    rw [Nat.pow_succ] at b
    omega
  · rw [V.2.2.2.1 q (by omega)]; show (0 : Int) < _; omega
/-- down -/
theorem own_dwn {L e n : Nat} {g rm : Nat → Int32} (V : own_val L g rm) {P : Nat} {x : Int32} (hc : own_cov L (e + 1) n) (hP : L + P ≤ n * 2 ^ (e + 1)) (hl : own_low L rm P x (n * 2 ^ (e + 1))) (hn : ¬ g n < x) :
    n < L ∧ 2 * n + 1 < 2 * L ∧ (¬ g (2 * n) < x → own_cov L e (2 * n) ∧ L + P ≤ 2 * n * 2 ^ e ∧ own_low L rm P x (2 * n * 2 ^ e)) ∧ (g (2 * n) < x → own_cov L e (2 * n + 1) ∧ L + P ≤ (2 * n + 1) * 2 ^ e ∧ own_low L rm P x ((2 * n + 1) * 2 ^ e) ∧ ¬ g (2 * n + 1) < x) := by
  obtain ⟨c1, c2⟩ := hc
  have pe : 1 ≤ 2 ^ e := Nat.one_le_two_pow
  have x0 : n * 2 ^ (e + 1) = 2 * n * 2 ^ e := by rw [Nat.pow_succ, Nat.mul_comm (2 ^ e) 2, ← Nat.mul_assoc, Nat.mul_comm n 2]
  have x2 : (n + 1) * 2 ^ (e + 1) = (2 * n + 1 + 1) * 2 ^ e := by rw [Nat.pow_succ, Nat.mul_comm (2 ^ e) 2, ← Nat.mul_assoc, Nat.mul_comm (n + 1) 2]; rfl
  have x1 : (2 * n + 1) * 2 ^ e = 2 * n * 2 ^ e + 2 ^ e := by rw [Nat.add_mul, Nat.one_mul]
  have x3 : (2 * n + 1 + 1) * 2 ^ e = 2 * n * 2 ^ e + 2 ^ e + 2 ^ e := by rw [Nat.add_mul, Nat.one_mul, x1]
  have nL : n < L := by
    have : (n + 1) * 2 ≤ (n + 1) * 2 ^ (e + 1) := Nat.mul_le_mul_left _ (by rw [Nat.pow_succ]; omega)
    omega
  have n1 : 1 ≤ n := by
    rcases Nat.eq_zero_or_pos n with h | h
    · subst h; simp at c1; have := own_l128 V.1; omega
    · exact h
  have cA : own_cov L e (2 * n) := ⟨by omega, by omega⟩
  have cB : own_cov L e (2 * n + 1) := ⟨by omega, by omega⟩
  rw [x0] at hP hl
  refine ⟨nL, by omega, fun _ => ⟨cA, hP, hl⟩, fun u => ⟨cB, by omega, own_pass V cA hl u, fun w => ?_⟩⟩
  apply hn
  rw [V.2.1 n n1 nL, Int32.lt_iff_toInt_lt, own_mxv _ _ (V.2.2.2.2 _) (V.2.2.2.2 _)]
  rw [Int32.lt_iff_toInt_lt] at u w
  split <;> omega
theorem own_fnd {L n : Nat} {g rm : Nat → Int32} (V : own_val L g rm) {P : Nat} {x : Int32} (hc : own_cov L 0 n) (hP : L + P ≤ n * 2 ^ 0) (hl : own_low L rm P x (n * 2 ^ 0)) (hn : ¬ g n < x) : own_fst rm P x (Int32.ofNat n - Int32.ofNat L) := by
  have hL := own_l128 V.1
  have h2 := own_c0 hc
  have h1 := hc.1
  simp only [Nat.pow_zero, Nat.mul_one] at h1 h2 hP hl
  refine Or.inr ⟨n - L, by omega, ?_, by omega, ?_, fun q hq hq2 => hl q hq (by omega)⟩
  · have : ∀ a b : Nat, b ≤ a → Int32.ofNat a - Int32.ofNat b = Int32.ofNat (a - b) := fun a b h => by
      have e : a = (a - b) + b := by omega
      rw [show Int32.ofNat a = Int32.ofNat (a - b) + Int32.ofNat b from by rw [← Int32.ofNat_add]; congr 1, Int32.add_sub_cancel]
    exact this n L h1
  · rw [← V.2.2.1 (n - L) (by omega), show L + (n - L) = n by omega]
    rw [Int32.lt_iff_toInt_lt] at hn; omega
/-- the law's own search -/
theorem own_fin (P1 P2 P3 : Nat) (q1 q2 q3 x x1 x2 z1 z2 z3 r fr : Int32) (P : Nat) (h1 : 1 ≤ P1 ∧ P1 ≤ 64) (h2 : 1 ≤ P2 ∧ P2 ≤ 64) (h3 : 1 ≤ P3 ∧ P3 ≤ 64) (hx : 1 ≤ x.toInt) (hfr : fr.toInt = P) (hP : 1 ≤ P)
    (e1 : x1 = if P3 = P1 then q3 else if P2 = P1 then q2 else q1) (e2 : x2 = if P3 = P2 then q3 else q2)
    (k1 : (z1 = 1 ∧ ¬ Int32.ofNat P1 < fr ∧ ¬ x1 < x) ∨ (z1 = 0 ∧ (Int32.ofNat P1 < fr ∨ x1 < x))) (k2 : (z2 = 1 ∧ ¬ Int32.ofNat P2 < fr ∧ ¬ x2 < x) ∨ (z2 = 0 ∧ (Int32.ofNat P2 < fr ∨ x2 < x))) (k3 : (z3 = 1 ∧ ¬ Int32.ofNat P3 < fr ∧ ¬ q3 < x) ∨ (z3 = 0 ∧ (Int32.ofNat P3 < fr ∨ q3 < x)))
    (h : own_fst (own_upd (own_upd (own_upd (fun _ => 0) P1 q1) P2 q2) P3 q3) P x r) : r = f9 (f9 (f9 0 z1 (Int32.ofNat P1)) z2 (Int32.ofNat P2)) z3 (Int32.ofNat P3) := by
  have rm : ∀ q, (own_upd (own_upd (own_upd (fun _ => 0) P1 q1) P2 q2) P3 q3) q = if q = P3 then q3 else if q = P2 then q2 else if q = P1 then q1 else 0 := fun q => rfl
  have oi : ∀ n : Nat, n ≤ 128 → (Int32.ofNat n).toInt = n := fun n hn => by
    have : ∀ n : Fin 129, (Int32.ofNat n.val).toInt = n.val := by decide +kernel
    exact this ⟨n, by omega⟩
  have o1 := oi P1 (by omega); have o2 := oi P2 (by omega); have o3 := oi P3 (by omega)
  have i0 : (0 : Int32).toInt = 0 := rfl
  have n1 : x1 = own_upd (own_upd (own_upd (fun _ => 0) P1 q1) P2 q2) P3 q3 P1 := by
    rw [rm, e1]; (repeat' split) <;> first | rfl | (exfalso; omega)
  have n2 : x2 = own_upd (own_upd (own_upd (fun _ => 0) P1 q1) P2 q2) P3 q3 P2 := by
    rw [rm, e2]; (repeat' split) <;> first | rfl | (exfalso; omega)
  have n3 : q3 = own_upd (own_upd (own_upd (fun _ => 0) P1 q1) P2 q2) P3 q3 P3 := by rw [rm]; simp
  have oth : ∀ q, q ≠ P1 → q ≠ P2 → q ≠ P3 → (own_upd (own_upd (own_upd (fun _ => 0) P1 q1) P2 q2) P3 q3 q).toInt = 0 := fun q a b d => by rw [rm, if_neg d, if_neg b, if_neg a]; rfl
  generalize own_upd (own_upd (own_upd (fun _ => 0) P1 q1) P2 q2) P3 q3 = R at *
  clear rm e1 e2
  subst n1 n2
  rw [n3] at k3
  clear n3
  have b1 : (z1 = 1 ↔ (P ≤ P1 ∧ x.toInt ≤ (R P1).toInt)) ∧ (z1 = 1 ∨ z1 = 0) := by
    simp only [Int32.lt_iff_toInt_lt, o1, hfr] at k1
    rcases k1 with ⟨u, v, w⟩ | ⟨u, v⟩
    · exact ⟨⟨fun _ => by omega, fun _ => u⟩, Or.inl u⟩
    · exact ⟨⟨fun q => by rw [u] at q; exact absurd q (by decide), fun q => by omega⟩, Or.inr u⟩
  have b2 : (z2 = 1 ↔ (P ≤ P2 ∧ x.toInt ≤ (R P2).toInt)) ∧ (z2 = 1 ∨ z2 = 0) := by
    simp only [Int32.lt_iff_toInt_lt, o2, hfr] at k2
    rcases k2 with ⟨u, v, w⟩ | ⟨u, v⟩
    · exact ⟨⟨fun _ => by omega, fun _ => u⟩, Or.inl u⟩
    · exact ⟨⟨fun q => by rw [u] at q; exact absurd q (by decide), fun q => by omega⟩, Or.inr u⟩
  have b3 : (z3 = 1 ↔ (P ≤ P3 ∧ x.toInt ≤ (R P3).toInt)) ∧ (z3 = 1 ∨ z3 = 0) := by
    simp only [Int32.lt_iff_toInt_lt, o3, hfr] at k3
    rcases k3 with ⟨u, v, w⟩ | ⟨u, v⟩
    · exact ⟨⟨fun _ => by omega, fun _ => u⟩, Or.inl u⟩
    · exact ⟨⟨fun q => by rw [u] at q; exact absurd q (by decide), fun q => by omega⟩, Or.inr u⟩
  clear k1 k2 k3
  -- the answer as a number
  obtain ⟨Q, hr, hQ⟩ : ∃ Q : Nat, r = Int32.ofNat Q ∧ Q ≤ 64 ∧ ((Q = 0 ∧ ∀ q, P ≤ q → (R q).toInt < x.toInt) ∨ ((Q = P1 ∨ Q = P2 ∨ Q = P3) ∧ P ≤ Q ∧ x.toInt ≤ (R Q).toInt ∧ ∀ q', P ≤ q' → q' < Q → (R q').toInt < x.toInt)) := by
    rcases h with ⟨u, v⟩ | ⟨q, a, b, d, w, y⟩
    · exact ⟨0, u, by omega, Or.inl ⟨rfl, v⟩⟩
    · have : q = P1 ∨ q = P2 ∨ q = P3 := by
        apply Classical.byContradiction; intro N
        have := oth q (by omega) (by omega) (by omega); omega
      exact ⟨q, b, by omega, Or.inr ⟨this, d, w, y⟩⟩
  have pk : ∀ (A B : Nat) (z : Int32), A ≤ 64 → 1 ≤ B → B ≤ 64 → (z = 1 ∨ z = 0) → f9 (Int32.ofNat A) z (Int32.ofNat B) = Int32.ofNat (if z = 1 then (if A = 0 then B else if B < A then B else A) else A) := fun A B z hA hB hB2 hz => by
    unfold f9
    rcases hz with rfl | rfl
    · rw [if_neg (by decide), if_pos rfl]
      have t : (Int32.ofNat A = 0) ↔ A = 0 := by rw [← Int32.toInt_inj, oi A (by omega), i0]; omega
      have s : (Int32.ofNat B < Int32.ofNat A) ↔ B < A := by rw [Int32.lt_iff_toInt_lt, oi A (by omega), oi B (by omega)]; omega
      by_cases u : A = 0
      · rw [if_pos (t.mpr u), if_pos u]
      · rw [if_neg (fun q => u (t.mp q)), if_neg u]
        by_cases v : B < A
        · rw [if_pos (s.mpr v), if_pos v]
        · rw [if_neg (fun q => v (s.mp q)), if_neg v]
    · rw [if_pos rfl, if_neg (by decide)]
  rw [hr, show (0 : Int32) = Int32.ofNat 0 from rfl, pk 0 P1 z1 (by omega) h1.1 h1.2 b1.2]
  have m1 : ∀ A B : Nat, A ≤ 64 → B ≤ 64 → ∀ z : Int32, (if z = 1 then (if A = 0 then B else if B < A then B else A) else A) ≤ 64 := fun A B hA hB z => by split <;> (try split) <;> (try split) <;> omega
  rw [pk _ P2 z2 (m1 _ _ (by omega) (by omega) _) h2.1 h2.2 b2.2, pk _ P3 z3 (m1 _ _ (m1 _ _ (by omega) (by omega) _) (by omega) _) h3.1 h3.2 b3.2]
  congr 1
  have c1 := b1.1; have c2 := b2.1; have c3 := b3.1
  obtain ⟨hQ0, hQ⟩ := hQ
  by_cases d1 : z1 = 1 <;> by_cases d2 : z2 = 1 <;> by_cases d3 : z3 = 1 <;> simp only [d1, d2, d3, if_true, if_false, true_iff, false_iff] at c1 c2 c3 ⊢ <;> (
    rcases hQ with ⟨u, v⟩ | ⟨u, v, w, y⟩
    · have v1 := v P1; have v2 := v P2; have v3 := v P3
      repeat' split
      all_goals omega
    · have v1 := y P1; have v2 := y P2; have v3 := y P3
      rcases u with u | u | u <;> subst u <;> (repeat' split) <;> omega)
/-- a char[] with n components, g of them -/
def OTr (Z : State) (h : Heap) (t : Addr) (n : Nat) (g : Nat → Int32) : Prop := n ≤ 256 ∧ ∃ k, Arv Z h t k .char (Int32.ofNat n) ((List.range n).map fun i => Value.int (g i)) (.int (0 : Int32))
theorem OTr.lt {Z : State} {h : Heap} {t : Addr} {n : Nat} {g : Nat → Int32} (F : OTr Z h t n g) : t < h.size := by obtain ⟨-, k, V⟩ := F; exact V.lt
theorem OTr.ext {Z : State} {h h' : Heap} {t : Addr} {n : Nat} {g : Nat → Int32} (F : OTr Z h t n g) (E : Ext h h') : OTr Z h' t n g := by obtain ⟨q, k, V⟩ := F; exact ⟨q, k, V.ext E⟩
theorem OTr.other {Z : State} {h h' : Heap} {t a : Addr} {n : Nat} {g : Nat → Int32} {sl : Nat} {v : Value} (F : OTr Z h t n g) (W : Wr h h' a sl v) (q : t ≠ a) : OTr Z h' t n g := by obtain ⟨u, k, V⟩ := F; exact ⟨u, k, V.other W q⟩
theorem OTr.keep {Z : State} {h h' : Heap} {t : Addr} {n : Nat} {g : Nat → Int32} {ws : List Addr} (F : OTr Z h t n g) (K : Keep h h' ws) (q : t ∉ ws) : OTr Z h' t n g := by obtain ⟨u, k, V⟩ := F; exact ⟨u, k, V.keep K q⟩
theorem OTr.cast {Z : State} {h : Heap} {t : Addr} {n : Nat} {g g' : Nat → Int32} (F : OTr Z h t n g) (e : g = g') : OTr Z h t n g' := e ▸ F
theorem OTr.ne {Z : State} {h : Heap} {a t : Addr} {C : String} {a0 : Array Value} {k n : Nat} {g : Nat → Int32} (F : OTr Z h t n g) (E : Exa Z h a C) (wi : (Jvm.Cond.instantiable C k).before a0 Z = true) : t ≠ a := by
  obtain ⟨-, kk, cl, A, -⟩ := F
  exact Ne.symm (ne_arr E wi A)
theorem own_on {n : Nat} (h : n ≤ 256) : (Int32.ofNat n).toNatClampNeg = n ∧ ¬ Int32.ofNat n < 0 ∧ (Int32.ofNat n).toInt = n := by
  have : ∀ n : Fin 257, (Int32.ofNat n.val).toNatClampNeg = n.val ∧ ¬ Int32.ofNat n.val < 0 ∧ (Int32.ofNat n.val).toInt = n.val := by decide +kernel
  exact this ⟨n, by omega⟩
theorem own_tget (n : Nat) (g : Nat → Int32) (i : Nat) (h : i < n) : ((List.range n).map fun i => Value.int (g i)).getD i (.int (0 : Int32)) = .int (g i) := by
  rw [List.getD_eq_getElem?_getD, List.getElem?_map, List.getElem?_range h]; rfl
theorem own_tat {cl : Cell} {n : Nat} {g : Nat → Int32} {j : Int32} {i : Nat} (hn : n ≤ 256) (S : cl.slots.size = (Int32.ofNat n).toNatClampNeg) (Hh : Has cl ((List.range n).map fun i => Value.int (g i)) (.int (0 : Int32))) (e : j = Int32.ofNat i) (hi : i < n) : ¬ (j < 0 ∨ cl.slots.size ≤ j.toNatClampNeg) ∧ cl.slots[j.toNatClampNeg]? = some (.int (g i)) := by
  subst e
  have a := own_on (n := i) (by omega); have b := own_on hn
  have hin : ¬ (Int32.ofNat i < 0 ∨ cl.slots.size ≤ (Int32.ofNat i).toNatClampNeg) := by
    rintro (q | q)
    · exact a.2.1 q
    · rw [S, a.1, b.1] at q; omega
  exact ⟨hin, Hh.at hin (by rw [a.1]; exact own_tget n g i hi)⟩
theorem own_tset (n : Nat) (g : Nat → Int32) (i : Nat) (v : Int32) : ((List.range n).map fun i => Value.int (g i)).set i (.int v) = (List.range n).map fun j => Value.int (own_upd g i v j) := by
  apply List.ext_getElem
  · simp
  · intro m h1 h2
    simp only [List.getElem_set, List.getElem_map, List.getElem_range, own_upd]
    by_cases q : i = m
    · rw [if_pos q, if_pos q.symm]
    · rw [if_neg q, if_neg (fun z => q z.symm)]
theorem OTr.set {Z : State} {h h' : Heap} {t : Addr} {n : Nat} {g : Nat → Int32} {j v : Int32} (F : OTr Z h t n g) (W : Wr h h' t j.toNatClampNeg (.int v)) (i : Nat) (e : j = Int32.ofNat i) (hv : fits .char (.int v) = true) (hi : i < n) : OTr Z h' t n (own_upd g i v) := by
  obtain ⟨hn, k, cl, A, q1, S, q3, Hh, G⟩ := F
  have V := Arv.set A q1 S q3 Hh G hv W i (by rw [e]; exact (own_on (by omega)).1) (by simpa using hi)
  rw [own_tset] at V
  exact ⟨hn, k, V⟩
theorem own_e2 (X : Nat) : (2 : Int32) * Int32.ofNat X = Int32.ofNat (2 * X) := (Int32.ofNat_mul 2 X).symm
theorem own_e21 (X : Nat) : (2 : Int32) * Int32.ofNat X + (1 : Int32) = Int32.ofNat (2 * X + 1) := by rw [own_e2]; exact (Int32.ofNat_add (2 * X) 1).symm
theorem own_e1 (X : Nat) : Int32.ofNat X + (1 : Int32) = Int32.ofNat (X + 1) := (Int32.ofNat_add X 1).symm
theorem own_em (X : Nat) (h : X ≤ 255) : Int32.ofNat (X + 1) + (-1 : Int32) = Int32.ofNat X := by
  have : ∀ n : Fin 256, Int32.ofNat (n.val + 1) + (-1 : Int32) = Int32.ofNat n.val := by decide +kernel
  exact this ⟨X, by omega⟩
theorem own_es (X : Nat) (h : 1 ≤ X) (h2 : X ≤ 256) : Int32.ofNat X - (1 : Int32) = Int32.ofNat (X - 1) := by
  have : ∀ n : Fin 256, Int32.ofNat (n.val + 1) - (1 : Int32) = Int32.ofNat n.val := by decide +kernel
  have := this ⟨X - 1, by omega⟩
  rw [show X - 1 + 1 = X by omega] at this; exact this
theorem own_eh (X : Nat) (h : X ≤ 256) : Int32.ofNat X >>> ((1 : Int32) &&& 31) = Int32.ofNat (X / 2) := by
  have : ∀ n : Fin 257, Int32.ofNat n.val >>> ((1 : Int32) &&& 31) = Int32.ofNat (n.val / 2) := by decide +kernel
  exact this ⟨X, by omega⟩
theorem own_eb (X : Nat) (h : X ≤ 256) : (Int32.ofNat X &&& (1 : Int32) = (1 : Int32)) ↔ X % 2 = 1 := by
  have : ∀ n : Fin 257, (Int32.ofNat n.val &&& (1 : Int32) = (1 : Int32)) ↔ n.val % 2 = 1 := by decide +kernel
  exact this ⟨X, by omega⟩
theorem own_ez (X : Nat) (h : X ≤ 256) : (Int32.ofNat X = (0 : Int32)) ↔ X = 0 := by
  have : ∀ n : Fin 257, (Int32.ofNat n.val = (0 : Int32)) ↔ n.val = 0 := by decide +kernel
  exact this ⟨X, by omega⟩
theorem own_ep (X : Nat) (h : X ≤ 256) : ((0 : Int32) < Int32.ofNat X) ↔ 0 < X := by
  rw [Int32.lt_iff_toInt_lt, (own_on h).2.2]; show (0 : Int) < _ ↔ _; omega
theorem own_el (X Y : Nat) (h : X ≤ 256) (h2 : Y ≤ 256) : (Int32.ofNat X < Int32.ofNat Y) ↔ X < Y := by
  rw [Int32.lt_iff_toInt_lt, (own_on h).2.2, (own_on h2).2.2]; omega
/-- a page of the law -/
def own_pg (p : Int32) : Prop := 1 ≤ p.toInt ∧ p.toInt ≤ 64
theorem own_pgn {p : Int32} (h : own_pg p) : p = Int32.ofNat p.toNatClampNeg ∧ 1 ≤ p.toNatClampNeg ∧ p.toNatClampNeg ≤ 64 := by
  obtain ⟨a, b⟩ := h
  have q : p.toNatClampNeg = p.toInt.toNat := rfl
  refine ⟨?_, by omega, by omega⟩
  rw [← Int32.toInt_inj, (own_on (by omega)).2.2]; omega
theorem own_eLp {p : Int32} (h : own_pg p) (L : Nat) : Int32.ofNat L + p = Int32.ofNat (L + p.toNatClampNeg) := by
  rw [Int32.ofNat_add, ← (own_pgn h).1]
def own_G (n : Nat) : Nat := 2 ^ (Nat.log2 n + 1)
theorem own_hob {p : Int32} (h : own_pg p) : (f5 p) <<< ((1 : Int32) &&& 31) = Int32.ofNat (own_G p.toNatClampNeg) := by
  have : ∀ n : Fin 65, 1 ≤ n.val → (f5 (Int32.ofNat n.val)) <<< ((1 : Int32) &&& 31) = Int32.ofNat (own_G n.val) := by decide +kernel
  obtain ⟨e, a, b⟩ := own_pgn h
  have := this ⟨p.toNatClampNeg, by omega⟩ a
  rw [← e] at this; exact this
theorem own_Gw {p : Int32} (h : own_pg p) : own_pw (own_G p.toNatClampNeg) ∧ p.toNatClampNeg < own_G p.toNatClampNeg := by
  have : ∀ n : Fin 65, 1 ≤ n.val → (own_G n.val = 1 ∨ own_G n.val = 2 ∨ own_G n.val = 4 ∨ own_G n.val = 8 ∨ own_G n.val = 16 ∨ own_G n.val = 32 ∨ own_G n.val = 64 ∨ own_G n.val = 128) ∧ n.val < own_G n.val := by decide +kernel
  obtain ⟨e, a, b⟩ := own_pgn h
  exact this ⟨p.toNatClampNeg, by omega⟩ a
theorem own_newT {Z : State} {h : Heap} {a : Addr} {k : ClassId} {z : Int32} (n : Nat) (A : Arr Z h a (newA k .char z) .char) (hn : n ≤ 256) (e : z = Int32.ofNat n) : OTr Z h a n (fun _ => (0 : Int32)) := by
  subst e
  refine ⟨hn, k, (Arv.new A (own_on hn).2.1).pad fun i => ?_⟩
  show _ = Value.int (0 : Int32)
  rw [List.getD_eq_getElem?_getD, List.getElem?_map]
  cases (List.range n)[i]? <;> rfl
theorem own_tcp (L G : Nat) (g : Nat → Int32) (hl : L ≤ G) : ((List.range (2 * G)).map fun i => Value.int ((fun _ => (0 : Int32)) i)).take G ++ ((List.range L).map fun i => ((List.range (2 * L)).map fun i => Value.int (g i)).getD (L + i) (.int (0 : Int32))) ++ ((List.range (2 * G)).map fun i => Value.int ((fun _ => (0 : Int32)) i)).drop (G + L) = (List.range (2 * G)).map fun i => Value.int (own_cp L G g i) := by
  apply List.ext_getElem
  · simp; omega
  · intro m h1 h2
    have h2' : m < 2 * G := by simpa using h2
    have eL : (((List.range (2 * G)).map fun i => Value.int ((fun _ => (0 : Int32)) i)).take G).length = G := by simp; omega
    have eU : ((List.range L).map fun i => ((List.range (2 * L)).map fun i => Value.int (g i)).getD (L + i) (.int (0 : Int32))).length = L := by simp
    rw [List.getElem_map, List.getElem_range]
    by_cases u : m < G
    · rw [List.getElem_append_left (by rw [List.length_append, eL, eU]; omega), List.getElem_append_left (by rw [eL]; exact u), List.getElem_take, List.getElem_map]
      rw [show own_cp L G g m = 0 from if_neg (by omega)]
    · by_cases w : m < G + L
      · rw [List.getElem_append_left (by rw [List.length_append, eL, eU]; exact w), List.getElem_append_right (by rw [eL]; omega), List.getElem_map]
        simp only [List.getElem_range, eL]
        rw [own_tget _ _ _ (by omega), show own_cp L G g m = g (L + (m - G)) from if_pos ⟨by omega, w⟩]
      · rw [List.getElem_append_right (by rw [List.length_append, eL, eU]; omega), List.getElem_drop, List.getElem_map]
        rw [show own_cp L G g m = 0 from if_neg (by omega)]
/-! body 1: com/example/kursor/kursor/storage/table/FreeSpace.<init>:()V -/
theorem d1_0 : decode prog_211_method_1_code 0 = .ok (.aload_n 0, 1) := by decide +kernel
theorem d1_1 : decode prog_211_method_1_code 1 = .ok (.invokespecial 1, 3) := by decide +kernel
theorem d1_4 : decode prog_211_method_1_code 4 = .ok (.aload_n 0, 1) := by decide +kernel
theorem d1_5 : decode prog_211_method_1_code 5 = .ok (.iconst 1, 1) := by decide +kernel
theorem d1_6 : decode prog_211_method_1_code 6 = .ok (.putfield 7, 3) := by decide +kernel
theorem d1_9 : decode prog_211_method_1_code 9 = .ok (.aload_n 0, 1) := by decide +kernel
theorem d1_10 : decode prog_211_method_1_code 10 = .ok (.iconst 2, 1) := by decide +kernel
theorem d1_11 : decode prog_211_method_1_code 11 = .ok (.newarray .char, 2) := by decide +kernel
theorem d1_13 : decode prog_211_method_1_code 13 = .ok (.putfield 13, 3) := by decide +kernel
theorem d1_16 : decode prog_211_method_1_code 16 = .ok (.return_, 1) := by decide +kernel
theorem pn_1 : plainName "com/example/kursor/kursor/storage/table/FreeSpace" = true := by first | (simp [plainName, overriddenIn]; done) | decide +kernel
theorem ef_1 (m : MethodId) (x0 : Addr) : entryFrame m #[(.ref x0)] 1 = mkF m 0 #[.val (.ref x0)] [] := by first | (simp [entryFrame, mkF, argsToLocals, Value.category]; done) | rfl
def Q1 (Z : State) (a0 : Addr) (u_leaves_a0 : Value) (u_tree_a0 : Value) (h0 : Heap) (n0 : Nat) (v : Option Value) (h : Heap) (L : List Loc) : Prop := ∃ t : Addr, v = none ∧ Fr n0 L ∧ Keep h0 h [a0] ∧ h0.size ≤ t ∧ Exa Z h a0 "com/example/kursor/kursor/storage/table/FreeSpace" ∧ Fld Z h a0 "com/example/kursor/kursor/storage/table/FreeSpace" "leaves" "I" (.int (1 : Int32)) ∧ Fld Z h a0 "com/example/kursor/kursor/storage/table/FreeSpace" "tree" "[C" (.ref t) ∧ OTr Z h t (2 * 1) (fun _ => (0 : Int32))
set_option maxRecDepth 65536 in
set_option maxHeartbeats 40000000 in
theorem rm1 (l : Launch) (Z : State) (az : Array Value) (hw : ∀ d ∈ tables_1, d.before az Z = true) (ws : List Jvm.Cond) (a0 : Addr) (u_leaves_a0 : Value) (u_tree_a0 : Value) (h0 : Heap) (n0 : Nat) (Z0 : n0 ≤ h0.size) (E_a0 : Exa Z h0 a0 "com/example/kursor/kursor/storage/table/FreeSpace") (F_leaves_a0 : Fld Z h0 a0 "com/example/kursor/kursor/storage/table/FreeSpace" "leaves" "I" u_leaves_a0) (gn_a0 : n0 ≤ a0) (F_tree_a0 : Fld Z h0 a0 "com/example/kursor/kursor/storage/table/FreeSpace" "tree" "[C" u_tree_a0) :
    OCtr l Z (⟨"com/example/kursor/kursor/storage/table/FreeSpace", "<init>", "()V"⟩ : MethodName) prog_211_method_1_code 1 none ws ({ frames := 1, cells := 1, slots := 2, locals := 12 } : Room) #[(.ref a0)] h0 (Q1 Z a0 u_leaves_a0 u_tree_a0 h0 n0) := by
  refine OCtr.of (plainFor_of_name pn_1) ?_
  intro p e s m below meth c s₁ X0 hx hlk hZ hown0 hnm hby hml0 hret e0
  have hown : s.vm.findClass "com/example/kursor/kursor/storage/table/FreeSpace" = some m.cls := hown0
  have hml : c.maxLocals = 1 := hml0
  have N0 := Fr.nil n0
  refine OGo.step (fun t k => castTop (ef_1 m a0) k) ?_
  refine OGo.step (F' := s₁.setTop (mkF m 1 #[.val (.ref a0)] [(.ref a0)])) (fun t kt => ?_) ?_
  · show Steps p.tables e below (s₁.setTop (mkF m 0 #[.val (.ref a0)] [])) t
    refine XS.aloadN X0.here hx rfl (hb hby d1_0) rfl rfl ?_
    exact kt
  obtain ⟨T1, X1, e1, st1⟩ := initO X0 hx hZ hown (own_wd hw 8 rfl) (own_wd hw 9 rfl) (own_wd hw 10 rfl) e0 (g := (mkF m 1 #[.val (.ref a0)] [(.ref a0)])) rfl (by rw [hml]; rfl) rfl (hb hby d1_1) (by decide) (W := 0) (by show 2 * 0 + _ ≤ _; exact Nat.le_of_eq rfl) (by decide)
  refine OGo.step st1 ?_
  show OGo _ _ _ _ _ _ _ (T1.setTop (mkF m 4 #[.val (.ref a0)] []))
  refine OGo.step (F' := T1.setTop (mkF m 6 #[.val (.ref a0)] [(.int (1 : Int32)), (.ref a0)])) (fun t kt => ?_) ?_
  · show Steps p.tables e below (T1.setTop (mkF m 4 #[.val (.ref a0)] [])) t
    refine XS.aloadN X1.here hx rfl (hb hby d1_4) rfl rfl ?_
    show Steps p.tables e below (T1.setTop (mkF m 5 #[.val (.ref a0)] [(.ref a0)])) t
    refine XS.iconst X1.here hx rfl (hb hby d1_5) ?_
    exact kt
  obtain ⟨T2, h2, X2, e2, W2, st2⟩ := putF X1 hx hZ hown (host := "") (Or.inl (own_wd hw 11 rfl)) Via.refl e1 F_leaves_a0 E_a0 (Or.inl (own_wd hw 12 rfl)) (own_wd hw 3 rfl) (ty := .int) (by decide) rfl rfl (g := (mkF m 6 #[.val (.ref a0)] [(.int (1 : Int32)), (.ref a0)])) rfl rfl (hb hby d1_6)
  have Fw2 : Fld Z h2 a0 "com/example/kursor/kursor/storage/table/FreeSpace" "leaves" "I" (.int (1 : Int32)) := F_leaves_a0.same W2
  have KC2 : Keep h0 h2 [a0] := (Keep.refl h0 [a0]).wr W2 (Or.inl (List.mem_of_getElem? (i := 0) rfl))
  have N2 := Fr.snoc X2 N0 gn_a0
  refine OGo.step st2 ?_
  show OGo _ _ _ _ _ _ _ (T2.setTop (mkF m 9 #[.val (.ref a0)] []))
  refine OGo.step (F' := T2.setTop (mkF m 11 #[.val (.ref a0)] [(.int (2 : Int32)), (.ref a0)])) (fun t kt => ?_) ?_
  · show Steps p.tables e below (T2.setTop (mkF m 9 #[.val (.ref a0)] [])) t
    refine XS.aloadN X2.here hx rfl (hb hby d1_9) rfl rfl ?_
    show Steps p.tables e below (T2.setTop (mkF m 10 #[.val (.ref a0)] [(.ref a0)])) t
    refine XS.iconst X2.here hx rfl (hb hby d1_10) ?_
    exact kt
  obtain ⟨T3, h3, k3, X3, e3, E3, A3, st3⟩ := newP X2 hx hZ (own_wd hw 13 rfl) e2 (g := (mkF m 11 #[.val (.ref a0)] [(.int (2 : Int32)), (.ref a0)])) rfl (hb hby d1_11) rfl (by decide) (cap := 2) (by decide) (by decide) (by decide) (by decide)
  obtain ⟨b3, g3⟩ : ∃ z, z = h2.size := ⟨_, rfl⟩
  rw [← g3] at A3 st3
  have sz_b3 : h0.size ≤ b3 := Nat.le_trans KC2.1 (Nat.le_of_eq g3.symm)
  have gn_b3 : n0 ≤ b3 := Nat.le_trans Z0 sz_b3
  have KC3 : Keep h0 h3 [a0] := KC2.ext E3
  have O3 : OTr Z h3 b3 (2 * 1) (fun _ => (0 : Int32)) := own_newT (2 * 1) A3 (by decide) rfl
  refine OGo.step st3 ?_
  show OGo _ _ _ _ _ _ _ (T3.setTop (mkF m 13 #[.val (.ref a0)] [(.ref b3), (.ref a0)]))
  obtain ⟨T4, h4, X4, e4, W4, st4⟩ := putF X3 hx hZ hown (host := "") (Or.inl (own_wd hw 14 rfl)) Via.refl e3 ((F_tree_a0.other W2 (Or.inr (slot_ne (a0 := az) (Or.inl (own_wd hw 15 rfl)) (Or.inl (own_wd hw 12 rfl)) (by decide) (t := (.array .char)) (t' := .int) (by decide) (by decide)))).ext E3) ((E_a0.wr W2).ext E3) (Or.inl (own_wd hw 15 rfl)) (own_wd hw 3 rfl) (ty := (.array .char)) (by decide) rfl rfl (g := (mkF m 13 #[.val (.ref a0)] [(.ref b3), (.ref a0)])) rfl rfl (hb hby d1_13)
  have Fw4 : Fld Z h4 a0 "com/example/kursor/kursor/storage/table/FreeSpace" "tree" "[C" (.ref b3) := ((F_tree_a0.other W2 (Or.inr (slot_ne (a0 := az) (Or.inl (own_wd hw 15 rfl)) (Or.inl (own_wd hw 12 rfl)) (by decide) (t := (.array .char)) (t' := .int) (by decide) (by decide)))).ext E3).same W4
  have KC4 : Keep h0 h4 [a0] := KC3.wr W4 (Or.inl (List.mem_of_getElem? (i := 0) rfl))
  have N4 := Fr.snoc X4 N2 gn_a0
  refine OGo.step st4 ?_
  show OGo _ _ _ _ _ _ _ (T4.setTop (mkF m 16 #[.val (.ref a0)] []))
  refine OGo.retV X4 hx hlk hret (hb hby d1_16) ?_ (by decide) (by decide)
  show Q1 Z a0 u_leaves_a0 u_tree_a0 h0 n0 _ T4.heap _
  rw [e4]
  exact ⟨b3, rfl, N4, KC4, sz_b3, (((E_a0.wr W2).ext E3).wr W4), ((Fw2.ext E3).other W4 (Or.inr (slot_ne (a0 := az) (Or.inl (own_wd hw 12 rfl)) (Or.inl (own_wd hw 15 rfl)) (by decide) (t := .int) (t' := (.array .char)) (by decide) (by decide)))), Fw4, (O3.other W4 (Ne.symm (Nat.ne_of_lt (Nat.lt_of_lt_of_le (E_a0.wr W2).lt (Nat.le_of_eq g3.symm)))))⟩
/-! body 4: com/example/kursor/kursor/storage/table/FreeSpace.grow:(I)V -/
theorem d4_0 : decode prog_211_method_5_code 0 = .ok (.iload_n 1, 1) := by decide +kernel
theorem d4_1 : decode prog_211_method_5_code 1 = .ok (.invokestatic 28, 3) := by decide +kernel
theorem d4_4 : decode prog_211_method_5_code 4 = .ok (.iconst 1, 1) := by decide +kernel
theorem d4_5 : decode prog_211_method_5_code 5 = .ok (.ishl, 1) := by decide +kernel
theorem d4_6 : decode prog_211_method_5_code 6 = .ok (.istore_n 2, 1) := by decide +kernel
theorem d4_7 : decode prog_211_method_5_code 7 = .ok (.iconst 2, 1) := by decide +kernel
theorem d4_8 : decode prog_211_method_5_code 8 = .ok (.iload_n 2, 1) := by decide +kernel
theorem d4_9 : decode prog_211_method_5_code 9 = .ok (.imul, 1) := by decide +kernel
theorem d4_10 : decode prog_211_method_5_code 10 = .ok (.newarray .char, 2) := by decide +kernel
theorem d4_12 : decode prog_211_method_5_code 12 = .ok (.astore_n 3, 1) := by decide +kernel
theorem d4_13 : decode prog_211_method_5_code 13 = .ok (.aload_n 0, 1) := by decide +kernel
theorem d4_14 : decode prog_211_method_5_code 14 = .ok (.getfield 13, 3) := by decide +kernel
theorem d4_17 : decode prog_211_method_5_code 17 = .ok (.aload_n 0, 1) := by decide +kernel
theorem d4_18 : decode prog_211_method_5_code 18 = .ok (.getfield 7, 3) := by decide +kernel
theorem d4_21 : decode prog_211_method_5_code 21 = .ok (.aload_n 3, 1) := by decide +kernel
theorem d4_22 : decode prog_211_method_5_code 22 = .ok (.iload_n 2, 1) := by decide +kernel
theorem d4_23 : decode prog_211_method_5_code 23 = .ok (.aload_n 0, 1) := by decide +kernel
theorem d4_24 : decode prog_211_method_5_code 24 = .ok (.getfield 7, 3) := by decide +kernel
theorem d4_27 : decode prog_211_method_5_code 27 = .ok (.invokestatic 34, 3) := by decide +kernel
theorem d4_30 : decode prog_211_method_5_code 30 = .ok (.iload_n 2, 1) := by decide +kernel
theorem d4_31 : decode prog_211_method_5_code 31 = .ok (.iconst 1, 1) := by decide +kernel
theorem d4_32 : decode prog_211_method_5_code 32 = .ok (.isub, 1) := by decide +kernel
theorem d4_33 : decode prog_211_method_5_code 33 = .ok (.istore 4, 2) := by decide +kernel
theorem d4_35 : decode prog_211_method_5_code 35 = .ok (.iload 4, 2) := by decide +kernel
theorem d4_37 : decode prog_211_method_5_code 37 = .ok (.ifCond .le 31, 3) := by decide +kernel
theorem d4_40 : decode prog_211_method_5_code 40 = .ok (.aload_n 3, 1) := by decide +kernel
theorem d4_41 : decode prog_211_method_5_code 41 = .ok (.iload 4, 2) := by decide +kernel
theorem d4_43 : decode prog_211_method_5_code 43 = .ok (.aload_n 3, 1) := by decide +kernel
theorem d4_44 : decode prog_211_method_5_code 44 = .ok (.iconst 2, 1) := by decide +kernel
theorem d4_45 : decode prog_211_method_5_code 45 = .ok (.iload 4, 2) := by decide +kernel
theorem d4_47 : decode prog_211_method_5_code 47 = .ok (.imul, 1) := by decide +kernel
theorem d4_48 : decode prog_211_method_5_code 48 = .ok (.caload, 1) := by decide +kernel
theorem d4_49 : decode prog_211_method_5_code 49 = .ok (.aload_n 3, 1) := by decide +kernel
theorem d4_50 : decode prog_211_method_5_code 50 = .ok (.iconst 2, 1) := by decide +kernel
theorem d4_51 : decode prog_211_method_5_code 51 = .ok (.iload 4, 2) := by decide +kernel
theorem d4_53 : decode prog_211_method_5_code 53 = .ok (.imul, 1) := by decide +kernel
theorem d4_54 : decode prog_211_method_5_code 54 = .ok (.iconst 1, 1) := by decide +kernel
theorem d4_55 : decode prog_211_method_5_code 55 = .ok (.iadd, 1) := by decide +kernel
theorem d4_56 : decode prog_211_method_5_code 56 = .ok (.caload, 1) := by decide +kernel
theorem d4_57 : decode prog_211_method_5_code 57 = .ok (.invokestatic 22, 3) := by decide +kernel
theorem d4_60 : decode prog_211_method_5_code 60 = .ok (.i2c, 1) := by decide +kernel
theorem d4_61 : decode prog_211_method_5_code 61 = .ok (.castore, 1) := by decide +kernel
theorem d4_62 : decode prog_211_method_5_code 62 = .ok (.iinc 4 (-1), 3) := by decide +kernel
theorem d4_65 : decode prog_211_method_5_code 65 = .ok (.goto (-30), 3) := by decide +kernel
theorem d4_68 : decode prog_211_method_5_code 68 = .ok (.aload_n 0, 1) := by decide +kernel
theorem d4_69 : decode prog_211_method_5_code 69 = .ok (.iload_n 2, 1) := by decide +kernel
theorem d4_70 : decode prog_211_method_5_code 70 = .ok (.putfield 7, 3) := by decide +kernel
theorem d4_73 : decode prog_211_method_5_code 73 = .ok (.aload_n 0, 1) := by decide +kernel
theorem d4_74 : decode prog_211_method_5_code 74 = .ok (.aload_n 3, 1) := by decide +kernel
theorem d4_75 : decode prog_211_method_5_code 75 = .ok (.putfield 13, 3) := by decide +kernel
theorem d4_78 : decode prog_211_method_5_code 78 = .ok (.return_, 1) := by decide +kernel
theorem pn_4 : plainName "com/example/kursor/kursor/storage/table/FreeSpace" = true := by first | (simp [plainName, overriddenIn]; done) | decide +kernel
theorem pd_4_0 : parseMethodDescriptor "(II)I" = some ⟨[.int, .int], some .int⟩ := by decide +kernel
theorem pd_4_1 : parseMethodDescriptor "(I)I" = some ⟨[.int], some .int⟩ := by decide +kernel
theorem ef_4 (m : MethodId) (x0 : Addr) (x1 : Int32) : entryFrame m #[(.ref x0), (.int x1)] 5 = mkF m 0 #[.val (.ref x0), .val (.int x1), .unset, .unset, .unset] [] := by first | (simp [entryFrame, mkF, argsToLocals, Value.category]; done) | rfl
def Q4 (Z : State) (a0 : Addr) (p1 : Int32) (t0 : Addr) (Lv : Nat) (g : Nat → Int32) (rm : Nat → Int32) (h0 : Heap) (n0 : Nat) (v : Option Value) (h : Heap) (L : List Loc) : Prop := ∃ t : Addr, v = none ∧ Fr n0 L ∧ Keep h0 h [a0] ∧ h0.size ≤ t ∧ Exa Z h a0 "com/example/kursor/kursor/storage/table/FreeSpace" ∧ Fld Z h a0 "com/example/kursor/kursor/storage/table/FreeSpace" "leaves" "I" (.int (Int32.ofNat (own_G p1.toNatClampNeg))) ∧ Fld Z h a0 "com/example/kursor/kursor/storage/table/FreeSpace" "tree" "[C" (.ref t) ∧ OTr Z h t (2 * (own_G p1.toNatClampNeg)) (own_dn ((own_G p1.toNatClampNeg) - 1) (own_cp Lv (own_G p1.toNatClampNeg) g))
set_option maxRecDepth 65536 in
set_option maxHeartbeats 40000000 in
theorem rm4 (l : Launch) (Z : State) (az : Array Value) (hw : ∀ d ∈ tables_1, d.before az Z = true) (ws : List Jvm.Cond) (a0 : Addr) (p1 : Int32) (t0 : Addr) (Lv : Nat) (g : Nat → Int32) (rm : Nat → Int32) (h0 : Heap) (n0 : Nat) (Z0 : n0 ≤ h0.size) (E_a0 : Exa Z h0 a0 "com/example/kursor/kursor/storage/table/FreeSpace") (Fl_a0 : Fld Z h0 a0 "com/example/kursor/kursor/storage/table/FreeSpace" "leaves" "I" (.int (Int32.ofNat Lv))) (Ft_a0 : Fld Z h0 a0 "com/example/kursor/kursor/storage/table/FreeSpace" "tree" "[C" (.ref t0)) (O_t0 : OTr Z h0 t0 (2 * Lv) g) (hV : own_val Lv g rm) (hp : own_pg p1) (hge : Lv ≤ p1.toNatClampNeg) (gn_a0 : n0 ≤ a0) :
    OCtr l Z (⟨"com/example/kursor/kursor/storage/table/FreeSpace", "grow", "(I)V"⟩ : MethodName) prog_211_method_5_code 5 none ws ({ frames := 2, cells := 1, slots := 256, locals := 40 } : Room) #[(.ref a0), (.int p1)] h0 (Q4 Z a0 p1 t0 Lv g rm h0 n0) := by
  refine OCtr.of (plainFor_of_name pn_4) ?_
  intro p e s m below meth c s₁ X0 hx hlk hZ hown0 hnm hby hml0 hret e0
  have hown : s.vm.findClass "com/example/kursor/kursor/storage/table/FreeSpace" = some m.cls := hown0
  have hml : c.maxLocals = 5 := hml0
  have N0 := Fr.nil n0
  refine OGo.step (fun t k => castTop (ef_4 m a0 p1) k) ?_
  obtain ⟨hGw, hGp⟩ := own_Gw hp
  have hG8 := own_l128 hGw
  have hL8 := own_l128 hV.1
  have hpn := own_pgn hp
  have hG2 : 2 * (own_G p1.toNatClampNeg) ≤ 256 := by omega
  have lp : ∀ (N : Nat) (tt : Addr) (gg : Nat → Int32) (T0 : State) (hl : Heap) (locs : List Loc), Stand p l e ({ frames := 2, cells := 1, slots := 256, locals := 40 } : Room) s m #[(.ref a0), (.int p1)] below meth c T0 locs (0 + 1) (0 + 256) → T0.heap = hl → Fr n0 locs → Keep h0 hl [a0] → h0.size ≤ tt → n0 ≤ tt → tt ≠ a0 → Exa Z hl a0 "com/example/kursor/kursor/storage/table/FreeSpace" → Fld Z hl a0 "com/example/kursor/kursor/storage/table/FreeSpace" "leaves" "I" (.int (Int32.ofNat Lv)) → Fld Z hl a0 "com/example/kursor/kursor/storage/table/FreeSpace" "tree" "[C" (.ref t0) → OTr Z hl tt (2 * (own_G p1.toNatClampNeg)) gg → N < (own_G p1.toNatClampNeg) → own_dn N gg = own_dn ((own_G p1.toNatClampNeg) - 1) (own_cp Lv (own_G p1.toNatClampNeg) g) → OGo p e below s (Q4 Z a0 p1 t0 Lv g rm h0 n0) ({ frames := 2, cells := 1, slots := 256, locals := 40 } : Room).cells ({ frames := 2, cells := 1, slots := 256, locals := 40 } : Room).slots (T0.setTop (mkF m 35 #[.val (.ref a0), .val (.int p1), .val (.int (Int32.ofNat (own_G p1.toNatClampNeg))), .val (.ref tt), .val (.int (Int32.ofNat N))] [])) := by
    intro N
    induction N with
    | zero =>
      intro tt gg T0 hl locs Xl el Nl KCl sz_tt gn_tt nel El Fll Ftl Ol hN hf
      have hlt : ¬ ((0 : Int32) < (Int32.ofNat 0)) := by decide
      refine OGo.step (F' := T0.setTop (mkF m 70 #[.val (.ref a0), .val (.int p1), .val (.int (Int32.ofNat (own_G p1.toNatClampNeg))), .val (.ref tt), .val (.int (Int32.ofNat 0))] [(.int (Int32.ofNat (own_G p1.toNatClampNeg))), (.ref a0)])) (fun t kt => ?_) ?_
      · show Steps p.tables e below (T0.setTop (mkF m 35 #[.val (.ref a0), .val (.int p1), .val (.int (Int32.ofNat (own_G p1.toNatClampNeg))), .val (.ref tt), .val (.int (Int32.ofNat 0))] [])) t
        refine XS.iload Xl.here hx rfl (hb hby d4_35) rfl ?_
        show Steps p.tables e below (T0.setTop (mkF m 37 #[.val (.ref a0), .val (.int p1), .val (.int (Int32.ofNat (own_G p1.toNatClampNeg))), .val (.ref tt), .val (.int (Int32.ofNat 0))] [(.int (Int32.ofNat 0))])) t
        refine XS.ifYes Xl.here hx rfl (pc0 := 37) (pc' := 68) rfl (hb hby d4_37) rfl ((if0 _ _).trans (flt hlt).2.2.2) (by decide) (by decide) ?_
        show Steps p.tables e below (T0.setTop (mkF m 68 #[.val (.ref a0), .val (.int p1), .val (.int (Int32.ofNat (own_G p1.toNatClampNeg))), .val (.ref tt), .val (.int (Int32.ofNat 0))] [])) t
        refine XS.aloadN Xl.here hx rfl (hb hby d4_68) rfl rfl ?_
        show Steps p.tables e below (T0.setTop (mkF m 69 #[.val (.ref a0), .val (.int p1), .val (.int (Int32.ofNat (own_G p1.toNatClampNeg))), .val (.ref tt), .val (.int (Int32.ofNat 0))] [(.ref a0)])) t
        refine XS.iloadN Xl.here hx rfl (hb hby d4_69) rfl ?_
        exact kt
      obtain ⟨T1, h1, X1, e1, W1, st1⟩ := putF Xl hx hZ hown (host := "") (Or.inl (own_wd hw 11 rfl)) Via.refl el Fll El (Or.inl (own_wd hw 12 rfl)) (own_wd hw 3 rfl) (ty := .int) (by decide) rfl rfl (g := (mkF m 70 #[.val (.ref a0), .val (.int p1), .val (.int (Int32.ofNat (own_G p1.toNatClampNeg))), .val (.ref tt), .val (.int (Int32.ofNat 0))] [(.int (Int32.ofNat (own_G p1.toNatClampNeg))), (.ref a0)])) rfl rfl (hb hby d4_70)
      have Fw1 : Fld Z h1 a0 "com/example/kursor/kursor/storage/table/FreeSpace" "leaves" "I" (.int (Int32.ofNat (own_G p1.toNatClampNeg))) := Fll.same W1
      have KC1 : Keep h0 h1 [a0] := KCl.wr W1 (Or.inl (List.mem_of_getElem? (i := 0) rfl))
      have N1 := Fr.snoc X1 Nl gn_a0
      refine OGo.step st1 ?_
      show OGo _ _ _ _ _ _ _ (T1.setTop (mkF m 73 #[.val (.ref a0), .val (.int p1), .val (.int (Int32.ofNat (own_G p1.toNatClampNeg))), .val (.ref tt), .val (.int (Int32.ofNat 0))] []))
      refine OGo.step (F' := T1.setTop (mkF m 75 #[.val (.ref a0), .val (.int p1), .val (.int (Int32.ofNat (own_G p1.toNatClampNeg))), .val (.ref tt), .val (.int (Int32.ofNat 0))] [(.ref tt), (.ref a0)])) (fun t kt => ?_) ?_
      · show Steps p.tables e below (T1.setTop (mkF m 73 #[.val (.ref a0), .val (.int p1), .val (.int (Int32.ofNat (own_G p1.toNatClampNeg))), .val (.ref tt), .val (.int (Int32.ofNat 0))] [])) t
        refine XS.aloadN X1.here hx rfl (hb hby d4_73) rfl rfl ?_
        show Steps p.tables e below (T1.setTop (mkF m 74 #[.val (.ref a0), .val (.int p1), .val (.int (Int32.ofNat (own_G p1.toNatClampNeg))), .val (.ref tt), .val (.int (Int32.ofNat 0))] [(.ref a0)])) t
        refine XS.aloadN X1.here hx rfl (hb hby d4_74) rfl rfl ?_
        exact kt
      obtain ⟨T2, h2, X2, e2, W2, st2⟩ := putF X1 hx hZ hown (host := "") (Or.inl (own_wd hw 14 rfl)) Via.refl e1 (Ftl.other W1 (Or.inr (slot_ne (a0 := az) (Or.inl (own_wd hw 15 rfl)) (Or.inl (own_wd hw 12 rfl)) (by decide) (t := (.array .char)) (t' := .int) (by decide) (by decide)))) (El.wr W1) (Or.inl (own_wd hw 15 rfl)) (own_wd hw 3 rfl) (ty := (.array .char)) (by decide) rfl rfl (g := (mkF m 75 #[.val (.ref a0), .val (.int p1), .val (.int (Int32.ofNat (own_G p1.toNatClampNeg))), .val (.ref tt), .val (.int (Int32.ofNat 0))] [(.ref tt), (.ref a0)])) rfl rfl (hb hby d4_75)
      have Fw2 : Fld Z h2 a0 "com/example/kursor/kursor/storage/table/FreeSpace" "tree" "[C" (.ref tt) := (Ftl.other W1 (Or.inr (slot_ne (a0 := az) (Or.inl (own_wd hw 15 rfl)) (Or.inl (own_wd hw 12 rfl)) (by decide) (t := (.array .char)) (t' := .int) (by decide) (by decide)))).same W2
      have KC2 : Keep h0 h2 [a0] := KC1.wr W2 (Or.inl (List.mem_of_getElem? (i := 0) rfl))
      have N2 := Fr.snoc X2 N1 gn_a0
      refine OGo.step st2 ?_
      show OGo _ _ _ _ _ _ _ (T2.setTop (mkF m 78 #[.val (.ref a0), .val (.int p1), .val (.int (Int32.ofNat (own_G p1.toNatClampNeg))), .val (.ref tt), .val (.int (Int32.ofNat 0))] []))
      refine OGo.retV X2 hx hlk hret (hb hby d4_78) ?_ (by decide) (by decide)
      show Q4 Z a0 p1 t0 Lv g rm h0 n0 _ T2.heap _
      rw [e2]
      exact ⟨tt, rfl, N2, KC2, sz_tt, ((El.wr W1).wr W2), (Fw1.other W2 (Or.inr (slot_ne (a0 := az) (Or.inl (own_wd hw 12 rfl)) (Or.inl (own_wd hw 15 rfl)) (by decide) (t := .int) (t' := (.array .char)) (by decide) (by decide)))), Fw2, (((Ol.other W1 nel).other W2 nel).cast hf)⟩
    | succ N ih =>
      intro tt gg T0 hl locs Xl el Nl KCl sz_tt gn_tt nel El Fll Ftl Ol hN hf
      have hlt : (0 : Int32) < (Int32.ofNat (N + 1)) := (own_ep _ (by omega)).mpr (by omega)
      refine OGo.step (F' := T0.setTop (mkF m 48 #[.val (.ref a0), .val (.int p1), .val (.int (Int32.ofNat (own_G p1.toNatClampNeg))), .val (.ref tt), .val (.int (Int32.ofNat (N + 1)))] [(.int ((2 : Int32) * (Int32.ofNat (N + 1)))), (.ref tt), (.int (Int32.ofNat (N + 1))), (.ref tt)])) (fun t kt => ?_) ?_
      · show Steps p.tables e below (T0.setTop (mkF m 35 #[.val (.ref a0), .val (.int p1), .val (.int (Int32.ofNat (own_G p1.toNatClampNeg))), .val (.ref tt), .val (.int (Int32.ofNat (N + 1)))] [])) t
        refine XS.iload Xl.here hx rfl (hb hby d4_35) rfl ?_
        show Steps p.tables e below (T0.setTop (mkF m 37 #[.val (.ref a0), .val (.int p1), .val (.int (Int32.ofNat (own_G p1.toNatClampNeg))), .val (.ref tt), .val (.int (Int32.ofNat (N + 1)))] [(.int (Int32.ofNat (N + 1)))])) t
        refine XS.ifNo Xl.here hx rfl (hb hby d4_37) rfl ((if0 _ _).trans (tlt hlt).2.2.2) ?_
        show Steps p.tables e below (T0.setTop (mkF m 40 #[.val (.ref a0), .val (.int p1), .val (.int (Int32.ofNat (own_G p1.toNatClampNeg))), .val (.ref tt), .val (.int (Int32.ofNat (N + 1)))] [])) t
        refine XS.aloadN Xl.here hx rfl (hb hby d4_40) rfl rfl ?_
        show Steps p.tables e below (T0.setTop (mkF m 41 #[.val (.ref a0), .val (.int p1), .val (.int (Int32.ofNat (own_G p1.toNatClampNeg))), .val (.ref tt), .val (.int (Int32.ofNat (N + 1)))] [(.ref tt)])) t
        refine XS.iload Xl.here hx rfl (hb hby d4_41) rfl ?_
        show Steps p.tables e below (T0.setTop (mkF m 43 #[.val (.ref a0), .val (.int p1), .val (.int (Int32.ofNat (own_G p1.toNatClampNeg))), .val (.ref tt), .val (.int (Int32.ofNat (N + 1)))] [(.int (Int32.ofNat (N + 1))), (.ref tt)])) t
        refine XS.aloadN Xl.here hx rfl (hb hby d4_43) rfl rfl ?_
        show Steps p.tables e below (T0.setTop (mkF m 44 #[.val (.ref a0), .val (.int p1), .val (.int (Int32.ofNat (own_G p1.toNatClampNeg))), .val (.ref tt), .val (.int (Int32.ofNat (N + 1)))] [(.ref tt), (.int (Int32.ofNat (N + 1))), (.ref tt)])) t
        refine XS.iconst Xl.here hx rfl (hb hby d4_44) ?_
        show Steps p.tables e below (T0.setTop (mkF m 45 #[.val (.ref a0), .val (.int p1), .val (.int (Int32.ofNat (own_G p1.toNatClampNeg))), .val (.ref tt), .val (.int (Int32.ofNat (N + 1)))] [(.int (2 : Int32)), (.ref tt), (.int (Int32.ofNat (N + 1))), (.ref tt)])) t
        refine XS.iload Xl.here hx rfl (hb hby d4_45) rfl ?_
        show Steps p.tables e below (T0.setTop (mkF m 47 #[.val (.ref a0), .val (.int p1), .val (.int (Int32.ofNat (own_G p1.toNatClampNeg))), .val (.ref tt), .val (.int (Int32.ofNat (N + 1)))] [(.int (Int32.ofNat (N + 1))), (.int (2 : Int32)), (.ref tt), (.int (Int32.ofNat (N + 1))), (.ref tt)])) t
        refine XS.imul Xl.here hx rfl (hb hby d4_47) rfl ?_
        exact kt
      obtain ⟨hn3, kk3, cl3, Ar3, qz3, S3, N3a, H3, G3⟩ := id (Ol)
      obtain ⟨hin3, hat3⟩ := own_tat (g := gg) (j := ((2 : Int32) * (Int32.ofNat (N + 1)))) (i := (2 * (N + 1))) hn3 S3 H3 (own_e2 _) (by omega)
      refine OGo.step (F' := T0.setTop (mkF m 49 #[.val (.ref a0), .val (.int p1), .val (.int (Int32.ofNat (own_G p1.toNatClampNeg))), .val (.ref tt), .val (.int (Int32.ofNat (N + 1)))] [(.int (gg (2 * (N + 1)))), (.int (Int32.ofNat (N + 1))), (.ref tt)])) (fun t kt => ?_) ?_
      · show Steps p.tables e below (T0.setTop (mkF m 48 #[.val (.ref a0), .val (.int p1), .val (.int (Int32.ofNat (own_G p1.toNatClampNeg))), .val (.ref tt), .val (.int (Int32.ofNat (N + 1)))] [(.int ((2 : Int32) * (Int32.ofNat (N + 1)))), (.ref tt), (.int (Int32.ofNat (N + 1))), (.ref tt)])) t
        refine Xl.caload hx (j := ((2 : Int32) * (Int32.ofNat (N + 1)))) (v := (.int (gg (2 * (N + 1))))) (by rw [el]; exact Ar3.1) (State.isArrayOf_alike hZ.alike Ar3.2.1) Ar3.2.2 hin3 hat3 (g := (mkF m 48 #[.val (.ref a0), .val (.int p1), .val (.int (Int32.ofNat (own_G p1.toNatClampNeg))), .val (.ref tt), .val (.int (Int32.ofNat (N + 1)))] [(.int ((2 : Int32) * (Int32.ofNat (N + 1)))), (.ref tt), (.int (Int32.ofNat (N + 1))), (.ref tt)])) rfl rfl (hb hby d4_48) _ ?_
        exact kt
      refine OGo.step (F' := T0.setTop (mkF m 56 #[.val (.ref a0), .val (.int p1), .val (.int (Int32.ofNat (own_G p1.toNatClampNeg))), .val (.ref tt), .val (.int (Int32.ofNat (N + 1)))] [(.int (((2 : Int32) * (Int32.ofNat (N + 1))) + (1 : Int32))), (.ref tt), (.int (gg (2 * (N + 1)))), (.int (Int32.ofNat (N + 1))), (.ref tt)])) (fun t kt => ?_) ?_
      · show Steps p.tables e below (T0.setTop (mkF m 49 #[.val (.ref a0), .val (.int p1), .val (.int (Int32.ofNat (own_G p1.toNatClampNeg))), .val (.ref tt), .val (.int (Int32.ofNat (N + 1)))] [(.int (gg (2 * (N + 1)))), (.int (Int32.ofNat (N + 1))), (.ref tt)])) t
        refine XS.aloadN Xl.here hx rfl (hb hby d4_49) rfl rfl ?_
        show Steps p.tables e below (T0.setTop (mkF m 50 #[.val (.ref a0), .val (.int p1), .val (.int (Int32.ofNat (own_G p1.toNatClampNeg))), .val (.ref tt), .val (.int (Int32.ofNat (N + 1)))] [(.ref tt), (.int (gg (2 * (N + 1)))), (.int (Int32.ofNat (N + 1))), (.ref tt)])) t
        refine XS.iconst Xl.here hx rfl (hb hby d4_50) ?_
        show Steps p.tables e below (T0.setTop (mkF m 51 #[.val (.ref a0), .val (.int p1), .val (.int (Int32.ofNat (own_G p1.toNatClampNeg))), .val (.ref tt), .val (.int (Int32.ofNat (N + 1)))] [(.int (2 : Int32)), (.ref tt), (.int (gg (2 * (N + 1)))), (.int (Int32.ofNat (N + 1))), (.ref tt)])) t
        refine XS.iload Xl.here hx rfl (hb hby d4_51) rfl ?_
        show Steps p.tables e below (T0.setTop (mkF m 53 #[.val (.ref a0), .val (.int p1), .val (.int (Int32.ofNat (own_G p1.toNatClampNeg))), .val (.ref tt), .val (.int (Int32.ofNat (N + 1)))] [(.int (Int32.ofNat (N + 1))), (.int (2 : Int32)), (.ref tt), (.int (gg (2 * (N + 1)))), (.int (Int32.ofNat (N + 1))), (.ref tt)])) t
        refine XS.imul Xl.here hx rfl (hb hby d4_53) rfl ?_
        show Steps p.tables e below (T0.setTop (mkF m 54 #[.val (.ref a0), .val (.int p1), .val (.int (Int32.ofNat (own_G p1.toNatClampNeg))), .val (.ref tt), .val (.int (Int32.ofNat (N + 1)))] [(.int ((2 : Int32) * (Int32.ofNat (N + 1)))), (.ref tt), (.int (gg (2 * (N + 1)))), (.int (Int32.ofNat (N + 1))), (.ref tt)])) t
        refine XS.iconst Xl.here hx rfl (hb hby d4_54) ?_
        show Steps p.tables e below (T0.setTop (mkF m 55 #[.val (.ref a0), .val (.int p1), .val (.int (Int32.ofNat (own_G p1.toNatClampNeg))), .val (.ref tt), .val (.int (Int32.ofNat (N + 1)))] [(.int (1 : Int32)), (.int ((2 : Int32) * (Int32.ofNat (N + 1)))), (.ref tt), (.int (gg (2 * (N + 1)))), (.int (Int32.ofNat (N + 1))), (.ref tt)])) t
        refine XS.iadd Xl.here hx rfl (hb hby d4_55) rfl ?_
        exact kt
      obtain ⟨hn4, kk4, cl4, Ar4, qz4, S4, N4a, H4, G4⟩ := id (Ol)
      obtain ⟨hin4, hat4⟩ := own_tat (g := gg) (j := (((2 : Int32) * (Int32.ofNat (N + 1))) + (1 : Int32))) (i := (2 * (N + 1) + 1)) hn4 S4 H4 (own_e21 _) (by omega)
      refine OGo.step (F' := T0.setTop (mkF m 57 #[.val (.ref a0), .val (.int p1), .val (.int (Int32.ofNat (own_G p1.toNatClampNeg))), .val (.ref tt), .val (.int (Int32.ofNat (N + 1)))] [(.int (gg (2 * (N + 1) + 1))), (.int (gg (2 * (N + 1)))), (.int (Int32.ofNat (N + 1))), (.ref tt)])) (fun t kt => ?_) ?_
      · show Steps p.tables e below (T0.setTop (mkF m 56 #[.val (.ref a0), .val (.int p1), .val (.int (Int32.ofNat (own_G p1.toNatClampNeg))), .val (.ref tt), .val (.int (Int32.ofNat (N + 1)))] [(.int (((2 : Int32) * (Int32.ofNat (N + 1))) + (1 : Int32))), (.ref tt), (.int (gg (2 * (N + 1)))), (.int (Int32.ofNat (N + 1))), (.ref tt)])) t
        refine Xl.caload hx (j := (((2 : Int32) * (Int32.ofNat (N + 1))) + (1 : Int32))) (v := (.int (gg (2 * (N + 1) + 1)))) (by rw [el]; exact Ar4.1) (State.isArrayOf_alike hZ.alike Ar4.2.1) Ar4.2.2 hin4 hat4 (g := (mkF m 56 #[.val (.ref a0), .val (.int p1), .val (.int (Int32.ofNat (own_G p1.toNatClampNeg))), .val (.ref tt), .val (.int (Int32.ofNat (N + 1)))] [(.int (((2 : Int32) * (Int32.ofNat (N + 1))) + (1 : Int32))), (.ref tt), (.int (gg (2 * (N + 1)))), (.int (Int32.ofNat (N + 1))), (.ref tt)])) rfl rfl (hb hby d4_56) _ ?_
        exact kt
      refine OGo.callS Xl hx hZ (y := (⟨"java/lang/Math", "max", "(II)I"⟩ : MethodName)) hown (own_wd hw 39 rfl) (own_wd hw 40 rfl) (own_wd hw 41 rfl) (own_wd hw 42 rfl) (by decide) (rm7 l Z az hw [] (gg (2 * (N + 1))) (gg (2 * (N + 1) + 1)) hl n0 (Nat.le_trans Z0 KCl.1)) (W := 2) (by decide) (by decide) (g := (mkF m 57 #[.val (.ref a0), .val (.int p1), .val (.int (Int32.ofNat (own_G p1.toNatClampNeg))), .val (.ref tt), .val (.int (Int32.ofNat (N + 1)))] [(.int (gg (2 * (N + 1) + 1))), (.int (gg (2 * (N + 1)))), (.int (Int32.ofNat (N + 1))), (.ref tt)])) rfl (by rw [hml]; rfl) (argsL := [(.int (gg (2 * (N + 1)))), (.int (gg (2 * (N + 1) + 1)))]) (rest := [(.int (Int32.ofNat (N + 1))), (.ref tt)]) (lenOf pd_4_0 rfl) rfl (by show 2 * 0 + _ ≤ _; exact Nat.le_of_eq rfl) (hb hby d4_57) rfl el (by decide) (by decide) ?_
      rintro _ T5 L5 X5 ⟨rfl, Nq5, e5⟩
      have N5 := Fr.app Nl Nq5
      show OGo _ _ _ _ _ _ _ (T5.setTop (mkF m 60 #[.val (.ref a0), .val (.int p1), .val (.int (Int32.ofNat (own_G p1.toNatClampNeg))), .val (.ref tt), .val (.int (Int32.ofNat (N + 1)))] [(.int (f7 (gg (2 * (N + 1))) (gg (2 * (N + 1) + 1)))), (.int (Int32.ofNat (N + 1))), (.ref tt)]))
      refine OGo.step (F' := T5.setTop (mkF m 61 #[.val (.ref a0), .val (.int p1), .val (.int (Int32.ofNat (own_G p1.toNatClampNeg))), .val (.ref tt), .val (.int (Int32.ofNat (N + 1)))] [(.int ((f7 (gg (2 * (N + 1))) (gg (2 * (N + 1) + 1))).toUInt32.toUInt16.toUInt32.toInt32)), (.int (Int32.ofNat (N + 1))), (.ref tt)])) (fun t kt => ?_) ?_
      · show Steps p.tables e below (T5.setTop (mkF m 60 #[.val (.ref a0), .val (.int p1), .val (.int (Int32.ofNat (own_G p1.toNatClampNeg))), .val (.ref tt), .val (.int (Int32.ofNat (N + 1)))] [(.int (f7 (gg (2 * (N + 1))) (gg (2 * (N + 1) + 1)))), (.int (Int32.ofNat (N + 1))), (.ref tt)])) t
        refine XS.i2c X5.here hx rfl (hb hby d4_60) rfl ?_
        exact kt
      obtain ⟨hn6, kk6, cl6, Ar6, qz6, S6, N6a, H6, G6⟩ := id (Ol)
      obtain ⟨hin6, hat6⟩ := own_tat (g := gg) (j := (Int32.ofNat (N + 1))) (i := (N + 1)) hn6 S6 H6 rfl (by omega)
      obtain ⟨T6, h6, X6, e6, W6, st6⟩ := stC X5 hx hZ e5 Ar6 (j := (Int32.ofNat (N + 1))) hin6 (g := (mkF m 61 #[.val (.ref a0), .val (.int p1), .val (.int (Int32.ofNat (own_G p1.toNatClampNeg))), .val (.ref tt), .val (.int (Int32.ofNat (N + 1)))] [(.int ((f7 (gg (2 * (N + 1))) (gg (2 * (N + 1) + 1))).toUInt32.toUInt16.toUInt32.toInt32)), (.int (Int32.ofNat (N + 1))), (.ref tt)])) rfl rfl (hb hby d4_61)
      have O6 : OTr Z h6 tt (2 * (own_G p1.toNatClampNeg)) (own_upd gg (N + 1) (own_mx (gg (2 * (N + 1))) (gg (2 * (N + 1) + 1)))) := OTr.set Ol (v := (own_mx (gg (2 * (N + 1))) (gg (2 * (N + 1) + 1)))) W6 (N + 1) rfl (fits_nar_char _) (by omega)
      have KC6 : Keep h0 h6 [a0] := KCl.wr W6 (Or.inr sz_tt)
      have N6 := Fr.snoc X6 N5 gn_tt
      refine OGo.step st6 ?_
      show OGo _ _ _ _ _ _ _ (T6.setTop (mkF m 62 #[.val (.ref a0), .val (.int p1), .val (.int (Int32.ofNat (own_G p1.toNatClampNeg))), .val (.ref tt), .val (.int (Int32.ofNat (N + 1)))] []))
      refine OGo.step (F' := T6.setTop (mkF m 35 #[.val (.ref a0), .val (.int p1), .val (.int (Int32.ofNat (own_G p1.toNatClampNeg))), .val (.ref tt), .val (.int ((Int32.ofNat (N + 1)) + (-1 : Int32)))] [])) (fun t kt => ?_) ?_
      · show Steps p.tables e below (T6.setTop (mkF m 62 #[.val (.ref a0), .val (.int p1), .val (.int (Int32.ofNat (own_G p1.toNatClampNeg))), .val (.ref tt), .val (.int (Int32.ofNat (N + 1)))] [])) t
        refine XS.iinc X6.here hx rfl (hb hby d4_62) rfl (l' := #[.val (.ref a0), .val (.int p1), .val (.int (Int32.ofNat (own_G p1.toNatClampNeg))), .val (.ref tt), .val (.int ((Int32.ofNat (N + 1)) + (-1 : Int32)))]) rfl ?_
        show Steps p.tables e below (T6.setTop (mkF m 65 #[.val (.ref a0), .val (.int p1), .val (.int (Int32.ofNat (own_G p1.toNatClampNeg))), .val (.ref tt), .val (.int ((Int32.ofNat (N + 1)) + (-1 : Int32)))] [])) t
        refine XS.goto X6.here hx rfl (pc0 := 65) (pc' := 35) rfl (hb hby d4_65) (by decide) (by decide) ?_
        exact kt
      rw [own_em N (by omega)]
      exact ih tt _ T6 _ _ X6 e6 N6 KC6 sz_tt gn_tt nel (El.wr W6) (Fll.other W6 (Or.inl (Ne.symm nel))) (Ftl.other W6 (Or.inl (Ne.symm nel))) O6 (by omega) hf
  refine OGo.step (F' := s₁.setTop (mkF m 1 #[.val (.ref a0), .val (.int p1), .unset, .unset, .unset] [(.int p1)])) (fun t kt => ?_) ?_
  · show Steps p.tables e below (s₁.setTop (mkF m 0 #[.val (.ref a0), .val (.int p1), .unset, .unset, .unset] [])) t
    refine XS.iloadN X0.here hx rfl (hb hby d4_0) rfl ?_
    exact kt
  refine OGo.callS X0 hx hZ (y := (⟨"java/lang/Integer", "highestOneBit", "(I)I"⟩ : MethodName)) hown (own_wd hw 26 rfl) (own_wd hw 27 rfl) (own_wd hw 28 rfl) (own_wd hw 29 rfl) (by decide) (rm5 l Z az hw [] p1 h0 n0 Z0) (W := 0) (by decide) (by decide) (g := (mkF m 1 #[.val (.ref a0), .val (.int p1), .unset, .unset, .unset] [(.int p1)])) rfl (by rw [hml]; rfl) (argsL := [(.int p1)]) (rest := []) (lenOf pd_4_1 rfl) rfl (by show 2 * 0 + _ ≤ _; exact Nat.le_of_eq rfl) (hb hby d4_1) rfl e0 (by decide) (by decide) ?_
  rintro _ T7 L7 X7 ⟨rfl, Nq7, e7⟩
  have N7 := Fr.app N0 Nq7
  show OGo _ _ _ _ _ _ _ (T7.setTop (mkF m 4 #[.val (.ref a0), .val (.int p1), .unset, .unset, .unset] [(.int (f5 p1))]))
  refine OGo.step (F' := T7.setTop (mkF m 7 #[.val (.ref a0), .val (.int p1), .val (.int ((f5 p1) <<< ((1 : Int32) &&& 31))), .unset, .unset] [])) (fun t kt => ?_) ?_
  · show Steps p.tables e below (T7.setTop (mkF m 4 #[.val (.ref a0), .val (.int p1), .unset, .unset, .unset] [(.int (f5 p1))])) t
    refine XS.iconst X7.here hx rfl (hb hby d4_4) ?_
    show Steps p.tables e below (T7.setTop (mkF m 5 #[.val (.ref a0), .val (.int p1), .unset, .unset, .unset] [(.int (1 : Int32)), (.int (f5 p1))])) t
    refine XS.ishl X7.here hx rfl (hb hby d4_5) rfl ?_
    show Steps p.tables e below (T7.setTop (mkF m 6 #[.val (.ref a0), .val (.int p1), .unset, .unset, .unset] [(.int ((f5 p1) <<< ((1 : Int32) &&& 31)))])) t
    refine XS.istoreN X7.here hx rfl (hb hby d4_6) rfl (l' := #[.val (.ref a0), .val (.int p1), .val (.int ((f5 p1) <<< ((1 : Int32) &&& 31))), .unset, .unset]) rfl ?_
    exact kt
  rw [own_hob hp]
  show OGo _ _ _ _ _ _ _ (T7.setTop (mkF m 7 #[.val (.ref a0), .val (.int p1), .val (.int (Int32.ofNat (own_G p1.toNatClampNeg))), .unset, .unset] []))
  refine OGo.step (F' := T7.setTop (mkF m 10 #[.val (.ref a0), .val (.int p1), .val (.int (Int32.ofNat (own_G p1.toNatClampNeg))), .unset, .unset] [(.int ((2 : Int32) * (Int32.ofNat (own_G p1.toNatClampNeg))))])) (fun t kt => ?_) ?_
  · show Steps p.tables e below (T7.setTop (mkF m 7 #[.val (.ref a0), .val (.int p1), .val (.int (Int32.ofNat (own_G p1.toNatClampNeg))), .unset, .unset] [])) t
    refine XS.iconst X7.here hx rfl (hb hby d4_7) ?_
    show Steps p.tables e below (T7.setTop (mkF m 8 #[.val (.ref a0), .val (.int p1), .val (.int (Int32.ofNat (own_G p1.toNatClampNeg))), .unset, .unset] [(.int (2 : Int32))])) t
    refine XS.iloadN X7.here hx rfl (hb hby d4_8) rfl ?_
    show Steps p.tables e below (T7.setTop (mkF m 9 #[.val (.ref a0), .val (.int p1), .val (.int (Int32.ofNat (own_G p1.toNatClampNeg))), .unset, .unset] [(.int (Int32.ofNat (own_G p1.toNatClampNeg))), (.int (2 : Int32))])) t
    refine XS.imul X7.here hx rfl (hb hby d4_9) rfl ?_
    exact kt
  obtain ⟨T8, h8, k8, X8, e8, E8, A8, st8⟩ := newP X7 hx hZ (own_wd hw 13 rfl) e7 (g := (mkF m 10 #[.val (.ref a0), .val (.int p1), .val (.int (Int32.ofNat (own_G p1.toNatClampNeg))), .unset, .unset] [(.int ((2 : Int32) * (Int32.ofNat (own_G p1.toNatClampNeg))))])) rfl (hb hby d4_10) rfl (by rw [own_e2]; exact (own_on hG2).2.1) (cap := 256) (by rw [own_e2, (own_on hG2).1]; exact hG2) (by decide) (by decide) (by decide)
  obtain ⟨b8, g8⟩ : ∃ z, z = h0.size := ⟨_, rfl⟩
  rw [← g8] at A8 st8
  have sz_b8 : h0.size ≤ b8 := Nat.le_trans (Keep.refl h0 [a0]).1 (Nat.le_of_eq g8.symm)
  have gn_b8 : n0 ≤ b8 := Nat.le_trans Z0 sz_b8
  have KC8 : Keep h0 h8 [a0] := (Keep.refl h0 [a0]).ext E8
  have O8 : OTr Z h8 b8 (2 * (own_G p1.toNatClampNeg)) (fun _ => (0 : Int32)) := own_newT (2 * (own_G p1.toNatClampNeg)) A8 hG2 (own_e2 _)
  refine OGo.step st8 ?_
  show OGo _ _ _ _ _ _ _ (T8.setTop (mkF m 12 #[.val (.ref a0), .val (.int p1), .val (.int (Int32.ofNat (own_G p1.toNatClampNeg))), .unset, .unset] [(.ref b8)]))
  refine OGo.step (F' := T8.setTop (mkF m 14 #[.val (.ref a0), .val (.int p1), .val (.int (Int32.ofNat (own_G p1.toNatClampNeg))), .val (.ref b8), .unset] [(.ref a0)])) (fun t kt => ?_) ?_
  · show Steps p.tables e below (T8.setTop (mkF m 12 #[.val (.ref a0), .val (.int p1), .val (.int (Int32.ofNat (own_G p1.toNatClampNeg))), .unset, .unset] [(.ref b8)])) t
    refine XS.astoreN X8.here hx rfl (hb hby d4_12) rfl rfl (l' := #[.val (.ref a0), .val (.int p1), .val (.int (Int32.ofNat (own_G p1.toNatClampNeg))), .val (.ref b8), .unset]) rfl ?_
    show Steps p.tables e below (T8.setTop (mkF m 13 #[.val (.ref a0), .val (.int p1), .val (.int (Int32.ofNat (own_G p1.toNatClampNeg))), .val (.ref b8), .unset] [])) t
    refine XS.aloadN X8.here hx rfl (hb hby d4_13) rfl rfl ?_
    exact kt
  obtain ⟨T9, X9, e9, st9⟩ := getF X8 hx hZ hown (host := "") (Or.inl (own_wd hw 14 rfl)) Via.refl e8 (Ft_a0.ext E8) (g := (mkF m 14 #[.val (.ref a0), .val (.int p1), .val (.int (Int32.ofNat (own_G p1.toNatClampNeg))), .val (.ref b8), .unset] [(.ref a0)])) rfl rfl (hb hby d4_14)
  refine OGo.step st9 ?_
  show OGo _ _ _ _ _ _ _ (T9.setTop (mkF m 17 #[.val (.ref a0), .val (.int p1), .val (.int (Int32.ofNat (own_G p1.toNatClampNeg))), .val (.ref b8), .unset] [(.ref t0)]))
  refine OGo.step (F' := T9.setTop (mkF m 18 #[.val (.ref a0), .val (.int p1), .val (.int (Int32.ofNat (own_G p1.toNatClampNeg))), .val (.ref b8), .unset] [(.ref a0), (.ref t0)])) (fun t kt => ?_) ?_
  · show Steps p.tables e below (T9.setTop (mkF m 17 #[.val (.ref a0), .val (.int p1), .val (.int (Int32.ofNat (own_G p1.toNatClampNeg))), .val (.ref b8), .unset] [(.ref t0)])) t
    refine XS.aloadN X9.here hx rfl (hb hby d4_17) rfl rfl ?_
    exact kt
  obtain ⟨T10, X10, e10, st10⟩ := getF X9 hx hZ hown (host := "") (Or.inl (own_wd hw 11 rfl)) Via.refl e9 (Fl_a0.ext E8) (g := (mkF m 18 #[.val (.ref a0), .val (.int p1), .val (.int (Int32.ofNat (own_G p1.toNatClampNeg))), .val (.ref b8), .unset] [(.ref a0), (.ref t0)])) rfl rfl (hb hby d4_18)
  refine OGo.step st10 ?_
  show OGo _ _ _ _ _ _ _ (T10.setTop (mkF m 21 #[.val (.ref a0), .val (.int p1), .val (.int (Int32.ofNat (own_G p1.toNatClampNeg))), .val (.ref b8), .unset] [(.int (Int32.ofNat Lv)), (.ref t0)]))
  refine OGo.step (F' := T10.setTop (mkF m 24 #[.val (.ref a0), .val (.int p1), .val (.int (Int32.ofNat (own_G p1.toNatClampNeg))), .val (.ref b8), .unset] [(.ref a0), (.int (Int32.ofNat (own_G p1.toNatClampNeg))), (.ref b8), (.int (Int32.ofNat Lv)), (.ref t0)])) (fun t kt => ?_) ?_
  · show Steps p.tables e below (T10.setTop (mkF m 21 #[.val (.ref a0), .val (.int p1), .val (.int (Int32.ofNat (own_G p1.toNatClampNeg))), .val (.ref b8), .unset] [(.int (Int32.ofNat Lv)), (.ref t0)])) t
    refine XS.aloadN X10.here hx rfl (hb hby d4_21) rfl rfl ?_
    show Steps p.tables e below (T10.setTop (mkF m 22 #[.val (.ref a0), .val (.int p1), .val (.int (Int32.ofNat (own_G p1.toNatClampNeg))), .val (.ref b8), .unset] [(.ref b8), (.int (Int32.ofNat Lv)), (.ref t0)])) t
    refine XS.iloadN X10.here hx rfl (hb hby d4_22) rfl ?_
    show Steps p.tables e below (T10.setTop (mkF m 23 #[.val (.ref a0), .val (.int p1), .val (.int (Int32.ofNat (own_G p1.toNatClampNeg))), .val (.ref b8), .unset] [(.int (Int32.ofNat (own_G p1.toNatClampNeg))), (.ref b8), (.int (Int32.ofNat Lv)), (.ref t0)])) t
    refine XS.aloadN X10.here hx rfl (hb hby d4_23) rfl rfl ?_
    exact kt
  obtain ⟨T11, X11, e11, st11⟩ := getF X10 hx hZ hown (host := "") (Or.inl (own_wd hw 11 rfl)) Via.refl e10 (Fl_a0.ext E8) (g := (mkF m 24 #[.val (.ref a0), .val (.int p1), .val (.int (Int32.ofNat (own_G p1.toNatClampNeg))), .val (.ref b8), .unset] [(.ref a0), (.int (Int32.ofNat (own_G p1.toNatClampNeg))), (.ref b8), (.int (Int32.ofNat Lv)), (.ref t0)])) rfl rfl (hb hby d4_24)
  refine OGo.step st11 ?_
  show OGo _ _ _ _ _ _ _ (T11.setTop (mkF m 27 #[.val (.ref a0), .val (.int p1), .val (.int (Int32.ofNat (own_G p1.toNatClampNeg))), .val (.ref b8), .unset] [(.int (Int32.ofNat Lv)), (.int (Int32.ofNat (own_G p1.toNatClampNeg))), (.ref b8), (.int (Int32.ofNat Lv)), (.ref t0)]))
  obtain ⟨hna12, ka12, Va12⟩ := id ((O_t0.ext E8))
  obtain ⟨hnb12, kb12, Vb12⟩ := id (O8)
  have oL := own_on (n := Lv) (by omega); have oG := own_on (n := (own_G p1.toNatClampNeg)) (by omega); have oL2 := own_on (n := 2 * Lv) (by omega); have oG2 := own_on (n := 2 * (own_G p1.toNatClampNeg)) (by omega)
  obtain ⟨T12, h12, L12, X12, e12, N12, K12, V12, st12⟩ := cpA X11 hx hZ hown (own_wd hw 35 rfl) (own_wd hw 38 rfl) (own_wd hw 36 rfl) (own_wd hw 37 rfl) e11 Va12 Vb12 (Or.inl ⟨rfl, rfl⟩) oL.2.1 oG.2.1 oL.2.1 (by rw [oL.1, oL2.1]; omega) (by rw [oL.1, oG.1, oG2.1]; omega) rfl (by rw [oL.1, oG.1, List.length_map, List.length_range]; omega) N7 gn_b8 (g := (mkF m 27 #[.val (.ref a0), .val (.int p1), .val (.int (Int32.ofNat (own_G p1.toNatClampNeg))), .val (.ref b8), .unset] [(.int (Int32.ofNat Lv)), (.int (Int32.ofNat (own_G p1.toNatClampNeg))), (.ref b8), (.int (Int32.ofNat Lv)), (.ref t0)])) rfl (by rw [hml]; rfl) rfl (hb hby d4_27) (by decide) (W := 0) (by show 2 * 0 + _ ≤ _; exact Nat.le_of_eq rfl) (by decide)
  have O12 : OTr Z h12 b8 (2 * (own_G p1.toNatClampNeg)) (own_cp Lv (own_G p1.toNatClampNeg) g) := by
    rw [oL.1, oG.1, own_tcp Lv (own_G p1.toNatClampNeg) g (by omega)] at V12
    exact ⟨hnb12, kb12, V12⟩
  have KC12 : Keep h0 h12 [a0] := KC8.trans K12 (allS (Or.inr sz_b8) all0)
  refine OGo.step st12 ?_
  show OGo _ _ _ _ _ _ _ (T12.setTop (mkF m 30 #[.val (.ref a0), .val (.int p1), .val (.int (Int32.ofNat (own_G p1.toNatClampNeg))), .val (.ref b8), .unset] []))
  refine OGo.step (F' := T12.setTop (mkF m 35 #[.val (.ref a0), .val (.int p1), .val (.int (Int32.ofNat (own_G p1.toNatClampNeg))), .val (.ref b8), .val (.int ((Int32.ofNat (own_G p1.toNatClampNeg)) - (1 : Int32)))] [])) (fun t kt => ?_) ?_
  · show Steps p.tables e below (T12.setTop (mkF m 30 #[.val (.ref a0), .val (.int p1), .val (.int (Int32.ofNat (own_G p1.toNatClampNeg))), .val (.ref b8), .unset] [])) t
    refine XS.iloadN X12.here hx rfl (hb hby d4_30) rfl ?_
    show Steps p.tables e below (T12.setTop (mkF m 31 #[.val (.ref a0), .val (.int p1), .val (.int (Int32.ofNat (own_G p1.toNatClampNeg))), .val (.ref b8), .unset] [(.int (Int32.ofNat (own_G p1.toNatClampNeg)))])) t
    refine XS.iconst X12.here hx rfl (hb hby d4_31) ?_
    show Steps p.tables e below (T12.setTop (mkF m 32 #[.val (.ref a0), .val (.int p1), .val (.int (Int32.ofNat (own_G p1.toNatClampNeg))), .val (.ref b8), .unset] [(.int (1 : Int32)), (.int (Int32.ofNat (own_G p1.toNatClampNeg)))])) t
    refine XS.isub X12.here hx rfl (hb hby d4_32) rfl ?_
    show Steps p.tables e below (T12.setTop (mkF m 33 #[.val (.ref a0), .val (.int p1), .val (.int (Int32.ofNat (own_G p1.toNatClampNeg))), .val (.ref b8), .unset] [(.int ((Int32.ofNat (own_G p1.toNatClampNeg)) - (1 : Int32)))])) t
    refine XS.istore X12.here hx rfl (hb hby d4_33) rfl (l' := #[.val (.ref a0), .val (.int p1), .val (.int (Int32.ofNat (own_G p1.toNatClampNeg))), .val (.ref b8), .val (.int ((Int32.ofNat (own_G p1.toNatClampNeg)) - (1 : Int32)))]) rfl ?_
    exact kt
  rw [own_es (own_G p1.toNatClampNeg) hG8.1 (by omega)]
  exact lp ((own_G p1.toNatClampNeg) - 1) b8 _ T12 _ _ X12 e12 N12 KC12 sz_b8 gn_b8 (Ne.symm (Nat.ne_of_lt (Nat.lt_of_lt_of_le E_a0.lt (Nat.le_of_eq g8.symm)))) ((E_a0.ext E8).keep K12) ((Fl_a0.ext E8).keep K12 (ninS (Nat.ne_of_lt (Nat.lt_of_lt_of_le E_a0.lt (Nat.le_of_eq g8.symm))) nin0)) ((Ft_a0.ext E8).keep K12 (ninS (Nat.ne_of_lt (Nat.lt_of_lt_of_le E_a0.lt (Nat.le_of_eq g8.symm))) nin0)) O12 (by omega) rfl
theorem own_up1 (k N : Nat) (g : Nat → Int32) (h : 0 < N) : own_up (k + 1) N g = own_up k (N / 2) (own_upd g N (own_mx (g (2 * N)) (g (2 * N + 1)))) := by rw [own_up, if_neg (by omega)]
theorem own_plt {p : Int32} {L : Nat} (h : 0 ≤ p.toInt) (hL : L ≤ 128) : (p < Int32.ofNat L) ↔ p.toNatClampNeg < L := by
  rw [Int32.lt_iff_toInt_lt, (own_on (by omega)).2.2]
  have q : p.toNatClampNeg = p.toInt.toNat := rfl
  omega
theorem own_p29 {p : Int32} (h : own_pg p) : p < (536870912 : Int32) := by
  obtain ⟨a, b⟩ := h
  rw [Int32.lt_iff_toInt_lt]; show p.toInt < 536870912; omega
theorem own_eLq {p : Int32} {L : Nat} (h : 0 ≤ p.toInt) (hL : L ≤ 128) (hp : p < Int32.ofNat L) : Int32.ofNat L + p = Int32.ofNat (L + p.toNatClampNeg) := by
  have a := (own_plt h hL).mp hp
  have q : p.toNatClampNeg = p.toInt.toNat := rfl
  have e : p = Int32.ofNat p.toNatClampNeg := by rw [← Int32.toInt_inj, (own_on (by omega)).2.2]; omega
  rw [Int32.ofNat_add, ← e]
theorem own_init {L P : Nat} (h : P < L) (rm : Nat → Int32) (x : Int32) : own_cov L 0 (L + P) ∧ L + P ≤ (L + P) * 2 ^ 0 ∧ own_low L rm P x ((L + P) * 2 ^ 0) := by
  unfold own_cov own_low
  rw [Nat.pow_zero, Nat.mul_one, Nat.mul_one]
  exact ⟨⟨by omega, by omega⟩, Nat.le_refl _, fun q a b => by omega⟩
/-! body 3: com/example/kursor/kursor/storage/table/FreeSpace.set:(II)V -/
theorem d3_0 : decode prog_211_method_3_code 0 = .ok (.iload_n 1, 1) := by decide +kernel
theorem d3_1 : decode prog_211_method_3_code 1 = .ok (.ldc 17, 2) := by decide +kernel
theorem d3_3 : decode prog_211_method_3_code 3 = .ok (.if_icmp .lt 4, 3) := by decide +kernel
theorem d3_7 : decode prog_211_method_3_code 7 = .ok (.iload_n 1, 1) := by decide +kernel
theorem d3_8 : decode prog_211_method_3_code 8 = .ok (.aload_n 0, 1) := by decide +kernel
theorem d3_9 : decode prog_211_method_3_code 9 = .ok (.getfield 7, 3) := by decide +kernel
theorem d3_12 : decode prog_211_method_3_code 12 = .ok (.if_icmp .lt 8, 3) := by decide +kernel
theorem d3_15 : decode prog_211_method_3_code 15 = .ok (.aload_n 0, 1) := by decide +kernel
theorem d3_16 : decode prog_211_method_3_code 16 = .ok (.iload_n 1, 1) := by decide +kernel
theorem d3_17 : decode prog_211_method_3_code 17 = .ok (.invokevirtual 18, 3) := by decide +kernel
theorem d3_20 : decode prog_211_method_3_code 20 = .ok (.aload_n 0, 1) := by decide +kernel
theorem d3_21 : decode prog_211_method_3_code 21 = .ok (.getfield 7, 3) := by decide +kernel
theorem d3_24 : decode prog_211_method_3_code 24 = .ok (.iload_n 1, 1) := by decide +kernel
theorem d3_25 : decode prog_211_method_3_code 25 = .ok (.iadd, 1) := by decide +kernel
theorem d3_26 : decode prog_211_method_3_code 26 = .ok (.istore_n 3, 1) := by decide +kernel
theorem d3_27 : decode prog_211_method_3_code 27 = .ok (.aload_n 0, 1) := by decide +kernel
theorem d3_28 : decode prog_211_method_3_code 28 = .ok (.getfield 13, 3) := by decide +kernel
theorem d3_31 : decode prog_211_method_3_code 31 = .ok (.iload_n 3, 1) := by decide +kernel
theorem d3_32 : decode prog_211_method_3_code 32 = .ok (.iload_n 2, 1) := by decide +kernel
theorem d3_33 : decode prog_211_method_3_code 33 = .ok (.i2c, 1) := by decide +kernel
theorem d3_34 : decode prog_211_method_3_code 34 = .ok (.castore, 1) := by decide +kernel
theorem d3_35 : decode prog_211_method_3_code 35 = .ok (.iload_n 3, 1) := by decide +kernel
theorem d3_36 : decode prog_211_method_3_code 36 = .ok (.iconst 1, 1) := by decide +kernel
theorem d3_37 : decode prog_211_method_3_code 37 = .ok (.ishr, 1) := by decide +kernel
theorem d3_38 : decode prog_211_method_3_code 38 = .ok (.istore_n 3, 1) := by decide +kernel
theorem d3_39 : decode prog_211_method_3_code 39 = .ok (.iload_n 3, 1) := by decide +kernel
theorem d3_40 : decode prog_211_method_3_code 40 = .ok (.ifCond .le 38, 3) := by decide +kernel
theorem d3_43 : decode prog_211_method_3_code 43 = .ok (.aload_n 0, 1) := by decide +kernel
theorem d3_44 : decode prog_211_method_3_code 44 = .ok (.getfield 13, 3) := by decide +kernel
theorem d3_47 : decode prog_211_method_3_code 47 = .ok (.iload_n 3, 1) := by decide +kernel
theorem d3_48 : decode prog_211_method_3_code 48 = .ok (.aload_n 0, 1) := by decide +kernel
theorem d3_49 : decode prog_211_method_3_code 49 = .ok (.getfield 13, 3) := by decide +kernel
theorem d3_52 : decode prog_211_method_3_code 52 = .ok (.iconst 2, 1) := by decide +kernel
theorem d3_53 : decode prog_211_method_3_code 53 = .ok (.iload_n 3, 1) := by decide +kernel
theorem d3_54 : decode prog_211_method_3_code 54 = .ok (.imul, 1) := by decide +kernel
theorem d3_55 : decode prog_211_method_3_code 55 = .ok (.caload, 1) := by decide +kernel
theorem d3_56 : decode prog_211_method_3_code 56 = .ok (.aload_n 0, 1) := by decide +kernel
theorem d3_57 : decode prog_211_method_3_code 57 = .ok (.getfield 13, 3) := by decide +kernel
theorem d3_60 : decode prog_211_method_3_code 60 = .ok (.iconst 2, 1) := by decide +kernel
theorem d3_61 : decode prog_211_method_3_code 61 = .ok (.iload_n 3, 1) := by decide +kernel
theorem d3_62 : decode prog_211_method_3_code 62 = .ok (.imul, 1) := by decide +kernel
theorem d3_63 : decode prog_211_method_3_code 63 = .ok (.iconst 1, 1) := by decide +kernel
theorem d3_64 : decode prog_211_method_3_code 64 = .ok (.iadd, 1) := by decide +kernel
theorem d3_65 : decode prog_211_method_3_code 65 = .ok (.caload, 1) := by decide +kernel
theorem d3_66 : decode prog_211_method_3_code 66 = .ok (.invokestatic 22, 3) := by decide +kernel
theorem d3_69 : decode prog_211_method_3_code 69 = .ok (.i2c, 1) := by decide +kernel
theorem d3_70 : decode prog_211_method_3_code 70 = .ok (.castore, 1) := by decide +kernel
theorem d3_71 : decode prog_211_method_3_code 71 = .ok (.iload_n 3, 1) := by decide +kernel
theorem d3_72 : decode prog_211_method_3_code 72 = .ok (.iconst 1, 1) := by decide +kernel
theorem d3_73 : decode prog_211_method_3_code 73 = .ok (.ishr, 1) := by decide +kernel
theorem d3_74 : decode prog_211_method_3_code 74 = .ok (.istore_n 3, 1) := by decide +kernel
theorem d3_75 : decode prog_211_method_3_code 75 = .ok (.goto (-36), 3) := by decide +kernel
theorem d3_78 : decode prog_211_method_3_code 78 = .ok (.return_, 1) := by decide +kernel
theorem pn_3 : plainName "com/example/kursor/kursor/storage/table/FreeSpace" = true := by first | (simp [plainName, overriddenIn]; done) | decide +kernel
theorem pd_3_0 : parseMethodDescriptor "(II)I" = some ⟨[.int, .int], some .int⟩ := by decide +kernel
theorem pd_3_1 : parseMethodDescriptor "(I)V" = some ⟨[.int], none⟩ := by decide +kernel
theorem ef_3 (m : MethodId) (x0 : Addr) (x1 : Int32) (x2 : Int32) : entryFrame m #[(.ref x0), (.int x1), (.int x2)] 4 = mkF m 0 #[.val (.ref x0), .val (.int x1), .val (.int x2), .unset] [] := by first | (simp [entryFrame, mkF, argsToLocals, Value.category]; done) | rfl
def Q3 (Z : State) (a0 : Addr) (p1 : Int32) (p2 : Int32) (t0 : Addr) (Lv : Nat) (g : Nat → Int32) (rm : Nat → Int32) (h0 : Heap) (n0 : Nat) (v : Option Value) (h : Heap) (L : List Loc) : Prop := ∃ t1 : Addr, ∃ L1 : Nat, ∃ g1 : Nat → Int32, v = none ∧ Fr n0 L ∧ Keep h0 h [a0, t0] ∧ Exa Z h a0 "com/example/kursor/kursor/storage/table/FreeSpace" ∧ Fld Z h a0 "com/example/kursor/kursor/storage/table/FreeSpace" "leaves" "I" (.int (Int32.ofNat L1)) ∧ Fld Z h a0 "com/example/kursor/kursor/storage/table/FreeSpace" "tree" "[C" (.ref t1) ∧ OTr Z h t1 (2 * L1) g1 ∧ own_val L1 g1 (own_upd rm p1.toNatClampNeg (own_ch p2)) ∧ n0 ≤ t1 ∧ (t1 = t0 ∨ h0.size ≤ t1)
set_option maxRecDepth 65536 in
set_option maxHeartbeats 40000000 in
theorem rm3 (l : Launch) (Z : State) (az : Array Value) (hw : ∀ d ∈ tables_1, d.before az Z = true) (ws : List Jvm.Cond) (a0 : Addr) (p1 : Int32) (p2 : Int32) (t0 : Addr) (Lv : Nat) (g : Nat → Int32) (rm : Nat → Int32) (h0 : Heap) (n0 : Nat) (Z0 : n0 ≤ h0.size) (E_a0 : Exa Z h0 a0 "com/example/kursor/kursor/storage/table/FreeSpace") (Fl_a0 : Fld Z h0 a0 "com/example/kursor/kursor/storage/table/FreeSpace" "leaves" "I" (.int (Int32.ofNat Lv))) (Ft_a0 : Fld Z h0 a0 "com/example/kursor/kursor/storage/table/FreeSpace" "tree" "[C" (.ref t0)) (O_t0 : OTr Z h0 t0 (2 * Lv) g) (hV : own_val Lv g rm) (hp : own_pg p1) (hne : t0 ≠ a0) (gn_t0 : n0 ≤ t0) (gn_a0 : n0 ≤ a0) :
    OCtr l Z (⟨"com/example/kursor/kursor/storage/table/FreeSpace", "set", "(II)V"⟩ : MethodName) prog_211_method_3_code 4 none ws ({ frames := 3, cells := 1, slots := 256, locals := 60 } : Room) #[(.ref a0), (.int p1), (.int p2)] h0 (Q3 Z a0 p1 p2 t0 Lv g rm h0 n0) := by
  refine OCtr.of (plainFor_of_name pn_3) ?_
  intro p e s m below meth c s₁ X0 hx hlk hZ hown0 hnm hby hml0 hret e0
  have hown : s.vm.findClass "com/example/kursor/kursor/storage/table/FreeSpace" = some m.cls := hown0
  have hml : c.maxLocals = 4 := hml0
  have N0 := Fr.nil n0
  refine OGo.step (fun t k => castTop (ef_3 m a0 p1 p2) k) ?_
  have hL8 := own_l128 hV.1
  obtain ⟨hGw, hGp⟩ := own_Gw hp
  have hG8 := own_l128 hGw
  have hpn := own_pgn hp
  have hp0 : 0 ≤ p1.toInt := by have := hp.1; omega
  have lpA : ∀ (k N : Nat) (gg : Nat → Int32) (T0 : State) (hl : Heap) (locs : List Loc), Stand p l e ({ frames := 3, cells := 1, slots := 256, locals := 60 } : Room) s m #[(.ref a0), (.int p1), (.int p2)] below meth c T0 locs 0 0 → T0.heap = hl → Fr n0 locs → Keep h0 hl [a0, t0] → t0 ≠ a0 → Exa Z hl a0 "com/example/kursor/kursor/storage/table/FreeSpace" → Fld Z hl a0 "com/example/kursor/kursor/storage/table/FreeSpace" "leaves" "I" (.int (Int32.ofNat Lv)) → Fld Z hl a0 "com/example/kursor/kursor/storage/table/FreeSpace" "tree" "[C" (.ref t0) → OTr Z hl t0 (2 * Lv) gg → Lv ≤ 128 → N < Lv → N < 2 ^ k → own_val Lv (own_up k N gg) (own_upd rm p1.toNatClampNeg (own_ch p2)) → OGo p e below s (Q3 Z a0 p1 p2 t0 Lv g rm h0 n0) ({ frames := 3, cells := 1, slots := 256, locals := 60 } : Room).cells ({ frames := 3, cells := 1, slots := 256, locals := 60 } : Room).slots (T0.setTop (mkF m 39 #[.val (.ref a0), .val (.int p1), .val (.int p2), .val (.int (Int32.ofNat N))] [])) := by
    intro k
    induction k with
    | zero =>
      intro N gg T0 hl locs Xl el Nl KCl nel El Fll Ftl Ol hLL hN hk hf
      have hN0 : N = 0 := by rw [Nat.pow_zero] at hk; omega
      subst hN0
      have hlt : ¬ ((0 : Int32) < (Int32.ofNat 0)) := by decide
      refine OGo.step (F' := T0.setTop (mkF m 78 #[.val (.ref a0), .val (.int p1), .val (.int p2), .val (.int (Int32.ofNat 0))] [])) (fun t kt => ?_) ?_
      · show Steps p.tables e below (T0.setTop (mkF m 39 #[.val (.ref a0), .val (.int p1), .val (.int p2), .val (.int (Int32.ofNat 0))] [])) t
        refine XS.iloadN Xl.here hx rfl (hb hby d3_39) rfl ?_
        show Steps p.tables e below (T0.setTop (mkF m 40 #[.val (.ref a0), .val (.int p1), .val (.int p2), .val (.int (Int32.ofNat 0))] [(.int (Int32.ofNat 0))])) t
        refine XS.ifYes Xl.here hx rfl (pc0 := 40) (pc' := 78) rfl (hb hby d3_40) rfl ((if0 _ _).trans (flt hlt).2.2.2) (by decide) (by decide) ?_
        exact kt
      refine OGo.retV Xl hx hlk hret (hb hby d3_78) ?_ (by decide) (by decide)
      show Q3 Z a0 p1 p2 t0 Lv g rm h0 n0 _ T0.heap _
      rw [el]
      exact ⟨t0, Lv, gg, rfl, Nl, KCl, El, Fll, Ftl, Ol, hf, gn_t0, (Or.inl rfl)⟩
    | succ k ih =>
      intro N gg T0 hl locs Xl el Nl KCl nel El Fll Ftl Ol hLL hN hk hf
      rcases Nat.eq_zero_or_pos N with hz | hz
      · subst hz
        have hlt : ¬ ((0 : Int32) < (Int32.ofNat 0)) := by decide
        refine OGo.step (F' := T0.setTop (mkF m 78 #[.val (.ref a0), .val (.int p1), .val (.int p2), .val (.int (Int32.ofNat 0))] [])) (fun t kt => ?_) ?_
        · show Steps p.tables e below (T0.setTop (mkF m 39 #[.val (.ref a0), .val (.int p1), .val (.int p2), .val (.int (Int32.ofNat 0))] [])) t
          refine XS.iloadN Xl.here hx rfl (hb hby d3_39) rfl ?_
          show Steps p.tables e below (T0.setTop (mkF m 40 #[.val (.ref a0), .val (.int p1), .val (.int p2), .val (.int (Int32.ofNat 0))] [(.int (Int32.ofNat 0))])) t
          refine XS.ifYes Xl.here hx rfl (pc0 := 40) (pc' := 78) rfl (hb hby d3_40) rfl ((if0 _ _).trans (flt hlt).2.2.2) (by decide) (by decide) ?_
          exact kt
        refine OGo.retV Xl hx hlk hret (hb hby d3_78) ?_ (by decide) (by decide)
        show Q3 Z a0 p1 p2 t0 Lv g rm h0 n0 _ T0.heap _
        rw [el]
        exact ⟨t0, Lv, gg, rfl, Nl, KCl, El, Fll, Ftl, Ol, hf, gn_t0, (Or.inl rfl)⟩
      · have hlt : (0 : Int32) < (Int32.ofNat N) := (own_ep _ (by omega)).mpr hz
        refine OGo.step (F' := T0.setTop (mkF m 44 #[.val (.ref a0), .val (.int p1), .val (.int p2), .val (.int (Int32.ofNat N))] [(.ref a0)])) (fun t kt => ?_) ?_
        · show Steps p.tables e below (T0.setTop (mkF m 39 #[.val (.ref a0), .val (.int p1), .val (.int p2), .val (.int (Int32.ofNat N))] [])) t
          refine XS.iloadN Xl.here hx rfl (hb hby d3_39) rfl ?_
          show Steps p.tables e below (T0.setTop (mkF m 40 #[.val (.ref a0), .val (.int p1), .val (.int p2), .val (.int (Int32.ofNat N))] [(.int (Int32.ofNat N))])) t
          refine XS.ifNo Xl.here hx rfl (hb hby d3_40) rfl ((if0 _ _).trans (tlt hlt).2.2.2) ?_
          show Steps p.tables e below (T0.setTop (mkF m 43 #[.val (.ref a0), .val (.int p1), .val (.int p2), .val (.int (Int32.ofNat N))] [])) t
          refine XS.aloadN Xl.here hx rfl (hb hby d3_43) rfl rfl ?_
          exact kt
        obtain ⟨T1, X1, e1, st1⟩ := getF Xl hx hZ hown (host := "") (Or.inl (own_wd hw 14 rfl)) Via.refl el Ftl (g := (mkF m 44 #[.val (.ref a0), .val (.int p1), .val (.int p2), .val (.int (Int32.ofNat N))] [(.ref a0)])) rfl rfl (hb hby d3_44)
        refine OGo.step st1 ?_
        show OGo _ _ _ _ _ _ _ (T1.setTop (mkF m 47 #[.val (.ref a0), .val (.int p1), .val (.int p2), .val (.int (Int32.ofNat N))] [(.ref t0)]))
        refine OGo.step (F' := T1.setTop (mkF m 49 #[.val (.ref a0), .val (.int p1), .val (.int p2), .val (.int (Int32.ofNat N))] [(.ref a0), (.int (Int32.ofNat N)), (.ref t0)])) (fun t kt => ?_) ?_
        · show Steps p.tables e below (T1.setTop (mkF m 47 #[.val (.ref a0), .val (.int p1), .val (.int p2), .val (.int (Int32.ofNat N))] [(.ref t0)])) t
          refine XS.iloadN X1.here hx rfl (hb hby d3_47) rfl ?_
          show Steps p.tables e below (T1.setTop (mkF m 48 #[.val (.ref a0), .val (.int p1), .val (.int p2), .val (.int (Int32.ofNat N))] [(.int (Int32.ofNat N)), (.ref t0)])) t
          refine XS.aloadN X1.here hx rfl (hb hby d3_48) rfl rfl ?_
          exact kt
        obtain ⟨T2, X2, e2, st2⟩ := getF X1 hx hZ hown (host := "") (Or.inl (own_wd hw 14 rfl)) Via.refl e1 Ftl (g := (mkF m 49 #[.val (.ref a0), .val (.int p1), .val (.int p2), .val (.int (Int32.ofNat N))] [(.ref a0), (.int (Int32.ofNat N)), (.ref t0)])) rfl rfl (hb hby d3_49)
        refine OGo.step st2 ?_
        show OGo _ _ _ _ _ _ _ (T2.setTop (mkF m 52 #[.val (.ref a0), .val (.int p1), .val (.int p2), .val (.int (Int32.ofNat N))] [(.ref t0), (.int (Int32.ofNat N)), (.ref t0)]))
        refine OGo.step (F' := T2.setTop (mkF m 55 #[.val (.ref a0), .val (.int p1), .val (.int p2), .val (.int (Int32.ofNat N))] [(.int ((2 : Int32) * (Int32.ofNat N))), (.ref t0), (.int (Int32.ofNat N)), (.ref t0)])) (fun t kt => ?_) ?_
        · show Steps p.tables e below (T2.setTop (mkF m 52 #[.val (.ref a0), .val (.int p1), .val (.int p2), .val (.int (Int32.ofNat N))] [(.ref t0), (.int (Int32.ofNat N)), (.ref t0)])) t
          refine XS.iconst X2.here hx rfl (hb hby d3_52) ?_
          show Steps p.tables e below (T2.setTop (mkF m 53 #[.val (.ref a0), .val (.int p1), .val (.int p2), .val (.int (Int32.ofNat N))] [(.int (2 : Int32)), (.ref t0), (.int (Int32.ofNat N)), (.ref t0)])) t
          refine XS.iloadN X2.here hx rfl (hb hby d3_53) rfl ?_
          show Steps p.tables e below (T2.setTop (mkF m 54 #[.val (.ref a0), .val (.int p1), .val (.int p2), .val (.int (Int32.ofNat N))] [(.int (Int32.ofNat N)), (.int (2 : Int32)), (.ref t0), (.int (Int32.ofNat N)), (.ref t0)])) t
          refine XS.imul X2.here hx rfl (hb hby d3_54) rfl ?_
          exact kt
        obtain ⟨hn3, kk3, cl3, Ar3, qz3, S3, N3a, H3, G3⟩ := id (Ol)
        obtain ⟨hin3, hat3⟩ := own_tat (g := gg) (j := ((2 : Int32) * (Int32.ofNat N))) (i := (2 * N)) hn3 S3 H3 (own_e2 _) (by omega)
        refine OGo.step (F' := T2.setTop (mkF m 56 #[.val (.ref a0), .val (.int p1), .val (.int p2), .val (.int (Int32.ofNat N))] [(.int (gg (2 * N))), (.int (Int32.ofNat N)), (.ref t0)])) (fun t kt => ?_) ?_
        · show Steps p.tables e below (T2.setTop (mkF m 55 #[.val (.ref a0), .val (.int p1), .val (.int p2), .val (.int (Int32.ofNat N))] [(.int ((2 : Int32) * (Int32.ofNat N))), (.ref t0), (.int (Int32.ofNat N)), (.ref t0)])) t
          refine X2.caload hx (j := ((2 : Int32) * (Int32.ofNat N))) (v := (.int (gg (2 * N)))) (by rw [e2]; exact Ar3.1) (State.isArrayOf_alike hZ.alike Ar3.2.1) Ar3.2.2 hin3 hat3 (g := (mkF m 55 #[.val (.ref a0), .val (.int p1), .val (.int p2), .val (.int (Int32.ofNat N))] [(.int ((2 : Int32) * (Int32.ofNat N))), (.ref t0), (.int (Int32.ofNat N)), (.ref t0)])) rfl rfl (hb hby d3_55) _ ?_
          exact kt
        refine OGo.step (F' := T2.setTop (mkF m 57 #[.val (.ref a0), .val (.int p1), .val (.int p2), .val (.int (Int32.ofNat N))] [(.ref a0), (.int (gg (2 * N))), (.int (Int32.ofNat N)), (.ref t0)])) (fun t kt => ?_) ?_
        · show Steps p.tables e below (T2.setTop (mkF m 56 #[.val (.ref a0), .val (.int p1), .val (.int p2), .val (.int (Int32.ofNat N))] [(.int (gg (2 * N))), (.int (Int32.ofNat N)), (.ref t0)])) t
          refine XS.aloadN X2.here hx rfl (hb hby d3_56) rfl rfl ?_
          exact kt
        obtain ⟨T4, X4, e4, st4⟩ := getF X2 hx hZ hown (host := "") (Or.inl (own_wd hw 14 rfl)) Via.refl e2 Ftl (g := (mkF m 57 #[.val (.ref a0), .val (.int p1), .val (.int p2), .val (.int (Int32.ofNat N))] [(.ref a0), (.int (gg (2 * N))), (.int (Int32.ofNat N)), (.ref t0)])) rfl rfl (hb hby d3_57)
        refine OGo.step st4 ?_
        show OGo _ _ _ _ _ _ _ (T4.setTop (mkF m 60 #[.val (.ref a0), .val (.int p1), .val (.int p2), .val (.int (Int32.ofNat N))] [(.ref t0), (.int (gg (2 * N))), (.int (Int32.ofNat N)), (.ref t0)]))
        refine OGo.step (F' := T4.setTop (mkF m 65 #[.val (.ref a0), .val (.int p1), .val (.int p2), .val (.int (Int32.ofNat N))] [(.int (((2 : Int32) * (Int32.ofNat N)) + (1 : Int32))), (.ref t0), (.int (gg (2 * N))), (.int (Int32.ofNat N)), (.ref t0)])) (fun t kt => ?_) ?_
        · show Steps p.tables e below (T4.setTop (mkF m 60 #[.val (.ref a0), .val (.int p1), .val (.int p2), .val (.int (Int32.ofNat N))] [(.ref t0), (.int (gg (2 * N))), (.int (Int32.ofNat N)), (.ref t0)])) t
          refine XS.iconst X4.here hx rfl (hb hby d3_60) ?_
          show Steps p.tables e below (T4.setTop (mkF m 61 #[.val (.ref a0), .val (.int p1), .val (.int p2), .val (.int (Int32.ofNat N))] [(.int (2 : Int32)), (.ref t0), (.int (gg (2 * N))), (.int (Int32.ofNat N)), (.ref t0)])) t
          refine XS.iloadN X4.here hx rfl (hb hby d3_61) rfl ?_
          show Steps p.tables e below (T4.setTop (mkF m 62 #[.val (.ref a0), .val (.int p1), .val (.int p2), .val (.int (Int32.ofNat N))] [(.int (Int32.ofNat N)), (.int (2 : Int32)), (.ref t0), (.int (gg (2 * N))), (.int (Int32.ofNat N)), (.ref t0)])) t
          refine XS.imul X4.here hx rfl (hb hby d3_62) rfl ?_
          show Steps p.tables e below (T4.setTop (mkF m 63 #[.val (.ref a0), .val (.int p1), .val (.int p2), .val (.int (Int32.ofNat N))] [(.int ((2 : Int32) * (Int32.ofNat N))), (.ref t0), (.int (gg (2 * N))), (.int (Int32.ofNat N)), (.ref t0)])) t
          refine XS.iconst X4.here hx rfl (hb hby d3_63) ?_
          show Steps p.tables e below (T4.setTop (mkF m 64 #[.val (.ref a0), .val (.int p1), .val (.int p2), .val (.int (Int32.ofNat N))] [(.int (1 : Int32)), (.int ((2 : Int32) * (Int32.ofNat N))), (.ref t0), (.int (gg (2 * N))), (.int (Int32.ofNat N)), (.ref t0)])) t
          refine XS.iadd X4.here hx rfl (hb hby d3_64) rfl ?_
          exact kt
        obtain ⟨hn5, kk5, cl5, Ar5, qz5, S5, N5a, H5, G5⟩ := id (Ol)
        obtain ⟨hin5, hat5⟩ := own_tat (g := gg) (j := (((2 : Int32) * (Int32.ofNat N)) + (1 : Int32))) (i := (2 * N + 1)) hn5 S5 H5 (own_e21 _) (by omega)
        refine OGo.step (F' := T4.setTop (mkF m 66 #[.val (.ref a0), .val (.int p1), .val (.int p2), .val (.int (Int32.ofNat N))] [(.int (gg (2 * N + 1))), (.int (gg (2 * N))), (.int (Int32.ofNat N)), (.ref t0)])) (fun t kt => ?_) ?_
        · show Steps p.tables e below (T4.setTop (mkF m 65 #[.val (.ref a0), .val (.int p1), .val (.int p2), .val (.int (Int32.ofNat N))] [(.int (((2 : Int32) * (Int32.ofNat N)) + (1 : Int32))), (.ref t0), (.int (gg (2 * N))), (.int (Int32.ofNat N)), (.ref t0)])) t
          refine X4.caload hx (j := (((2 : Int32) * (Int32.ofNat N)) + (1 : Int32))) (v := (.int (gg (2 * N + 1)))) (by rw [e4]; exact Ar5.1) (State.isArrayOf_alike hZ.alike Ar5.2.1) Ar5.2.2 hin5 hat5 (g := (mkF m 65 #[.val (.ref a0), .val (.int p1), .val (.int p2), .val (.int (Int32.ofNat N))] [(.int (((2 : Int32) * (Int32.ofNat N)) + (1 : Int32))), (.ref t0), (.int (gg (2 * N))), (.int (Int32.ofNat N)), (.ref t0)])) rfl rfl (hb hby d3_65) _ ?_
          exact kt
        refine OGo.callS X4 hx hZ (y := (⟨"java/lang/Math", "max", "(II)I"⟩ : MethodName)) hown (own_wd hw 39 rfl) (own_wd hw 40 rfl) (own_wd hw 41 rfl) (own_wd hw 42 rfl) (by decide) (rm7 l Z az hw [] (gg (2 * N)) (gg (2 * N + 1)) hl n0 (Nat.le_trans Z0 KCl.1)) (W := 2) (by decide) (by decide) (g := (mkF m 66 #[.val (.ref a0), .val (.int p1), .val (.int p2), .val (.int (Int32.ofNat N))] [(.int (gg (2 * N + 1))), (.int (gg (2 * N))), (.int (Int32.ofNat N)), (.ref t0)])) rfl (by rw [hml]; rfl) (argsL := [(.int (gg (2 * N))), (.int (gg (2 * N + 1)))]) (rest := [(.int (Int32.ofNat N)), (.ref t0)]) (lenOf pd_3_0 rfl) rfl (by show 2 * 0 + _ ≤ _; exact Nat.le_of_eq rfl) (hb hby d3_66) rfl e4 (by decide) (by decide) ?_
        rintro _ T6 L6 X6 ⟨rfl, Nq6, e6⟩
        have N6 := Fr.app Nl Nq6
        show OGo _ _ _ _ _ _ _ (T6.setTop (mkF m 69 #[.val (.ref a0), .val (.int p1), .val (.int p2), .val (.int (Int32.ofNat N))] [(.int (f7 (gg (2 * N)) (gg (2 * N + 1)))), (.int (Int32.ofNat N)), (.ref t0)]))
        refine OGo.step (F' := T6.setTop (mkF m 70 #[.val (.ref a0), .val (.int p1), .val (.int p2), .val (.int (Int32.ofNat N))] [(.int ((f7 (gg (2 * N)) (gg (2 * N + 1))).toUInt32.toUInt16.toUInt32.toInt32)), (.int (Int32.ofNat N)), (.ref t0)])) (fun t kt => ?_) ?_
        · show Steps p.tables e below (T6.setTop (mkF m 69 #[.val (.ref a0), .val (.int p1), .val (.int p2), .val (.int (Int32.ofNat N))] [(.int (f7 (gg (2 * N)) (gg (2 * N + 1)))), (.int (Int32.ofNat N)), (.ref t0)])) t
          refine XS.i2c X6.here hx rfl (hb hby d3_69) rfl ?_
          exact kt
        obtain ⟨hn7, kk7, cl7, Ar7, qz7, S7, N7a, H7, G7⟩ := id (Ol)
        obtain ⟨hin7, hat7⟩ := own_tat (g := gg) (j := (Int32.ofNat N)) (i := N) hn7 S7 H7 rfl (by omega)
        obtain ⟨T7, h7, X7, e7, W7, st7⟩ := stC X6 hx hZ e6 Ar7 (j := (Int32.ofNat N)) hin7 (g := (mkF m 70 #[.val (.ref a0), .val (.int p1), .val (.int p2), .val (.int (Int32.ofNat N))] [(.int ((f7 (gg (2 * N)) (gg (2 * N + 1))).toUInt32.toUInt16.toUInt32.toInt32)), (.int (Int32.ofNat N)), (.ref t0)])) rfl rfl (hb hby d3_70)
        have O7 : OTr Z h7 t0 (2 * Lv) (own_upd gg N (own_mx (gg (2 * N)) (gg (2 * N + 1)))) := OTr.set Ol (v := (own_mx (gg (2 * N)) (gg (2 * N + 1)))) W7 N rfl (fits_nar_char _) (by omega)
        have KC7 : Keep h0 h7 [a0, t0] := KCl.wr W7 (Or.inl (List.mem_of_getElem? (i := 1) rfl))
        have N7 := Fr.snoc X7 N6 gn_t0
        refine OGo.step st7 ?_
        show OGo _ _ _ _ _ _ _ (T7.setTop (mkF m 71 #[.val (.ref a0), .val (.int p1), .val (.int p2), .val (.int (Int32.ofNat N))] []))
        refine OGo.step (F' := T7.setTop (mkF m 39 #[.val (.ref a0), .val (.int p1), .val (.int p2), .val (.int ((Int32.ofNat N) >>> ((1 : Int32) &&& 31)))] [])) (fun t kt => ?_) ?_
        · show Steps p.tables e below (T7.setTop (mkF m 71 #[.val (.ref a0), .val (.int p1), .val (.int p2), .val (.int (Int32.ofNat N))] [])) t
          refine XS.iloadN X7.here hx rfl (hb hby d3_71) rfl ?_
          show Steps p.tables e below (T7.setTop (mkF m 72 #[.val (.ref a0), .val (.int p1), .val (.int p2), .val (.int (Int32.ofNat N))] [(.int (Int32.ofNat N))])) t
          refine XS.iconst X7.here hx rfl (hb hby d3_72) ?_
          show Steps p.tables e below (T7.setTop (mkF m 73 #[.val (.ref a0), .val (.int p1), .val (.int p2), .val (.int (Int32.ofNat N))] [(.int (1 : Int32)), (.int (Int32.ofNat N))])) t
          refine XS.ishr X7.here hx rfl (hb hby d3_73) rfl ?_
          show Steps p.tables e below (T7.setTop (mkF m 74 #[.val (.ref a0), .val (.int p1), .val (.int p2), .val (.int (Int32.ofNat N))] [(.int ((Int32.ofNat N) >>> ((1 : Int32) &&& 31)))])) t
          refine XS.istoreN X7.here hx rfl (hb hby d3_74) rfl (l' := #[.val (.ref a0), .val (.int p1), .val (.int p2), .val (.int ((Int32.ofNat N) >>> ((1 : Int32) &&& 31)))]) rfl ?_
          show Steps p.tables e below (T7.setTop (mkF m 75 #[.val (.ref a0), .val (.int p1), .val (.int p2), .val (.int ((Int32.ofNat N) >>> ((1 : Int32) &&& 31)))] [])) t
          refine XS.goto X7.here hx rfl (pc0 := 75) (pc' := 39) rfl (hb hby d3_75) (by decide) (by decide) ?_
          exact kt
        rw [own_eh _ (by omega)]
        exact ih (N / 2) _ T7 _ _ X7 e7 N7 KC7 nel (El.wr W7) (Fll.other W7 (Or.inl (Ne.symm nel))) (Ftl.other W7 (Or.inl (Ne.symm nel))) O7 hLL (by omega) (by rw [Nat.pow_succ] at hk; omega) (own_up1 k N gg hz ▸ hf)
  have lpB : ∀ (k N : Nat) (tt : Addr) (LL : Nat) (gg : Nat → Int32) (T0 : State) (hl : Heap) (locs : List Loc), Stand p l e ({ frames := 3, cells := 1, slots := 256, locals := 60 } : Room) s m #[(.ref a0), (.int p1), (.int p2)] below meth c T0 locs (0 + 1) (0 + 256) → T0.heap = hl → Fr n0 locs → Keep h0 hl [a0, t0] → h0.size ≤ tt → n0 ≤ tt → tt ≠ a0 → Exa Z hl a0 "com/example/kursor/kursor/storage/table/FreeSpace" → Fld Z hl a0 "com/example/kursor/kursor/storage/table/FreeSpace" "leaves" "I" (.int (Int32.ofNat LL)) → Fld Z hl a0 "com/example/kursor/kursor/storage/table/FreeSpace" "tree" "[C" (.ref tt) → OTr Z hl tt (2 * LL) gg → LL ≤ 128 → N < LL → N < 2 ^ k → own_val LL (own_up k N gg) (own_upd rm p1.toNatClampNeg (own_ch p2)) → OGo p e below s (Q3 Z a0 p1 p2 t0 Lv g rm h0 n0) ({ frames := 3, cells := 1, slots := 256, locals := 60 } : Room).cells ({ frames := 3, cells := 1, slots := 256, locals := 60 } : Room).slots (T0.setTop (mkF m 39 #[.val (.ref a0), .val (.int p1), .val (.int p2), .val (.int (Int32.ofNat N))] [])) := by
    intro k
    induction k with
    | zero =>
      intro N tt LL gg T0 hl locs Xl el Nl KCl sz_tt gn_tt nel El Fll Ftl Ol hLL hN hk hf
      have hN0 : N = 0 := by rw [Nat.pow_zero] at hk; omega
      subst hN0
      have hlt : ¬ ((0 : Int32) < (Int32.ofNat 0)) := by decide
      refine OGo.step (F' := T0.setTop (mkF m 78 #[.val (.ref a0), .val (.int p1), .val (.int p2), .val (.int (Int32.ofNat 0))] [])) (fun t kt => ?_) ?_
      · show Steps p.tables e below (T0.setTop (mkF m 39 #[.val (.ref a0), .val (.int p1), .val (.int p2), .val (.int (Int32.ofNat 0))] [])) t
        refine XS.iloadN Xl.here hx rfl (hb hby d3_39) rfl ?_
        show Steps p.tables e below (T0.setTop (mkF m 40 #[.val (.ref a0), .val (.int p1), .val (.int p2), .val (.int (Int32.ofNat 0))] [(.int (Int32.ofNat 0))])) t
        refine XS.ifYes Xl.here hx rfl (pc0 := 40) (pc' := 78) rfl (hb hby d3_40) rfl ((if0 _ _).trans (flt hlt).2.2.2) (by decide) (by decide) ?_
        exact kt
      refine OGo.retV Xl hx hlk hret (hb hby d3_78) ?_ (by decide) (by decide)
      show Q3 Z a0 p1 p2 t0 Lv g rm h0 n0 _ T0.heap _
      rw [el]
      exact ⟨tt, LL, gg, rfl, Nl, KCl, El, Fll, Ftl, Ol, hf, gn_tt, (Or.inr sz_tt)⟩
    | succ k ih =>
      intro N tt LL gg T0 hl locs Xl el Nl KCl sz_tt gn_tt nel El Fll Ftl Ol hLL hN hk hf
      rcases Nat.eq_zero_or_pos N with hz | hz
      · subst hz
        have hlt : ¬ ((0 : Int32) < (Int32.ofNat 0)) := by decide
        refine OGo.step (F' := T0.setTop (mkF m 78 #[.val (.ref a0), .val (.int p1), .val (.int p2), .val (.int (Int32.ofNat 0))] [])) (fun t kt => ?_) ?_
        · show Steps p.tables e below (T0.setTop (mkF m 39 #[.val (.ref a0), .val (.int p1), .val (.int p2), .val (.int (Int32.ofNat 0))] [])) t
          refine XS.iloadN Xl.here hx rfl (hb hby d3_39) rfl ?_
          show Steps p.tables e below (T0.setTop (mkF m 40 #[.val (.ref a0), .val (.int p1), .val (.int p2), .val (.int (Int32.ofNat 0))] [(.int (Int32.ofNat 0))])) t
          refine XS.ifYes Xl.here hx rfl (pc0 := 40) (pc' := 78) rfl (hb hby d3_40) rfl ((if0 _ _).trans (flt hlt).2.2.2) (by decide) (by decide) ?_
          exact kt
        refine OGo.retV Xl hx hlk hret (hb hby d3_78) ?_ (by decide) (by decide)
        show Q3 Z a0 p1 p2 t0 Lv g rm h0 n0 _ T0.heap _
        rw [el]
        exact ⟨tt, LL, gg, rfl, Nl, KCl, El, Fll, Ftl, Ol, hf, gn_tt, (Or.inr sz_tt)⟩
      · have hlt : (0 : Int32) < (Int32.ofNat N) := (own_ep _ (by omega)).mpr hz
        refine OGo.step (F' := T0.setTop (mkF m 44 #[.val (.ref a0), .val (.int p1), .val (.int p2), .val (.int (Int32.ofNat N))] [(.ref a0)])) (fun t kt => ?_) ?_
        · show Steps p.tables e below (T0.setTop (mkF m 39 #[.val (.ref a0), .val (.int p1), .val (.int p2), .val (.int (Int32.ofNat N))] [])) t
          refine XS.iloadN Xl.here hx rfl (hb hby d3_39) rfl ?_
          show Steps p.tables e below (T0.setTop (mkF m 40 #[.val (.ref a0), .val (.int p1), .val (.int p2), .val (.int (Int32.ofNat N))] [(.int (Int32.ofNat N))])) t
          refine XS.ifNo Xl.here hx rfl (hb hby d3_40) rfl ((if0 _ _).trans (tlt hlt).2.2.2) ?_
          show Steps p.tables e below (T0.setTop (mkF m 43 #[.val (.ref a0), .val (.int p1), .val (.int p2), .val (.int (Int32.ofNat N))] [])) t
          refine XS.aloadN Xl.here hx rfl (hb hby d3_43) rfl rfl ?_
          exact kt
        obtain ⟨T8, X8, e8, st8⟩ := getF Xl hx hZ hown (host := "") (Or.inl (own_wd hw 14 rfl)) Via.refl el Ftl (g := (mkF m 44 #[.val (.ref a0), .val (.int p1), .val (.int p2), .val (.int (Int32.ofNat N))] [(.ref a0)])) rfl rfl (hb hby d3_44)
        refine OGo.step st8 ?_
        show OGo _ _ _ _ _ _ _ (T8.setTop (mkF m 47 #[.val (.ref a0), .val (.int p1), .val (.int p2), .val (.int (Int32.ofNat N))] [(.ref tt)]))
        refine OGo.step (F' := T8.setTop (mkF m 49 #[.val (.ref a0), .val (.int p1), .val (.int p2), .val (.int (Int32.ofNat N))] [(.ref a0), (.int (Int32.ofNat N)), (.ref tt)])) (fun t kt => ?_) ?_
        · show Steps p.tables e below (T8.setTop (mkF m 47 #[.val (.ref a0), .val (.int p1), .val (.int p2), .val (.int (Int32.ofNat N))] [(.ref tt)])) t
          refine XS.iloadN X8.here hx rfl (hb hby d3_47) rfl ?_
          show Steps p.tables e below (T8.setTop (mkF m 48 #[.val (.ref a0), .val (.int p1), .val (.int p2), .val (.int (Int32.ofNat N))] [(.int (Int32.ofNat N)), (.ref tt)])) t
          refine XS.aloadN X8.here hx rfl (hb hby d3_48) rfl rfl ?_
          exact kt
        obtain ⟨T9, X9, e9, st9⟩ := getF X8 hx hZ hown (host := "") (Or.inl (own_wd hw 14 rfl)) Via.refl e8 Ftl (g := (mkF m 49 #[.val (.ref a0), .val (.int p1), .val (.int p2), .val (.int (Int32.ofNat N))] [(.ref a0), (.int (Int32.ofNat N)), (.ref tt)])) rfl rfl (hb hby d3_49)
        refine OGo.step st9 ?_
        show OGo _ _ _ _ _ _ _ (T9.setTop (mkF m 52 #[.val (.ref a0), .val (.int p1), .val (.int p2), .val (.int (Int32.ofNat N))] [(.ref tt), (.int (Int32.ofNat N)), (.ref tt)]))
        refine OGo.step (F' := T9.setTop (mkF m 55 #[.val (.ref a0), .val (.int p1), .val (.int p2), .val (.int (Int32.ofNat N))] [(.int ((2 : Int32) * (Int32.ofNat N))), (.ref tt), (.int (Int32.ofNat N)), (.ref tt)])) (fun t kt => ?_) ?_
        · show Steps p.tables e below (T9.setTop (mkF m 52 #[.val (.ref a0), .val (.int p1), .val (.int p2), .val (.int (Int32.ofNat N))] [(.ref tt), (.int (Int32.ofNat N)), (.ref tt)])) t
          refine XS.iconst X9.here hx rfl (hb hby d3_52) ?_
          show Steps p.tables e below (T9.setTop (mkF m 53 #[.val (.ref a0), .val (.int p1), .val (.int p2), .val (.int (Int32.ofNat N))] [(.int (2 : Int32)), (.ref tt), (.int (Int32.ofNat N)), (.ref tt)])) t
          refine XS.iloadN X9.here hx rfl (hb hby d3_53) rfl ?_
          show Steps p.tables e below (T9.setTop (mkF m 54 #[.val (.ref a0), .val (.int p1), .val (.int p2), .val (.int (Int32.ofNat N))] [(.int (Int32.ofNat N)), (.int (2 : Int32)), (.ref tt), (.int (Int32.ofNat N)), (.ref tt)])) t
          refine XS.imul X9.here hx rfl (hb hby d3_54) rfl ?_
          exact kt
        obtain ⟨hn10, kk10, cl10, Ar10, qz10, S10, N10a, H10, G10⟩ := id (Ol)
        obtain ⟨hin10, hat10⟩ := own_tat (g := gg) (j := ((2 : Int32) * (Int32.ofNat N))) (i := (2 * N)) hn10 S10 H10 (own_e2 _) (by omega)
        refine OGo.step (F' := T9.setTop (mkF m 56 #[.val (.ref a0), .val (.int p1), .val (.int p2), .val (.int (Int32.ofNat N))] [(.int (gg (2 * N))), (.int (Int32.ofNat N)), (.ref tt)])) (fun t kt => ?_) ?_
        · show Steps p.tables e below (T9.setTop (mkF m 55 #[.val (.ref a0), .val (.int p1), .val (.int p2), .val (.int (Int32.ofNat N))] [(.int ((2 : Int32) * (Int32.ofNat N))), (.ref tt), (.int (Int32.ofNat N)), (.ref tt)])) t
          refine X9.caload hx (j := ((2 : Int32) * (Int32.ofNat N))) (v := (.int (gg (2 * N)))) (by rw [e9]; exact Ar10.1) (State.isArrayOf_alike hZ.alike Ar10.2.1) Ar10.2.2 hin10 hat10 (g := (mkF m 55 #[.val (.ref a0), .val (.int p1), .val (.int p2), .val (.int (Int32.ofNat N))] [(.int ((2 : Int32) * (Int32.ofNat N))), (.ref tt), (.int (Int32.ofNat N)), (.ref tt)])) rfl rfl (hb hby d3_55) _ ?_
          exact kt
        refine OGo.step (F' := T9.setTop (mkF m 57 #[.val (.ref a0), .val (.int p1), .val (.int p2), .val (.int (Int32.ofNat N))] [(.ref a0), (.int (gg (2 * N))), (.int (Int32.ofNat N)), (.ref tt)])) (fun t kt => ?_) ?_
        · show Steps p.tables e below (T9.setTop (mkF m 56 #[.val (.ref a0), .val (.int p1), .val (.int p2), .val (.int (Int32.ofNat N))] [(.int (gg (2 * N))), (.int (Int32.ofNat N)), (.ref tt)])) t
          refine XS.aloadN X9.here hx rfl (hb hby d3_56) rfl rfl ?_
          exact kt
        obtain ⟨T11, X11, e11, st11⟩ := getF X9 hx hZ hown (host := "") (Or.inl (own_wd hw 14 rfl)) Via.refl e9 Ftl (g := (mkF m 57 #[.val (.ref a0), .val (.int p1), .val (.int p2), .val (.int (Int32.ofNat N))] [(.ref a0), (.int (gg (2 * N))), (.int (Int32.ofNat N)), (.ref tt)])) rfl rfl (hb hby d3_57)
        refine OGo.step st11 ?_
        show OGo _ _ _ _ _ _ _ (T11.setTop (mkF m 60 #[.val (.ref a0), .val (.int p1), .val (.int p2), .val (.int (Int32.ofNat N))] [(.ref tt), (.int (gg (2 * N))), (.int (Int32.ofNat N)), (.ref tt)]))
        refine OGo.step (F' := T11.setTop (mkF m 65 #[.val (.ref a0), .val (.int p1), .val (.int p2), .val (.int (Int32.ofNat N))] [(.int (((2 : Int32) * (Int32.ofNat N)) + (1 : Int32))), (.ref tt), (.int (gg (2 * N))), (.int (Int32.ofNat N)), (.ref tt)])) (fun t kt => ?_) ?_
        · show Steps p.tables e below (T11.setTop (mkF m 60 #[.val (.ref a0), .val (.int p1), .val (.int p2), .val (.int (Int32.ofNat N))] [(.ref tt), (.int (gg (2 * N))), (.int (Int32.ofNat N)), (.ref tt)])) t
          refine XS.iconst X11.here hx rfl (hb hby d3_60) ?_
          show Steps p.tables e below (T11.setTop (mkF m 61 #[.val (.ref a0), .val (.int p1), .val (.int p2), .val (.int (Int32.ofNat N))] [(.int (2 : Int32)), (.ref tt), (.int (gg (2 * N))), (.int (Int32.ofNat N)), (.ref tt)])) t
          refine XS.iloadN X11.here hx rfl (hb hby d3_61) rfl ?_
          show Steps p.tables e below (T11.setTop (mkF m 62 #[.val (.ref a0), .val (.int p1), .val (.int p2), .val (.int (Int32.ofNat N))] [(.int (Int32.ofNat N)), (.int (2 : Int32)), (.ref tt), (.int (gg (2 * N))), (.int (Int32.ofNat N)), (.ref tt)])) t
          refine XS.imul X11.here hx rfl (hb hby d3_62) rfl ?_
          show Steps p.tables e below (T11.setTop (mkF m 63 #[.val (.ref a0), .val (.int p1), .val (.int p2), .val (.int (Int32.ofNat N))] [(.int ((2 : Int32) * (Int32.ofNat N))), (.ref tt), (.int (gg (2 * N))), (.int (Int32.ofNat N)), (.ref tt)])) t
          refine XS.iconst X11.here hx rfl (hb hby d3_63) ?_
          show Steps p.tables e below (T11.setTop (mkF m 64 #[.val (.ref a0), .val (.int p1), .val (.int p2), .val (.int (Int32.ofNat N))] [(.int (1 : Int32)), (.int ((2 : Int32) * (Int32.ofNat N))), (.ref tt), (.int (gg (2 * N))), (.int (Int32.ofNat N)), (.ref tt)])) t
          refine XS.iadd X11.here hx rfl (hb hby d3_64) rfl ?_
          exact kt
        obtain ⟨hn12, kk12, cl12, Ar12, qz12, S12, N12a, H12, G12⟩ := id (Ol)
        obtain ⟨hin12, hat12⟩ := own_tat (g := gg) (j := (((2 : Int32) * (Int32.ofNat N)) + (1 : Int32))) (i := (2 * N + 1)) hn12 S12 H12 (own_e21 _) (by omega)
        refine OGo.step (F' := T11.setTop (mkF m 66 #[.val (.ref a0), .val (.int p1), .val (.int p2), .val (.int (Int32.ofNat N))] [(.int (gg (2 * N + 1))), (.int (gg (2 * N))), (.int (Int32.ofNat N)), (.ref tt)])) (fun t kt => ?_) ?_
        · show Steps p.tables e below (T11.setTop (mkF m 65 #[.val (.ref a0), .val (.int p1), .val (.int p2), .val (.int (Int32.ofNat N))] [(.int (((2 : Int32) * (Int32.ofNat N)) + (1 : Int32))), (.ref tt), (.int (gg (2 * N))), (.int (Int32.ofNat N)), (.ref tt)])) t
          refine X11.caload hx (j := (((2 : Int32) * (Int32.ofNat N)) + (1 : Int32))) (v := (.int (gg (2 * N + 1)))) (by rw [e11]; exact Ar12.1) (State.isArrayOf_alike hZ.alike Ar12.2.1) Ar12.2.2 hin12 hat12 (g := (mkF m 65 #[.val (.ref a0), .val (.int p1), .val (.int p2), .val (.int (Int32.ofNat N))] [(.int (((2 : Int32) * (Int32.ofNat N)) + (1 : Int32))), (.ref tt), (.int (gg (2 * N))), (.int (Int32.ofNat N)), (.ref tt)])) rfl rfl (hb hby d3_65) _ ?_
          exact kt
        refine OGo.callS X11 hx hZ (y := (⟨"java/lang/Math", "max", "(II)I"⟩ : MethodName)) hown (own_wd hw 39 rfl) (own_wd hw 40 rfl) (own_wd hw 41 rfl) (own_wd hw 42 rfl) (by decide) (rm7 l Z az hw [] (gg (2 * N)) (gg (2 * N + 1)) hl n0 (Nat.le_trans Z0 KCl.1)) (W := 2) (by decide) (by decide) (g := (mkF m 66 #[.val (.ref a0), .val (.int p1), .val (.int p2), .val (.int (Int32.ofNat N))] [(.int (gg (2 * N + 1))), (.int (gg (2 * N))), (.int (Int32.ofNat N)), (.ref tt)])) rfl (by rw [hml]; rfl) (argsL := [(.int (gg (2 * N))), (.int (gg (2 * N + 1)))]) (rest := [(.int (Int32.ofNat N)), (.ref tt)]) (lenOf pd_3_0 rfl) rfl (by show 2 * 0 + _ ≤ _; exact Nat.le_of_eq rfl) (hb hby d3_66) rfl e11 (by decide) (by decide) ?_
        rintro _ T13 L13 X13 ⟨rfl, Nq13, e13⟩
        have N13 := Fr.app Nl Nq13
        show OGo _ _ _ _ _ _ _ (T13.setTop (mkF m 69 #[.val (.ref a0), .val (.int p1), .val (.int p2), .val (.int (Int32.ofNat N))] [(.int (f7 (gg (2 * N)) (gg (2 * N + 1)))), (.int (Int32.ofNat N)), (.ref tt)]))
        refine OGo.step (F' := T13.setTop (mkF m 70 #[.val (.ref a0), .val (.int p1), .val (.int p2), .val (.int (Int32.ofNat N))] [(.int ((f7 (gg (2 * N)) (gg (2 * N + 1))).toUInt32.toUInt16.toUInt32.toInt32)), (.int (Int32.ofNat N)), (.ref tt)])) (fun t kt => ?_) ?_
        · show Steps p.tables e below (T13.setTop (mkF m 69 #[.val (.ref a0), .val (.int p1), .val (.int p2), .val (.int (Int32.ofNat N))] [(.int (f7 (gg (2 * N)) (gg (2 * N + 1)))), (.int (Int32.ofNat N)), (.ref tt)])) t
          refine XS.i2c X13.here hx rfl (hb hby d3_69) rfl ?_
          exact kt
        obtain ⟨hn14, kk14, cl14, Ar14, qz14, S14, N14a, H14, G14⟩ := id (Ol)
        obtain ⟨hin14, hat14⟩ := own_tat (g := gg) (j := (Int32.ofNat N)) (i := N) hn14 S14 H14 rfl (by omega)
        obtain ⟨T14, h14, X14, e14, W14, st14⟩ := stC X13 hx hZ e13 Ar14 (j := (Int32.ofNat N)) hin14 (g := (mkF m 70 #[.val (.ref a0), .val (.int p1), .val (.int p2), .val (.int (Int32.ofNat N))] [(.int ((f7 (gg (2 * N)) (gg (2 * N + 1))).toUInt32.toUInt16.toUInt32.toInt32)), (.int (Int32.ofNat N)), (.ref tt)])) rfl rfl (hb hby d3_70)
        have O14 : OTr Z h14 tt (2 * LL) (own_upd gg N (own_mx (gg (2 * N)) (gg (2 * N + 1)))) := OTr.set Ol (v := (own_mx (gg (2 * N)) (gg (2 * N + 1)))) W14 N rfl (fits_nar_char _) (by omega)
        have KC14 : Keep h0 h14 [a0, t0] := KCl.wr W14 (Or.inr sz_tt)
        have N14 := Fr.snoc X14 N13 gn_tt
        refine OGo.step st14 ?_
        show OGo _ _ _ _ _ _ _ (T14.setTop (mkF m 71 #[.val (.ref a0), .val (.int p1), .val (.int p2), .val (.int (Int32.ofNat N))] []))
        refine OGo.step (F' := T14.setTop (mkF m 39 #[.val (.ref a0), .val (.int p1), .val (.int p2), .val (.int ((Int32.ofNat N) >>> ((1 : Int32) &&& 31)))] [])) (fun t kt => ?_) ?_
        · show Steps p.tables e below (T14.setTop (mkF m 71 #[.val (.ref a0), .val (.int p1), .val (.int p2), .val (.int (Int32.ofNat N))] [])) t
          refine XS.iloadN X14.here hx rfl (hb hby d3_71) rfl ?_
          show Steps p.tables e below (T14.setTop (mkF m 72 #[.val (.ref a0), .val (.int p1), .val (.int p2), .val (.int (Int32.ofNat N))] [(.int (Int32.ofNat N))])) t
          refine XS.iconst X14.here hx rfl (hb hby d3_72) ?_
          show Steps p.tables e below (T14.setTop (mkF m 73 #[.val (.ref a0), .val (.int p1), .val (.int p2), .val (.int (Int32.ofNat N))] [(.int (1 : Int32)), (.int (Int32.ofNat N))])) t
          refine XS.ishr X14.here hx rfl (hb hby d3_73) rfl ?_
          show Steps p.tables e below (T14.setTop (mkF m 74 #[.val (.ref a0), .val (.int p1), .val (.int p2), .val (.int (Int32.ofNat N))] [(.int ((Int32.ofNat N) >>> ((1 : Int32) &&& 31)))])) t
          refine XS.istoreN X14.here hx rfl (hb hby d3_74) rfl (l' := #[.val (.ref a0), .val (.int p1), .val (.int p2), .val (.int ((Int32.ofNat N) >>> ((1 : Int32) &&& 31)))]) rfl ?_
          show Steps p.tables e below (T14.setTop (mkF m 75 #[.val (.ref a0), .val (.int p1), .val (.int p2), .val (.int ((Int32.ofNat N) >>> ((1 : Int32) &&& 31)))] [])) t
          refine XS.goto X14.here hx rfl (pc0 := 75) (pc' := 39) rfl (hb hby d3_75) (by decide) (by decide) ?_
          exact kt
        rw [own_eh _ (by omega)]
        exact ih (N / 2) tt LL _ T14 _ _ X14 e14 N14 KC14 sz_tt gn_tt nel (El.wr W14) (Fll.other W14 (Or.inl (Ne.symm nel))) (Ftl.other W14 (Or.inl (Ne.symm nel))) O14 hLL (by omega) (by rw [Nat.pow_succ] at hk; omega) (own_up1 k N gg hz ▸ hf)
  refine OGo.step (F' := s₁.setTop (mkF m 9 #[.val (.ref a0), .val (.int p1), .val (.int p2), .unset] [(.ref a0), (.int p1)])) (fun t kt => ?_) ?_
  · show Steps p.tables e below (s₁.setTop (mkF m 0 #[.val (.ref a0), .val (.int p1), .val (.int p2), .unset] [])) t
    refine XS.iloadN X0.here hx rfl (hb hby d3_0) rfl ?_
    show Steps p.tables e below (s₁.setTop (mkF m 1 #[.val (.ref a0), .val (.int p1), .val (.int p2), .unset] [(.int p1)])) t
    refine X0.ldcInt hx hown (mvT hZ (own_wd hw 21 rfl)) (g := (mkF m 1 #[.val (.ref a0), .val (.int p1), .val (.int p2), .unset] [(.int p1)])) rfl (hb hby d3_1) _ ?_
    show Steps p.tables e below (s₁.setTop (mkF m 3 #[.val (.ref a0), .val (.int p1), .val (.int p2), .unset] [(.int (536870912 : Int32)), (.int p1)])) t
    refine XS.icmpYes X0.here hx rfl (pc0 := 3) (pc' := 7) rfl (hb hby d3_3) rfl (tlt (own_p29 hp)).1 (by decide) (by decide) ?_
    show Steps p.tables e below (s₁.setTop (mkF m 7 #[.val (.ref a0), .val (.int p1), .val (.int p2), .unset] [])) t
    refine XS.iloadN X0.here hx rfl (hb hby d3_7) rfl ?_
    show Steps p.tables e below (s₁.setTop (mkF m 8 #[.val (.ref a0), .val (.int p1), .val (.int p2), .unset] [(.int p1)])) t
    refine XS.aloadN X0.here hx rfl (hb hby d3_8) rfl rfl ?_
    exact kt
  obtain ⟨T15, X15, e15, st15⟩ := getF X0 hx hZ hown (host := "") (Or.inl (own_wd hw 11 rfl)) Via.refl e0 Fl_a0 (g := (mkF m 9 #[.val (.ref a0), .val (.int p1), .val (.int p2), .unset] [(.ref a0), (.int p1)])) rfl rfl (hb hby d3_9)
  refine OGo.step st15 ?_
  show OGo _ _ _ _ _ _ _ (T15.setTop (mkF m 12 #[.val (.ref a0), .val (.int p1), .val (.int p2), .unset] [(.int (Int32.ofNat Lv)), (.int p1)]))
  by_cases hc12 : p1 < (Int32.ofNat Lv)
  · refine OGo.step (F' := T15.setTop (mkF m 20 #[.val (.ref a0), .val (.int p1), .val (.int p2), .unset] [])) (fun t kt => ?_) ?_
    · show Steps p.tables e below (T15.setTop (mkF m 12 #[.val (.ref a0), .val (.int p1), .val (.int p2), .unset] [(.int (Int32.ofNat Lv)), (.int p1)])) t
      refine XS.icmpYes X15.here hx rfl (pc0 := 12) (pc' := 20) rfl (hb hby d3_12) rfl (tlt hc12).1 (by decide) (by decide) ?_
      exact kt
    refine OGo.step (F' := T15.setTop (mkF m 21 #[.val (.ref a0), .val (.int p1), .val (.int p2), .unset] [(.ref a0)])) (fun t kt => ?_) ?_
    · show Steps p.tables e below (T15.setTop (mkF m 20 #[.val (.ref a0), .val (.int p1), .val (.int p2), .unset] [])) t
      refine XS.aloadN X15.here hx rfl (hb hby d3_20) rfl rfl ?_
      exact kt
    obtain ⟨T16, X16, e16, st16⟩ := getF X15 hx hZ hown (host := "") (Or.inl (own_wd hw 11 rfl)) Via.refl e15 Fl_a0 (g := (mkF m 21 #[.val (.ref a0), .val (.int p1), .val (.int p2), .unset] [(.ref a0)])) rfl rfl (hb hby d3_21)
    refine OGo.step st16 ?_
    show OGo _ _ _ _ _ _ _ (T16.setTop (mkF m 24 #[.val (.ref a0), .val (.int p1), .val (.int p2), .unset] [(.int (Int32.ofNat Lv))]))
    refine OGo.step (F' := T16.setTop (mkF m 27 #[.val (.ref a0), .val (.int p1), .val (.int p2), .val (.int ((Int32.ofNat Lv) + p1))] [])) (fun t kt => ?_) ?_
    · show Steps p.tables e below (T16.setTop (mkF m 24 #[.val (.ref a0), .val (.int p1), .val (.int p2), .unset] [(.int (Int32.ofNat Lv))])) t
      refine XS.iloadN X16.here hx rfl (hb hby d3_24) rfl ?_
      show Steps p.tables e below (T16.setTop (mkF m 25 #[.val (.ref a0), .val (.int p1), .val (.int p2), .unset] [(.int p1), (.int (Int32.ofNat Lv))])) t
      refine XS.iadd X16.here hx rfl (hb hby d3_25) rfl ?_
      show Steps p.tables e below (T16.setTop (mkF m 26 #[.val (.ref a0), .val (.int p1), .val (.int p2), .unset] [(.int ((Int32.ofNat Lv) + p1))])) t
      refine XS.istoreN X16.here hx rfl (hb hby d3_26) rfl (l' := #[.val (.ref a0), .val (.int p1), .val (.int p2), .val (.int ((Int32.ofNat Lv) + p1))]) rfl ?_
      exact kt
    have hPL : p1.toNatClampNeg < Lv := (own_plt hp0 hL8.2).mp hc12
    rw [own_eLp hp]
    show OGo _ _ _ _ _ _ _ (T16.setTop (mkF m 27 #[.val (.ref a0), .val (.int p1), .val (.int p2), .val (.int (Int32.ofNat (Lv + p1.toNatClampNeg)))] []))
    refine OGo.step (F' := T16.setTop (mkF m 28 #[.val (.ref a0), .val (.int p1), .val (.int p2), .val (.int (Int32.ofNat (Lv + p1.toNatClampNeg)))] [(.ref a0)])) (fun t kt => ?_) ?_
    · show Steps p.tables e below (T16.setTop (mkF m 27 #[.val (.ref a0), .val (.int p1), .val (.int p2), .val (.int (Int32.ofNat (Lv + p1.toNatClampNeg)))] [])) t
      refine XS.aloadN X16.here hx rfl (hb hby d3_27) rfl rfl ?_
      exact kt
    obtain ⟨T17, X17, e17, st17⟩ := getF X16 hx hZ hown (host := "") (Or.inl (own_wd hw 14 rfl)) Via.refl e16 Ft_a0 (g := (mkF m 28 #[.val (.ref a0), .val (.int p1), .val (.int p2), .val (.int (Int32.ofNat (Lv + p1.toNatClampNeg)))] [(.ref a0)])) rfl rfl (hb hby d3_28)
    refine OGo.step st17 ?_
    show OGo _ _ _ _ _ _ _ (T17.setTop (mkF m 31 #[.val (.ref a0), .val (.int p1), .val (.int p2), .val (.int (Int32.ofNat (Lv + p1.toNatClampNeg)))] [(.ref t0)]))
    refine OGo.step (F' := T17.setTop (mkF m 34 #[.val (.ref a0), .val (.int p1), .val (.int p2), .val (.int (Int32.ofNat (Lv + p1.toNatClampNeg)))] [(.int (p2.toUInt32.toUInt16.toUInt32.toInt32)), (.int (Int32.ofNat (Lv + p1.toNatClampNeg))), (.ref t0)])) (fun t kt => ?_) ?_
    · show Steps p.tables e below (T17.setTop (mkF m 31 #[.val (.ref a0), .val (.int p1), .val (.int p2), .val (.int (Int32.ofNat (Lv + p1.toNatClampNeg)))] [(.ref t0)])) t
      refine XS.iloadN X17.here hx rfl (hb hby d3_31) rfl ?_
      show Steps p.tables e below (T17.setTop (mkF m 32 #[.val (.ref a0), .val (.int p1), .val (.int p2), .val (.int (Int32.ofNat (Lv + p1.toNatClampNeg)))] [(.int (Int32.ofNat (Lv + p1.toNatClampNeg))), (.ref t0)])) t
      refine XS.iloadN X17.here hx rfl (hb hby d3_32) rfl ?_
      show Steps p.tables e below (T17.setTop (mkF m 33 #[.val (.ref a0), .val (.int p1), .val (.int p2), .val (.int (Int32.ofNat (Lv + p1.toNatClampNeg)))] [(.int p2), (.int (Int32.ofNat (Lv + p1.toNatClampNeg))), (.ref t0)])) t
      refine XS.i2c X17.here hx rfl (hb hby d3_33) rfl ?_
      exact kt
    obtain ⟨hn18, kk18, cl18, Ar18, qz18, S18, N18a, H18, G18⟩ := id (O_t0)
    obtain ⟨hin18, hat18⟩ := own_tat (g := g) (j := (Int32.ofNat (Lv + p1.toNatClampNeg))) (i := (Lv + p1.toNatClampNeg)) hn18 S18 H18 rfl (by omega)
    obtain ⟨T18, h18, X18, e18, W18, st18⟩ := stC X17 hx hZ e17 Ar18 (j := (Int32.ofNat (Lv + p1.toNatClampNeg))) hin18 (g := (mkF m 34 #[.val (.ref a0), .val (.int p1), .val (.int p2), .val (.int (Int32.ofNat (Lv + p1.toNatClampNeg)))] [(.int (p2.toUInt32.toUInt16.toUInt32.toInt32)), (.int (Int32.ofNat (Lv + p1.toNatClampNeg))), (.ref t0)])) rfl rfl (hb hby d3_34)
    have O18 : OTr Z h18 t0 (2 * Lv) (own_upd g (Lv + p1.toNatClampNeg) (own_ch p2)) := OTr.set O_t0 (v := (own_ch p2)) W18 (Lv + p1.toNatClampNeg) rfl (fits_nar_char _) (by omega)
    have KC18 : Keep h0 h18 [a0, t0] := (Keep.refl h0 [a0, t0]).wr W18 (Or.inl (List.mem_of_getElem? (i := 1) rfl))
    have N18 := Fr.snoc X18 N0 gn_t0
    refine OGo.step st18 ?_
    show OGo _ _ _ _ _ _ _ (T18.setTop (mkF m 35 #[.val (.ref a0), .val (.int p1), .val (.int p2), .val (.int (Int32.ofNat (Lv + p1.toNatClampNeg)))] []))
    refine OGo.step (F' := T18.setTop (mkF m 39 #[.val (.ref a0), .val (.int p1), .val (.int p2), .val (.int ((Int32.ofNat (Lv + p1.toNatClampNeg)) >>> ((1 : Int32) &&& 31)))] [])) (fun t kt => ?_) ?_
    · show Steps p.tables e below (T18.setTop (mkF m 35 #[.val (.ref a0), .val (.int p1), .val (.int p2), .val (.int (Int32.ofNat (Lv + p1.toNatClampNeg)))] [])) t
      refine XS.iloadN X18.here hx rfl (hb hby d3_35) rfl ?_
      show Steps p.tables e below (T18.setTop (mkF m 36 #[.val (.ref a0), .val (.int p1), .val (.int p2), .val (.int (Int32.ofNat (Lv + p1.toNatClampNeg)))] [(.int (Int32.ofNat (Lv + p1.toNatClampNeg)))])) t
      refine XS.iconst X18.here hx rfl (hb hby d3_36) ?_
      show Steps p.tables e below (T18.setTop (mkF m 37 #[.val (.ref a0), .val (.int p1), .val (.int p2), .val (.int (Int32.ofNat (Lv + p1.toNatClampNeg)))] [(.int (1 : Int32)), (.int (Int32.ofNat (Lv + p1.toNatClampNeg)))])) t
      refine XS.ishr X18.here hx rfl (hb hby d3_37) rfl ?_
      show Steps p.tables e below (T18.setTop (mkF m 38 #[.val (.ref a0), .val (.int p1), .val (.int p2), .val (.int (Int32.ofNat (Lv + p1.toNatClampNeg)))] [(.int ((Int32.ofNat (Lv + p1.toNatClampNeg)) >>> ((1 : Int32) &&& 31)))])) t
      refine XS.istoreN X18.here hx rfl (hb hby d3_38) rfl (l' := #[.val (.ref a0), .val (.int p1), .val (.int p2), .val (.int ((Int32.ofNat (Lv + p1.toNatClampNeg)) >>> ((1 : Int32) &&& 31)))]) rfl ?_
      exact kt
    rw [own_eh _ (by omega)]
    exact lpA 8 ((Lv + p1.toNatClampNeg) / 2) _ T18 _ _ X18 e18 N18 KC18 hne (E_a0.wr W18) (Fl_a0.other W18 (Or.inl (Ne.symm hne))) (Ft_a0.other W18 (Or.inl (Ne.symm hne))) O18 hL8.2 (by omega) (by show _ < 256; omega) (own_setv Lv g rm hV p1.toNatClampNeg hPL p2)
  · refine OGo.step (F' := T15.setTop (mkF m 15 #[.val (.ref a0), .val (.int p1), .val (.int p2), .unset] [])) (fun t kt => ?_) ?_
    · show Steps p.tables e below (T15.setTop (mkF m 12 #[.val (.ref a0), .val (.int p1), .val (.int p2), .unset] [(.int (Int32.ofNat Lv)), (.int p1)])) t
      refine XS.icmpNo X15.here hx rfl (hb hby d3_12) rfl (flt hc12).1 ?_
      exact kt
    refine OGo.step (F' := T15.setTop (mkF m 17 #[.val (.ref a0), .val (.int p1), .val (.int p2), .unset] [(.int p1), (.ref a0)])) (fun t kt => ?_) ?_
    · show Steps p.tables e below (T15.setTop (mkF m 15 #[.val (.ref a0), .val (.int p1), .val (.int p2), .unset] [])) t
      refine XS.aloadN X15.here hx rfl (hb hby d3_15) rfl rfl ?_
      show Steps p.tables e below (T15.setTop (mkF m 16 #[.val (.ref a0), .val (.int p1), .val (.int p2), .unset] [(.ref a0)])) t
      refine XS.iloadN X15.here hx rfl (hb hby d3_16) rfl ?_
      exact kt
    refine OGo.callP X15 hx hZ (y := (⟨"com/example/kursor/kursor/storage/table/FreeSpace", "grow", "(I)V"⟩ : MethodName)) (z := (⟨"com/example/kursor/kursor/storage/table/FreeSpace", "set", "(II)V"⟩ : MethodName)) rfl hown (own_wd hw 22 rfl) (own_wd hw 23 rfl) (own_wd hw 24 rfl) (own_wd hw 18 rfl) (own_wd hw 19 rfl) (own_wd hw 4 rfl) (own_wd hw 25 rfl) (by decide) (rm4 l Z az hw [] a0 p1 t0 Lv g rm h0 n0 Z0 E_a0 Fl_a0 Ft_a0 O_t0 hV hp (Nat.le_of_not_lt fun q => hc12 ((own_plt hp0 hL8.2).mpr q)) gn_a0) (W := 0) (by decide) (by decide) E_a0 (g := (mkF m 17 #[.val (.ref a0), .val (.int p1), .val (.int p2), .unset] [(.int p1), (.ref a0)])) rfl (by rw [hml]; rfl) (argsL := [(.int p1)]) (rest := []) (lenOf pd_3_1 rfl) rfl (by show 2 * 0 + _ ≤ _; exact Nat.le_of_eq rfl) (hb hby d3_17) rfl e15 (by decide) (by decide) ?_
    rintro _ T19 L19 X19 ⟨b19_t, rfl, Nq19, K19, sz_b19_t, P19_0, P19_1, P19_2, P19_3⟩
    have KC19 : Keep h0 T19.heap [a0, t0] := (Keep.refl h0 [a0, t0]).trans K19 (allS (Or.inl (List.mem_of_getElem? (i := 0) rfl)) all0)
    have szo_b19_t := sz_b19_t
    replace sz_b19_t : h0.size ≤ b19_t := Nat.le_trans (Keep.refl h0 [a0, t0]).1 sz_b19_t
    have gn_b19_t : n0 ≤ b19_t := Nat.le_trans Z0 sz_b19_t
    have N19 := Fr.app N0 Nq19
    show OGo _ _ _ _ _ _ _ (T19.setTop (mkF m 20 #[.val (.ref a0), .val (.int p1), .val (.int p2), .unset] []))
    refine OGo.step (F' := T19.setTop (mkF m 21 #[.val (.ref a0), .val (.int p1), .val (.int p2), .unset] [(.ref a0)])) (fun t kt => ?_) ?_
    · show Steps p.tables e below (T19.setTop (mkF m 20 #[.val (.ref a0), .val (.int p1), .val (.int p2), .unset] [])) t
      refine XS.aloadN X19.here hx rfl (hb hby d3_20) rfl rfl ?_
      exact kt
    obtain ⟨T20, X20, e20, st20⟩ := getF X19 hx hZ hown (host := "") (Or.inl (own_wd hw 11 rfl)) Via.refl rfl P19_1 (g := (mkF m 21 #[.val (.ref a0), .val (.int p1), .val (.int p2), .unset] [(.ref a0)])) rfl rfl (hb hby d3_21)
    refine OGo.step st20 ?_
    show OGo _ _ _ _ _ _ _ (T20.setTop (mkF m 24 #[.val (.ref a0), .val (.int p1), .val (.int p2), .unset] [(.int (Int32.ofNat (own_G p1.toNatClampNeg)))]))
    refine OGo.step (F' := T20.setTop (mkF m 27 #[.val (.ref a0), .val (.int p1), .val (.int p2), .val (.int ((Int32.ofNat (own_G p1.toNatClampNeg)) + p1))] [])) (fun t kt => ?_) ?_
    · show Steps p.tables e below (T20.setTop (mkF m 24 #[.val (.ref a0), .val (.int p1), .val (.int p2), .unset] [(.int (Int32.ofNat (own_G p1.toNatClampNeg)))])) t
      refine XS.iloadN X20.here hx rfl (hb hby d3_24) rfl ?_
      show Steps p.tables e below (T20.setTop (mkF m 25 #[.val (.ref a0), .val (.int p1), .val (.int p2), .unset] [(.int p1), (.int (Int32.ofNat (own_G p1.toNatClampNeg)))])) t
      refine XS.iadd X20.here hx rfl (hb hby d3_25) rfl ?_
      show Steps p.tables e below (T20.setTop (mkF m 26 #[.val (.ref a0), .val (.int p1), .val (.int p2), .unset] [(.int ((Int32.ofNat (own_G p1.toNatClampNeg)) + p1))])) t
      refine XS.istoreN X20.here hx rfl (hb hby d3_26) rfl (l' := #[.val (.ref a0), .val (.int p1), .val (.int p2), .val (.int ((Int32.ofNat (own_G p1.toNatClampNeg)) + p1))]) rfl ?_
      exact kt
    rw [own_eLp hp]
    show OGo _ _ _ _ _ _ _ (T20.setTop (mkF m 27 #[.val (.ref a0), .val (.int p1), .val (.int p2), .val (.int (Int32.ofNat ((own_G p1.toNatClampNeg) + p1.toNatClampNeg)))] []))
    refine OGo.step (F' := T20.setTop (mkF m 28 #[.val (.ref a0), .val (.int p1), .val (.int p2), .val (.int (Int32.ofNat ((own_G p1.toNatClampNeg) + p1.toNatClampNeg)))] [(.ref a0)])) (fun t kt => ?_) ?_
    · show Steps p.tables e below (T20.setTop (mkF m 27 #[.val (.ref a0), .val (.int p1), .val (.int p2), .val (.int (Int32.ofNat ((own_G p1.toNatClampNeg) + p1.toNatClampNeg)))] [])) t
      refine XS.aloadN X20.here hx rfl (hb hby d3_27) rfl rfl ?_
      exact kt
    obtain ⟨T21, X21, e21, st21⟩ := getF X20 hx hZ hown (host := "") (Or.inl (own_wd hw 14 rfl)) Via.refl e20 P19_2 (g := (mkF m 28 #[.val (.ref a0), .val (.int p1), .val (.int p2), .val (.int (Int32.ofNat ((own_G p1.toNatClampNeg) + p1.toNatClampNeg)))] [(.ref a0)])) rfl rfl (hb hby d3_28)
    refine OGo.step st21 ?_
    show OGo _ _ _ _ _ _ _ (T21.setTop (mkF m 31 #[.val (.ref a0), .val (.int p1), .val (.int p2), .val (.int (Int32.ofNat ((own_G p1.toNatClampNeg) + p1.toNatClampNeg)))] [(.ref b19_t)]))
    refine OGo.step (F' := T21.setTop (mkF m 34 #[.val (.ref a0), .val (.int p1), .val (.int p2), .val (.int (Int32.ofNat ((own_G p1.toNatClampNeg) + p1.toNatClampNeg)))] [(.int (p2.toUInt32.toUInt16.toUInt32.toInt32)), (.int (Int32.ofNat ((own_G p1.toNatClampNeg) + p1.toNatClampNeg))), (.ref b19_t)])) (fun t kt => ?_) ?_
    · show Steps p.tables e below (T21.setTop (mkF m 31 #[.val (.ref a0), .val (.int p1), .val (.int p2), .val (.int (Int32.ofNat ((own_G p1.toNatClampNeg) + p1.toNatClampNeg)))] [(.ref b19_t)])) t
      refine XS.iloadN X21.here hx rfl (hb hby d3_31) rfl ?_
      show Steps p.tables e below (T21.setTop (mkF m 32 #[.val (.ref a0), .val (.int p1), .val (.int p2), .val (.int (Int32.ofNat ((own_G p1.toNatClampNeg) + p1.toNatClampNeg)))] [(.int (Int32.ofNat ((own_G p1.toNatClampNeg) + p1.toNatClampNeg))), (.ref b19_t)])) t
      refine XS.iloadN X21.here hx rfl (hb hby d3_32) rfl ?_
      show Steps p.tables e below (T21.setTop (mkF m 33 #[.val (.ref a0), .val (.int p1), .val (.int p2), .val (.int (Int32.ofNat ((own_G p1.toNatClampNeg) + p1.toNatClampNeg)))] [(.int p2), (.int (Int32.ofNat ((own_G p1.toNatClampNeg) + p1.toNatClampNeg))), (.ref b19_t)])) t
      refine XS.i2c X21.here hx rfl (hb hby d3_33) rfl ?_
      exact kt
    obtain ⟨hn22, kk22, cl22, Ar22, qz22, S22, N22a, H22, G22⟩ := id (P19_3)
    obtain ⟨hin22, hat22⟩ := own_tat (g := (own_dn ((own_G p1.toNatClampNeg) - 1) (own_cp Lv (own_G p1.toNatClampNeg) g))) (j := (Int32.ofNat ((own_G p1.toNatClampNeg) + p1.toNatClampNeg))) (i := ((own_G p1.toNatClampNeg) + p1.toNatClampNeg)) hn22 S22 H22 rfl (by omega)
    obtain ⟨T22, h22, X22, e22, W22, st22⟩ := stC X21 hx hZ e21 Ar22 (j := (Int32.ofNat ((own_G p1.toNatClampNeg) + p1.toNatClampNeg))) hin22 (g := (mkF m 34 #[.val (.ref a0), .val (.int p1), .val (.int p2), .val (.int (Int32.ofNat ((own_G p1.toNatClampNeg) + p1.toNatClampNeg)))] [(.int (p2.toUInt32.toUInt16.toUInt32.toInt32)), (.int (Int32.ofNat ((own_G p1.toNatClampNeg) + p1.toNatClampNeg))), (.ref b19_t)])) rfl rfl (hb hby d3_34)
    have O22 : OTr Z h22 b19_t (2 * (own_G p1.toNatClampNeg)) (own_upd (own_dn ((own_G p1.toNatClampNeg) - 1) (own_cp Lv (own_G p1.toNatClampNeg) g)) ((own_G p1.toNatClampNeg) + p1.toNatClampNeg) (own_ch p2)) := OTr.set P19_3 (v := (own_ch p2)) W22 ((own_G p1.toNatClampNeg) + p1.toNatClampNeg) rfl (fits_nar_char _) (by omega)
    have KC22 : Keep h0 h22 [a0, t0] := KC19.wr W22 (Or.inr sz_b19_t)
    have N22 := Fr.snoc X22 N19 gn_b19_t
    refine OGo.step st22 ?_
    show OGo _ _ _ _ _ _ _ (T22.setTop (mkF m 35 #[.val (.ref a0), .val (.int p1), .val (.int p2), .val (.int (Int32.ofNat ((own_G p1.toNatClampNeg) + p1.toNatClampNeg)))] []))
    refine OGo.step (F' := T22.setTop (mkF m 39 #[.val (.ref a0), .val (.int p1), .val (.int p2), .val (.int ((Int32.ofNat ((own_G p1.toNatClampNeg) + p1.toNatClampNeg)) >>> ((1 : Int32) &&& 31)))] [])) (fun t kt => ?_) ?_
    · show Steps p.tables e below (T22.setTop (mkF m 35 #[.val (.ref a0), .val (.int p1), .val (.int p2), .val (.int (Int32.ofNat ((own_G p1.toNatClampNeg) + p1.toNatClampNeg)))] [])) t
      refine XS.iloadN X22.here hx rfl (hb hby d3_35) rfl ?_
      show Steps p.tables e below (T22.setTop (mkF m 36 #[.val (.ref a0), .val (.int p1), .val (.int p2), .val (.int (Int32.ofNat ((own_G p1.toNatClampNeg) + p1.toNatClampNeg)))] [(.int (Int32.ofNat ((own_G p1.toNatClampNeg) + p1.toNatClampNeg)))])) t
      refine XS.iconst X22.here hx rfl (hb hby d3_36) ?_
      show Steps p.tables e below (T22.setTop (mkF m 37 #[.val (.ref a0), .val (.int p1), .val (.int p2), .val (.int (Int32.ofNat ((own_G p1.toNatClampNeg) + p1.toNatClampNeg)))] [(.int (1 : Int32)), (.int (Int32.ofNat ((own_G p1.toNatClampNeg) + p1.toNatClampNeg)))])) t
      refine XS.ishr X22.here hx rfl (hb hby d3_37) rfl ?_
      show Steps p.tables e below (T22.setTop (mkF m 38 #[.val (.ref a0), .val (.int p1), .val (.int p2), .val (.int (Int32.ofNat ((own_G p1.toNatClampNeg) + p1.toNatClampNeg)))] [(.int ((Int32.ofNat ((own_G p1.toNatClampNeg) + p1.toNatClampNeg)) >>> ((1 : Int32) &&& 31)))])) t
      refine XS.istoreN X22.here hx rfl (hb hby d3_38) rfl (l' := #[.val (.ref a0), .val (.int p1), .val (.int p2), .val (.int ((Int32.ofNat ((own_G p1.toNatClampNeg) + p1.toNatClampNeg)) >>> ((1 : Int32) &&& 31)))]) rfl ?_
      exact kt
    rw [own_eh _ (by omega)]
    exact lpB 8 (((own_G p1.toNatClampNeg) + p1.toNatClampNeg) / 2) b19_t (own_G p1.toNatClampNeg) _ T22 _ _ X22 e22 N22 KC22 sz_b19_t gn_b19_t (Ne.symm (Nat.ne_of_lt (Nat.lt_of_lt_of_le E_a0.lt szo_b19_t))) (P19_0.wr W22) (P19_1.other W22 (Or.inl (Nat.ne_of_lt (Nat.lt_of_lt_of_le E_a0.lt szo_b19_t)))) (P19_2.other W22 (Or.inl (Nat.ne_of_lt (Nat.lt_of_lt_of_le E_a0.lt szo_b19_t)))) O22 hG8.2 (by omega) (by show _ < 256; omega) (own_setv (own_G p1.toNatClampNeg) _ rm (own_growv Lv (own_G p1.toNatClampNeg) g rm hV hGw (Nat.le_of_lt (Nat.lt_of_le_of_lt (Nat.le_of_not_lt fun q => hc12 ((own_plt hp0 hL8.2).mpr q)) hGp))) p1.toNatClampNeg hGp p2)
theorem own_c1 {L e n : Nat} (h : own_cov L e n) : L < (n + 1) * 2 ^ e := by
  obtain ⟨h1, h2⟩ := h
  have pe : 1 ≤ 2 ^ e := Nat.one_le_two_pow
  have x1 : (n + 1) * 2 ^ e = n * 2 ^ e + 2 ^ e := by rw [Nat.add_mul, Nat.one_mul]
  omega
/-! body 8: com/example/kursor/kursor/storage/table/FreeSpace.first:(II)I -/
theorem d8_0 : decode prog_211_method_4_code 0 = .ok (.iload_n 1, 1) := by decide +kernel
theorem d8_1 : decode prog_211_method_4_code 1 = .ok (.aload_n 0, 1) := by decide +kernel
theorem d8_2 : decode prog_211_method_4_code 2 = .ok (.getfield 7, 3) := by decide +kernel
theorem d8_5 : decode prog_211_method_4_code 5 = .ok (.if_icmp .lt 5, 3) := by decide +kernel
theorem d8_8 : decode prog_211_method_4_code 8 = .ok (.iconst 0, 1) := by decide +kernel
theorem d8_9 : decode prog_211_method_4_code 9 = .ok (.ireturn, 1) := by decide +kernel
theorem d8_10 : decode prog_211_method_4_code 10 = .ok (.aload_n 0, 1) := by decide +kernel
theorem d8_11 : decode prog_211_method_4_code 11 = .ok (.getfield 7, 3) := by decide +kernel
theorem d8_14 : decode prog_211_method_4_code 14 = .ok (.iload_n 1, 1) := by decide +kernel
theorem d8_15 : decode prog_211_method_4_code 15 = .ok (.iadd, 1) := by decide +kernel
theorem d8_16 : decode prog_211_method_4_code 16 = .ok (.istore_n 3, 1) := by decide +kernel
theorem d8_17 : decode prog_211_method_4_code 17 = .ok (.aload_n 0, 1) := by decide +kernel
theorem d8_18 : decode prog_211_method_4_code 18 = .ok (.getfield 13, 3) := by decide +kernel
theorem d8_21 : decode prog_211_method_4_code 21 = .ok (.iload_n 3, 1) := by decide +kernel
theorem d8_22 : decode prog_211_method_4_code 22 = .ok (.caload, 1) := by decide +kernel
theorem d8_23 : decode prog_211_method_4_code 23 = .ok (.iload_n 2, 1) := by decide +kernel
theorem d8_24 : decode prog_211_method_4_code 24 = .ok (.if_icmp .ge 29, 3) := by decide +kernel
theorem d8_27 : decode prog_211_method_4_code 27 = .ok (.iload_n 3, 1) := by decide +kernel
theorem d8_28 : decode prog_211_method_4_code 28 = .ok (.iconst 1, 1) := by decide +kernel
theorem d8_29 : decode prog_211_method_4_code 29 = .ok (.iand, 1) := by decide +kernel
theorem d8_30 : decode prog_211_method_4_code 30 = .ok (.iconst 1, 1) := by decide +kernel
theorem d8_31 : decode prog_211_method_4_code 31 = .ok (.if_icmp .ne 10, 3) := by decide +kernel
theorem d8_34 : decode prog_211_method_4_code 34 = .ok (.iload_n 3, 1) := by decide +kernel
theorem d8_35 : decode prog_211_method_4_code 35 = .ok (.iconst 1, 1) := by decide +kernel
theorem d8_36 : decode prog_211_method_4_code 36 = .ok (.ishr, 1) := by decide +kernel
theorem d8_37 : decode prog_211_method_4_code 37 = .ok (.istore_n 3, 1) := by decide +kernel
theorem d8_38 : decode prog_211_method_4_code 38 = .ok (.goto (-11), 3) := by decide +kernel
theorem d8_41 : decode prog_211_method_4_code 41 = .ok (.iload_n 3, 1) := by decide +kernel
theorem d8_42 : decode prog_211_method_4_code 42 = .ok (.ifCond .ne 5, 3) := by decide +kernel
theorem d8_45 : decode prog_211_method_4_code 45 = .ok (.iconst 0, 1) := by decide +kernel
theorem d8_46 : decode prog_211_method_4_code 46 = .ok (.ireturn, 1) := by decide +kernel
theorem d8_47 : decode prog_211_method_4_code 47 = .ok (.iinc 3 1, 3) := by decide +kernel
theorem d8_50 : decode prog_211_method_4_code 50 = .ok (.goto (-33), 3) := by decide +kernel
theorem d8_53 : decode prog_211_method_4_code 53 = .ok (.iload_n 3, 1) := by decide +kernel
theorem d8_54 : decode prog_211_method_4_code 54 = .ok (.aload_n 0, 1) := by decide +kernel
theorem d8_55 : decode prog_211_method_4_code 55 = .ok (.getfield 7, 3) := by decide +kernel
theorem d8_58 : decode prog_211_method_4_code 58 = .ok (.if_icmp .ge 30, 3) := by decide +kernel
theorem d8_61 : decode prog_211_method_4_code 61 = .ok (.aload_n 0, 1) := by decide +kernel
theorem d8_62 : decode prog_211_method_4_code 62 = .ok (.getfield 13, 3) := by decide +kernel
theorem d8_65 : decode prog_211_method_4_code 65 = .ok (.iconst 2, 1) := by decide +kernel
theorem d8_66 : decode prog_211_method_4_code 66 = .ok (.iload_n 3, 1) := by decide +kernel
theorem d8_67 : decode prog_211_method_4_code 67 = .ok (.imul, 1) := by decide +kernel
theorem d8_68 : decode prog_211_method_4_code 68 = .ok (.caload, 1) := by decide +kernel
theorem d8_69 : decode prog_211_method_4_code 69 = .ok (.iload_n 2, 1) := by decide +kernel
theorem d8_70 : decode prog_211_method_4_code 70 = .ok (.if_icmp .lt 9, 3) := by decide +kernel
theorem d8_73 : decode prog_211_method_4_code 73 = .ok (.iconst 2, 1) := by decide +kernel
theorem d8_74 : decode prog_211_method_4_code 74 = .ok (.iload_n 3, 1) := by decide +kernel
theorem d8_75 : decode prog_211_method_4_code 75 = .ok (.imul, 1) := by decide +kernel
theorem d8_76 : decode prog_211_method_4_code 76 = .ok (.goto 8, 3) := by decide +kernel
theorem d8_79 : decode prog_211_method_4_code 79 = .ok (.iconst 2, 1) := by decide +kernel
theorem d8_80 : decode prog_211_method_4_code 80 = .ok (.iload_n 3, 1) := by decide +kernel
theorem d8_81 : decode prog_211_method_4_code 81 = .ok (.imul, 1) := by decide +kernel
theorem d8_82 : decode prog_211_method_4_code 82 = .ok (.iconst 1, 1) := by decide +kernel
theorem d8_83 : decode prog_211_method_4_code 83 = .ok (.iadd, 1) := by decide +kernel
theorem d8_84 : decode prog_211_method_4_code 84 = .ok (.istore_n 3, 1) := by decide +kernel
theorem d8_85 : decode prog_211_method_4_code 85 = .ok (.goto (-32), 3) := by decide +kernel
theorem d8_88 : decode prog_211_method_4_code 88 = .ok (.iload_n 3, 1) := by decide +kernel
theorem d8_89 : decode prog_211_method_4_code 89 = .ok (.aload_n 0, 1) := by decide +kernel
theorem d8_90 : decode prog_211_method_4_code 90 = .ok (.getfield 7, 3) := by decide +kernel
theorem d8_93 : decode prog_211_method_4_code 93 = .ok (.isub, 1) := by decide +kernel
theorem d8_94 : decode prog_211_method_4_code 94 = .ok (.ireturn, 1) := by decide +kernel
theorem pn_8 : plainName "com/example/kursor/kursor/storage/table/FreeSpace" = true := by first | (simp [plainName, overriddenIn]; done) | decide +kernel
theorem ef_8 (m : MethodId) (x0 : Addr) (x1 : Int32) (x2 : Int32) : entryFrame m #[(.ref x0), (.int x1), (.int x2)] 4 = mkF m 0 #[.val (.ref x0), .val (.int x1), .val (.int x2), .unset] [] := by first | (simp [entryFrame, mkF, argsToLocals, Value.category]; done) | rfl
def Q8 (Z : State) (a0 : Addr) (p1 : Int32) (p2 : Int32) (t0 : Addr) (Lv : Nat) (g : Nat → Int32) (rm : Nat → Int32) (h0 : Heap) (n0 : Nat) (v : Option Value) (h : Heap) (L : List Loc) : Prop := ∃ r : Int32, v = some (.int r) ∧ Fr n0 L ∧ Keep h0 h [] ∧ own_fst rm p1.toNatClampNeg p2 r
set_option maxRecDepth 65536 in
set_option maxHeartbeats 40000000 in
theorem rm8 (l : Launch) (Z : State) (az : Array Value) (hw : ∀ d ∈ tables_1, d.before az Z = true) (ws : List Jvm.Cond) (a0 : Addr) (p1 : Int32) (p2 : Int32) (t0 : Addr) (Lv : Nat) (g : Nat → Int32) (rm : Nat → Int32) (h0 : Heap) (n0 : Nat) (Z0 : n0 ≤ h0.size) (E_a0 : Exa Z h0 a0 "com/example/kursor/kursor/storage/table/FreeSpace") (Fl_a0 : Fld Z h0 a0 "com/example/kursor/kursor/storage/table/FreeSpace" "leaves" "I" (.int (Int32.ofNat Lv))) (Ft_a0 : Fld Z h0 a0 "com/example/kursor/kursor/storage/table/FreeSpace" "tree" "[C" (.ref t0)) (O_t0 : OTr Z h0 t0 (2 * Lv) g) (hV : own_val Lv g rm) (hfr : 1 ≤ p1.toInt) (hat1 : 1 ≤ p2.toInt) :
    OCtr l Z (⟨"com/example/kursor/kursor/storage/table/FreeSpace", "first", "(II)I"⟩ : MethodName) prog_211_method_4_code 4 (some .int) ws ({ frames := 0, cells := 0, slots := 0, locals := 0 } : Room) #[(.ref a0), (.int p1), (.int p2)] h0 (Q8 Z a0 p1 p2 t0 Lv g rm h0 n0) := by
  refine OCtr.of (plainFor_of_name pn_8) ?_
  intro p e s m below meth c s₁ X0 hx hlk hZ hown0 hnm hby hml0 hret e0
  have hown : s.vm.findClass "com/example/kursor/kursor/storage/table/FreeSpace" = some m.cls := hown0
  have hml : c.maxLocals = 4 := hml0
  have N0 := Fr.nil n0
  refine OGo.step (fun t k => castTop (ef_8 m a0 p1 p2) k) ?_
  have hL8 := own_l128 hV.1
  have hp0 : 0 ≤ p1.toInt := by omega
  have lpC : ∀ (ee n : Nat) (T0 : State) (locs : List Loc), Stand p l e ({ frames := 0, cells := 0, slots := 0, locals := 0 } : Room) s m #[(.ref a0), (.int p1), (.int p2)] below meth c T0 locs 0 0 → T0.heap = h0 → Fr n0 locs → own_cov Lv ee n → Lv + p1.toNatClampNeg ≤ n * 2 ^ ee → own_low Lv rm p1.toNatClampNeg p2 (n * 2 ^ ee) → ¬ g n < p2 → OGo p e below s (Q8 Z a0 p1 p2 t0 Lv g rm h0 n0) ({ frames := 0, cells := 0, slots := 0, locals := 0 } : Room).cells ({ frames := 0, cells := 0, slots := 0, locals := 0 } : Room).slots (T0.setTop (mkF m 53 #[.val (.ref a0), .val (.int p1), .val (.int p2), .val (.int (Int32.ofNat n))] [])) := by
    intro ee
    induction ee with
    | zero =>
      intro n T0 locs Xl el Nl hc hPn hl hn
      have hc1 := hc.1
      rw [Nat.pow_zero, Nat.mul_one] at hc1
      have hn2 := own_cn hc
      have hnL : ¬ ((Int32.ofNat n) < (Int32.ofNat Lv)) := fun q => by have := (own_el _ _ (by omega) (by omega)).mp q; omega
      refine OGo.step (F' := T0.setTop (mkF m 55 #[.val (.ref a0), .val (.int p1), .val (.int p2), .val (.int (Int32.ofNat n))] [(.ref a0), (.int (Int32.ofNat n))])) (fun t kt => ?_) ?_
      · show Steps p.tables e below (T0.setTop (mkF m 53 #[.val (.ref a0), .val (.int p1), .val (.int p2), .val (.int (Int32.ofNat n))] [])) t
        refine XS.iloadN Xl.here hx rfl (hb hby d8_53) rfl ?_
        show Steps p.tables e below (T0.setTop (mkF m 54 #[.val (.ref a0), .val (.int p1), .val (.int p2), .val (.int (Int32.ofNat n))] [(.int (Int32.ofNat n))])) t
        refine XS.aloadN Xl.here hx rfl (hb hby d8_54) rfl rfl ?_
        exact kt
      obtain ⟨T1, X1, e1, st1⟩ := getF Xl hx hZ hown (host := "") (Or.inl (own_wd hw 11 rfl)) Via.refl el Fl_a0 (g := (mkF m 55 #[.val (.ref a0), .val (.int p1), .val (.int p2), .val (.int (Int32.ofNat n))] [(.ref a0), (.int (Int32.ofNat n))])) rfl rfl (hb hby d8_55)
      refine OGo.step st1 ?_
      show OGo _ _ _ _ _ _ _ (T1.setTop (mkF m 58 #[.val (.ref a0), .val (.int p1), .val (.int p2), .val (.int (Int32.ofNat n))] [(.int (Int32.ofNat Lv)), (.int (Int32.ofNat n))]))
      refine OGo.step (F' := T1.setTop (mkF m 90 #[.val (.ref a0), .val (.int p1), .val (.int p2), .val (.int (Int32.ofNat n))] [(.ref a0), (.int (Int32.ofNat n))])) (fun t kt => ?_) ?_
      · show Steps p.tables e below (T1.setTop (mkF m 58 #[.val (.ref a0), .val (.int p1), .val (.int p2), .val (.int (Int32.ofNat n))] [(.int (Int32.ofNat Lv)), (.int (Int32.ofNat n))])) t
        refine XS.icmpYes X1.here hx rfl (pc0 := 58) (pc' := 88) rfl (hb hby d8_58) rfl (flt hnL).2.1 (by decide) (by decide) ?_
        show Steps p.tables e below (T1.setTop (mkF m 88 #[.val (.ref a0), .val (.int p1), .val (.int p2), .val (.int (Int32.ofNat n))] [])) t
        refine XS.iloadN X1.here hx rfl (hb hby d8_88) rfl ?_
        show Steps p.tables e below (T1.setTop (mkF m 89 #[.val (.ref a0), .val (.int p1), .val (.int p2), .val (.int (Int32.ofNat n))] [(.int (Int32.ofNat n))])) t
        refine XS.aloadN X1.here hx rfl (hb hby d8_89) rfl rfl ?_
        exact kt
      obtain ⟨T2, X2, e2, st2⟩ := getF X1 hx hZ hown (host := "") (Or.inl (own_wd hw 11 rfl)) Via.refl e1 Fl_a0 (g := (mkF m 90 #[.val (.ref a0), .val (.int p1), .val (.int p2), .val (.int (Int32.ofNat n))] [(.ref a0), (.int (Int32.ofNat n))])) rfl rfl (hb hby d8_90)
      refine OGo.step st2 ?_
      show OGo _ _ _ _ _ _ _ (T2.setTop (mkF m 93 #[.val (.ref a0), .val (.int p1), .val (.int p2), .val (.int (Int32.ofNat n))] [(.int (Int32.ofNat Lv)), (.int (Int32.ofNat n))]))
      refine OGo.step (F' := T2.setTop (mkF m 94 #[.val (.ref a0), .val (.int p1), .val (.int p2), .val (.int (Int32.ofNat n))] [(.int ((Int32.ofNat n) - (Int32.ofNat Lv)))])) (fun t kt => ?_) ?_
      · show Steps p.tables e below (T2.setTop (mkF m 93 #[.val (.ref a0), .val (.int p1), .val (.int p2), .val (.int (Int32.ofNat n))] [(.int (Int32.ofNat Lv)), (.int (Int32.ofNat n))])) t
        refine XS.isub X2.here hx rfl (hb hby d8_93) rfl ?_
        exact kt
      refine OGo.retI X2 hx hlk hret (hb hby d8_94) ?_ (by decide) (by decide)
      show Q8 Z a0 p1 p2 t0 Lv g rm h0 n0 _ T2.heap _
      rw [e2]
      exact ⟨((Int32.ofNat n) - (Int32.ofNat Lv)), rfl, Nl, (Keep.refl h0 []), (own_fnd hV hc hPn hl hn)⟩
    | succ ee ih =>
      intro n T0 locs Xl el Nl hc hPn hl hn
      obtain ⟨nL, n2L, dA, dB⟩ := own_dwn hV hc hPn hl hn
      have hnL : (Int32.ofNat n) < (Int32.ofNat Lv) := (own_el _ _ (by omega) (by omega)).mpr nL
      refine OGo.step (F' := T0.setTop (mkF m 55 #[.val (.ref a0), .val (.int p1), .val (.int p2), .val (.int (Int32.ofNat n))] [(.ref a0), (.int (Int32.ofNat n))])) (fun t kt => ?_) ?_
      · show Steps p.tables e below (T0.setTop (mkF m 53 #[.val (.ref a0), .val (.int p1), .val (.int p2), .val (.int (Int32.ofNat n))] [])) t
        refine XS.iloadN Xl.here hx rfl (hb hby d8_53) rfl ?_
        show Steps p.tables e below (T0.setTop (mkF m 54 #[.val (.ref a0), .val (.int p1), .val (.int p2), .val (.int (Int32.ofNat n))] [(.int (Int32.ofNat n))])) t
        refine XS.aloadN Xl.here hx rfl (hb hby d8_54) rfl rfl ?_
        exact kt
      obtain ⟨T3, X3, e3, st3⟩ := getF Xl hx hZ hown (host := "") (Or.inl (own_wd hw 11 rfl)) Via.refl el Fl_a0 (g := (mkF m 55 #[.val (.ref a0), .val (.int p1), .val (.int p2), .val (.int (Int32.ofNat n))] [(.ref a0), (.int (Int32.ofNat n))])) rfl rfl (hb hby d8_55)
      refine OGo.step st3 ?_
      show OGo _ _ _ _ _ _ _ (T3.setTop (mkF m 58 #[.val (.ref a0), .val (.int p1), .val (.int p2), .val (.int (Int32.ofNat n))] [(.int (Int32.ofNat Lv)), (.int (Int32.ofNat n))]))
      refine OGo.step (F' := T3.setTop (mkF m 62 #[.val (.ref a0), .val (.int p1), .val (.int p2), .val (.int (Int32.ofNat n))] [(.ref a0)])) (fun t kt => ?_) ?_
      · show Steps p.tables e below (T3.setTop (mkF m 58 #[.val (.ref a0), .val (.int p1), .val (.int p2), .val (.int (Int32.ofNat n))] [(.int (Int32.ofNat Lv)), (.int (Int32.ofNat n))])) t
        refine XS.icmpNo X3.here hx rfl (hb hby d8_58) rfl (tlt hnL).2.1 ?_
        show Steps p.tables e below (T3.setTop (mkF m 61 #[.val (.ref a0), .val (.int p1), .val (.int p2), .val (.int (Int32.ofNat n))] [])) t
        refine XS.aloadN X3.here hx rfl (hb hby d8_61) rfl rfl ?_
        exact kt
      obtain ⟨T4, X4, e4, st4⟩ := getF X3 hx hZ hown (host := "") (Or.inl (own_wd hw 14 rfl)) Via.refl e3 Ft_a0 (g := (mkF m 62 #[.val (.ref a0), .val (.int p1), .val (.int p2), .val (.int (Int32.ofNat n))] [(.ref a0)])) rfl rfl (hb hby d8_62)
      refine OGo.step st4 ?_
      show OGo _ _ _ _ _ _ _ (T4.setTop (mkF m 65 #[.val (.ref a0), .val (.int p1), .val (.int p2), .val (.int (Int32.ofNat n))] [(.ref t0)]))
      refine OGo.step (F' := T4.setTop (mkF m 68 #[.val (.ref a0), .val (.int p1), .val (.int p2), .val (.int (Int32.ofNat n))] [(.int ((2 : Int32) * (Int32.ofNat n))), (.ref t0)])) (fun t kt => ?_) ?_
      · show Steps p.tables e below (T4.setTop (mkF m 65 #[.val (.ref a0), .val (.int p1), .val (.int p2), .val (.int (Int32.ofNat n))] [(.ref t0)])) t
        refine XS.iconst X4.here hx rfl (hb hby d8_65) ?_
        show Steps p.tables e below (T4.setTop (mkF m 66 #[.val (.ref a0), .val (.int p1), .val (.int p2), .val (.int (Int32.ofNat n))] [(.int (2 : Int32)), (.ref t0)])) t
        refine XS.iloadN X4.here hx rfl (hb hby d8_66) rfl ?_
        show Steps p.tables e below (T4.setTop (mkF m 67 #[.val (.ref a0), .val (.int p1), .val (.int p2), .val (.int (Int32.ofNat n))] [(.int (Int32.ofNat n)), (.int (2 : Int32)), (.ref t0)])) t
        refine XS.imul X4.here hx rfl (hb hby d8_67) rfl ?_
        exact kt
      obtain ⟨hn5, kk5, cl5, Ar5, qz5, S5, N5a, H5, G5⟩ := id (O_t0)
      obtain ⟨hin5, hat5⟩ := own_tat (g := g) (j := ((2 : Int32) * (Int32.ofNat n))) (i := (2 * n)) hn5 S5 H5 (own_e2 _) (by omega)
      refine OGo.step (F' := T4.setTop (mkF m 69 #[.val (.ref a0), .val (.int p1), .val (.int p2), .val (.int (Int32.ofNat n))] [(.int (g (2 * n)))])) (fun t kt => ?_) ?_
      · show Steps p.tables e below (T4.setTop (mkF m 68 #[.val (.ref a0), .val (.int p1), .val (.int p2), .val (.int (Int32.ofNat n))] [(.int ((2 : Int32) * (Int32.ofNat n))), (.ref t0)])) t
        refine X4.caload hx (j := ((2 : Int32) * (Int32.ofNat n))) (v := (.int (g (2 * n)))) (by rw [e4]; exact Ar5.1) (State.isArrayOf_alike hZ.alike Ar5.2.1) Ar5.2.2 hin5 hat5 (g := (mkF m 68 #[.val (.ref a0), .val (.int p1), .val (.int p2), .val (.int (Int32.ofNat n))] [(.int ((2 : Int32) * (Int32.ofNat n))), (.ref t0)])) rfl rfl (hb hby d8_68) _ ?_
        exact kt
      refine OGo.step (F' := T4.setTop (mkF m 70 #[.val (.ref a0), .val (.int p1), .val (.int p2), .val (.int (Int32.ofNat n))] [(.int p2), (.int (g (2 * n)))])) (fun t kt => ?_) ?_
      · show Steps p.tables e below (T4.setTop (mkF m 69 #[.val (.ref a0), .val (.int p1), .val (.int p2), .val (.int (Int32.ofNat n))] [(.int (g (2 * n)))])) t
        refine XS.iloadN X4.here hx rfl (hb hby d8_69) rfl ?_
        exact kt
      by_cases hc70 : (g (2 * n)) < p2
      · refine OGo.step (F' := T4.setTop (mkF m 79 #[.val (.ref a0), .val (.int p1), .val (.int p2), .val (.int (Int32.ofNat n))] [])) (fun t kt => ?_) ?_
        · show Steps p.tables e below (T4.setTop (mkF m 70 #[.val (.ref a0), .val (.int p1), .val (.int p2), .val (.int (Int32.ofNat n))] [(.int p2), (.int (g (2 * n)))])) t
          refine XS.icmpYes X4.here hx rfl (pc0 := 70) (pc' := 79) rfl (hb hby d8_70) rfl (tlt hc70).1 (by decide) (by decide) ?_
          exact kt
        refine OGo.step (F' := T4.setTop (mkF m 53 #[.val (.ref a0), .val (.int p1), .val (.int p2), .val (.int (((2 : Int32) * (Int32.ofNat n)) + (1 : Int32)))] [])) (fun t kt => ?_) ?_
        · show Steps p.tables e below (T4.setTop (mkF m 79 #[.val (.ref a0), .val (.int p1), .val (.int p2), .val (.int (Int32.ofNat n))] [])) t
          refine XS.iconst X4.here hx rfl (hb hby d8_79) ?_
          show Steps p.tables e below (T4.setTop (mkF m 80 #[.val (.ref a0), .val (.int p1), .val (.int p2), .val (.int (Int32.ofNat n))] [(.int (2 : Int32))])) t
          refine XS.iloadN X4.here hx rfl (hb hby d8_80) rfl ?_
          show Steps p.tables e below (T4.setTop (mkF m 81 #[.val (.ref a0), .val (.int p1), .val (.int p2), .val (.int (Int32.ofNat n))] [(.int (Int32.ofNat n)), (.int (2 : Int32))])) t
          refine XS.imul X4.here hx rfl (hb hby d8_81) rfl ?_
          show Steps p.tables e below (T4.setTop (mkF m 82 #[.val (.ref a0), .val (.int p1), .val (.int p2), .val (.int (Int32.ofNat n))] [(.int ((2 : Int32) * (Int32.ofNat n)))])) t
          refine XS.iconst X4.here hx rfl (hb hby d8_82) ?_
          show Steps p.tables e below (T4.setTop (mkF m 83 #[.val (.ref a0), .val (.int p1), .val (.int p2), .val (.int (Int32.ofNat n))] [(.int (1 : Int32)), (.int ((2 : Int32) * (Int32.ofNat n)))])) t
          refine XS.iadd X4.here hx rfl (hb hby d8_83) rfl ?_
          show Steps p.tables e below (T4.setTop (mkF m 84 #[.val (.ref a0), .val (.int p1), .val (.int p2), .val (.int (Int32.ofNat n))] [(.int (((2 : Int32) * (Int32.ofNat n)) + (1 : Int32)))])) t
          refine XS.istoreN X4.here hx rfl (hb hby d8_84) rfl (l' := #[.val (.ref a0), .val (.int p1), .val (.int p2), .val (.int (((2 : Int32) * (Int32.ofNat n)) + (1 : Int32)))]) rfl ?_
          show Steps p.tables e below (T4.setTop (mkF m 85 #[.val (.ref a0), .val (.int p1), .val (.int p2), .val (.int (((2 : Int32) * (Int32.ofNat n)) + (1 : Int32)))] [])) t
          refine XS.goto X4.here hx rfl (pc0 := 85) (pc' := 53) rfl (hb hby d8_85) (by decide) (by decide) ?_
          exact kt
        rw [own_e21]
        exact ih (2 * n + 1) T4 _ X4 e4 Nl (dB hc70).1 (dB hc70).2.1 (dB hc70).2.2.1 (dB hc70).2.2.2
      · refine OGo.step (F' := T4.setTop (mkF m 73 #[.val (.ref a0), .val (.int p1), .val (.int p2), .val (.int (Int32.ofNat n))] [])) (fun t kt => ?_) ?_
        · show Steps p.tables e below (T4.setTop (mkF m 70 #[.val (.ref a0), .val (.int p1), .val (.int p2), .val (.int (Int32.ofNat n))] [(.int p2), (.int (g (2 * n)))])) t
          refine XS.icmpNo X4.here hx rfl (hb hby d8_70) rfl (flt hc70).1 ?_
          exact kt
        refine OGo.step (F' := T4.setTop (mkF m 53 #[.val (.ref a0), .val (.int p1), .val (.int p2), .val (.int ((2 : Int32) * (Int32.ofNat n)))] [])) (fun t kt => ?_) ?_
        · show Steps p.tables e below (T4.setTop (mkF m 73 #[.val (.ref a0), .val (.int p1), .val (.int p2), .val (.int (Int32.ofNat n))] [])) t
          refine XS.iconst X4.here hx rfl (hb hby d8_73) ?_
          show Steps p.tables e below (T4.setTop (mkF m 74 #[.val (.ref a0), .val (.int p1), .val (.int p2), .val (.int (Int32.ofNat n))] [(.int (2 : Int32))])) t
          refine XS.iloadN X4.here hx rfl (hb hby d8_74) rfl ?_
          show Steps p.tables e below (T4.setTop (mkF m 75 #[.val (.ref a0), .val (.int p1), .val (.int p2), .val (.int (Int32.ofNat n))] [(.int (Int32.ofNat n)), (.int (2 : Int32))])) t
          refine XS.imul X4.here hx rfl (hb hby d8_75) rfl ?_
          show Steps p.tables e below (T4.setTop (mkF m 76 #[.val (.ref a0), .val (.int p1), .val (.int p2), .val (.int (Int32.ofNat n))] [(.int ((2 : Int32) * (Int32.ofNat n)))])) t
          refine XS.goto X4.here hx rfl (pc0 := 76) (pc' := 84) rfl (hb hby d8_76) (by decide) (by decide) ?_
          show Steps p.tables e below (T4.setTop (mkF m 84 #[.val (.ref a0), .val (.int p1), .val (.int p2), .val (.int (Int32.ofNat n))] [(.int ((2 : Int32) * (Int32.ofNat n)))])) t
          refine XS.istoreN X4.here hx rfl (hb hby d8_84) rfl (l' := #[.val (.ref a0), .val (.int p1), .val (.int p2), .val (.int ((2 : Int32) * (Int32.ofNat n)))]) rfl ?_
          show Steps p.tables e below (T4.setTop (mkF m 85 #[.val (.ref a0), .val (.int p1), .val (.int p2), .val (.int ((2 : Int32) * (Int32.ofNat n)))] [])) t
          refine XS.goto X4.here hx rfl (pc0 := 85) (pc' := 53) rfl (hb hby d8_85) (by decide) (by decide) ?_
          exact kt
        rw [own_e2]
        exact ih (2 * n) T4 _ X4 e4 Nl (dA hc70).1 (dA hc70).2.1 (dA hc70).2.2 hc70
  have lpA : ∀ (M n ee : Nat) (T0 : State) (locs : List Loc), Stand p l e ({ frames := 0, cells := 0, slots := 0, locals := 0 } : Room) s m #[(.ref a0), (.int p1), (.int p2)] below meth c T0 locs 0 0 → T0.heap = h0 → Fr n0 locs → own_cov Lv ee n → 2 * Lv - n * 2 ^ ee ≤ M → Lv + p1.toNatClampNeg ≤ n * 2 ^ ee → own_low Lv rm p1.toNatClampNeg p2 (n * 2 ^ ee) → OGo p e below s (Q8 Z a0 p1 p2 t0 Lv g rm h0 n0) ({ frames := 0, cells := 0, slots := 0, locals := 0 } : Room).cells ({ frames := 0, cells := 0, slots := 0, locals := 0 } : Room).slots (T0.setTop (mkF m 17 #[.val (.ref a0), .val (.int p1), .val (.int p2), .val (.int (Int32.ofNat n))] [])) := by
    intro M
    induction M with
    | zero =>
      intro n ee T0 locs Xl el Nl hc hM hPn hl
      have := own_c0 hc
      omega
    | succ M ih =>
      have lpB : ∀ (j n ee : Nat) (T0 : State) (locs : List Loc), Stand p l e ({ frames := 0, cells := 0, slots := 0, locals := 0 } : Room) s m #[(.ref a0), (.int p1), (.int p2)] below meth c T0 locs 0 0 → T0.heap = h0 → Fr n0 locs → n ≤ j → (n + 1) * 2 ^ ee ≤ 2 * Lv → Lv < (n + 1) * 2 ^ ee → 2 * Lv - (n + 1) * 2 ^ ee ≤ M → Lv + p1.toNatClampNeg ≤ (n + 1) * 2 ^ ee → own_low Lv rm p1.toNatClampNeg p2 ((n + 1) * 2 ^ ee) → n ≤ 256 → OGo p e below s (Q8 Z a0 p1 p2 t0 Lv g rm h0 n0) ({ frames := 0, cells := 0, slots := 0, locals := 0 } : Room).cells ({ frames := 0, cells := 0, slots := 0, locals := 0 } : Room).slots (T0.setTop (mkF m 27 #[.val (.ref a0), .val (.int p1), .val (.int p2), .val (.int (Int32.ofNat n))] [])) := by
        intro j
        induction j with
        | zero =>
          intro n ee T0 locs Xl el Nl hj h1 h2 hM hPn hl hn6
          have hN0 : n = 0 := by omega
          subst hN0
          have hbt : ¬ (((Int32.ofNat 0) &&& (1 : Int32)) = (1 : Int32)) := by decide
          have hzz : (Int32.ofNat 0) = (0 : Int32) := by decide
          refine OGo.step (F' := T0.setTop (mkF m 46 #[.val (.ref a0), .val (.int p1), .val (.int p2), .val (.int (Int32.ofNat 0))] [(.int (0 : Int32))])) (fun t kt => ?_) ?_
          · show Steps p.tables e below (T0.setTop (mkF m 27 #[.val (.ref a0), .val (.int p1), .val (.int p2), .val (.int (Int32.ofNat 0))] [])) t
            refine XS.iloadN Xl.here hx rfl (hb hby d8_27) rfl ?_
            show Steps p.tables e below (T0.setTop (mkF m 28 #[.val (.ref a0), .val (.int p1), .val (.int p2), .val (.int (Int32.ofNat 0))] [(.int (Int32.ofNat 0))])) t
            refine XS.iconst Xl.here hx rfl (hb hby d8_28) ?_
            show Steps p.tables e below (T0.setTop (mkF m 29 #[.val (.ref a0), .val (.int p1), .val (.int p2), .val (.int (Int32.ofNat 0))] [(.int (1 : Int32)), (.int (Int32.ofNat 0))])) t
            refine XS.iand Xl.here hx rfl (hb hby d8_29) rfl ?_
            show Steps p.tables e below (T0.setTop (mkF m 30 #[.val (.ref a0), .val (.int p1), .val (.int p2), .val (.int (Int32.ofNat 0))] [(.int ((Int32.ofNat 0) &&& (1 : Int32)))])) t
            refine XS.iconst Xl.here hx rfl (hb hby d8_30) ?_
            show Steps p.tables e below (T0.setTop (mkF m 31 #[.val (.ref a0), .val (.int p1), .val (.int p2), .val (.int (Int32.ofNat 0))] [(.int (1 : Int32)), (.int ((Int32.ofNat 0) &&& (1 : Int32)))])) t
            refine XS.icmpYes Xl.here hx rfl (pc0 := 31) (pc' := 41) rfl (hb hby d8_31) rfl (feq hbt).2 (by decide) (by decide) ?_
            show Steps p.tables e below (T0.setTop (mkF m 41 #[.val (.ref a0), .val (.int p1), .val (.int p2), .val (.int (Int32.ofNat 0))] [])) t
            refine XS.iloadN Xl.here hx rfl (hb hby d8_41) rfl ?_
            show Steps p.tables e below (T0.setTop (mkF m 42 #[.val (.ref a0), .val (.int p1), .val (.int p2), .val (.int (Int32.ofNat 0))] [(.int (Int32.ofNat 0))])) t
            refine XS.ifNo Xl.here hx rfl (hb hby d8_42) rfl ((if0 _ _).trans (teq hzz).2) ?_
            show Steps p.tables e below (T0.setTop (mkF m 45 #[.val (.ref a0), .val (.int p1), .val (.int p2), .val (.int (Int32.ofNat 0))] [])) t
            refine XS.iconst Xl.here hx rfl (hb hby d8_45) ?_
            exact kt
          refine OGo.retI Xl hx hlk hret (hb hby d8_46) ?_ (by decide) (by decide)
          show Q8 Z a0 p1 p2 t0 Lv g rm h0 n0 _ T0.heap _
          rw [el]
          exact ⟨(0 : Int32), rfl, Nl, (Keep.refl h0 []), (own_end hV hat1 h2 hl)⟩
        | succ j ihj =>
          intro n ee T0 locs Xl el Nl hj h1 h2 hM hPn hl hn6
          rcases Nat.mod_two_eq_zero_or_one n with hod | hod
          · rcases Nat.eq_zero_or_pos n with hz | hz
            · subst hz
              have hbt : ¬ (((Int32.ofNat 0) &&& (1 : Int32)) = (1 : Int32)) := by decide
              have hzz : (Int32.ofNat 0) = (0 : Int32) := by decide
              refine OGo.step (F' := T0.setTop (mkF m 46 #[.val (.ref a0), .val (.int p1), .val (.int p2), .val (.int (Int32.ofNat 0))] [(.int (0 : Int32))])) (fun t kt => ?_) ?_
              · show Steps p.tables e below (T0.setTop (mkF m 27 #[.val (.ref a0), .val (.int p1), .val (.int p2), .val (.int (Int32.ofNat 0))] [])) t
                refine XS.iloadN Xl.here hx rfl (hb hby d8_27) rfl ?_
                show Steps p.tables e below (T0.setTop (mkF m 28 #[.val (.ref a0), .val (.int p1), .val (.int p2), .val (.int (Int32.ofNat 0))] [(.int (Int32.ofNat 0))])) t
                refine XS.iconst Xl.here hx rfl (hb hby d8_28) ?_
                show Steps p.tables e below (T0.setTop (mkF m 29 #[.val (.ref a0), .val (.int p1), .val (.int p2), .val (.int (Int32.ofNat 0))] [(.int (1 : Int32)), (.int (Int32.ofNat 0))])) t
                refine XS.iand Xl.here hx rfl (hb hby d8_29) rfl ?_
                show Steps p.tables e below (T0.setTop (mkF m 30 #[.val (.ref a0), .val (.int p1), .val (.int p2), .val (.int (Int32.ofNat 0))] [(.int ((Int32.ofNat 0) &&& (1 : Int32)))])) t
                refine XS.iconst Xl.here hx rfl (hb hby d8_30) ?_
                show Steps p.tables e below (T0.setTop (mkF m 31 #[.val (.ref a0), .val (.int p1), .val (.int p2), .val (.int (Int32.ofNat 0))] [(.int (1 : Int32)), (.int ((Int32.ofNat 0) &&& (1 : Int32)))])) t
                refine XS.icmpYes Xl.here hx rfl (pc0 := 31) (pc' := 41) rfl (hb hby d8_31) rfl (feq hbt).2 (by decide) (by decide) ?_
                show Steps p.tables e below (T0.setTop (mkF m 41 #[.val (.ref a0), .val (.int p1), .val (.int p2), .val (.int (Int32.ofNat 0))] [])) t
                refine XS.iloadN Xl.here hx rfl (hb hby d8_41) rfl ?_
                show Steps p.tables e below (T0.setTop (mkF m 42 #[.val (.ref a0), .val (.int p1), .val (.int p2), .val (.int (Int32.ofNat 0))] [(.int (Int32.ofNat 0))])) t
                refine XS.ifNo Xl.here hx rfl (hb hby d8_42) rfl ((if0 _ _).trans (teq hzz).2) ?_
                show Steps p.tables e below (T0.setTop (mkF m 45 #[.val (.ref a0), .val (.int p1), .val (.int p2), .val (.int (Int32.ofNat 0))] [])) t
                refine XS.iconst Xl.here hx rfl (hb hby d8_45) ?_
                exact kt
              refine OGo.retI Xl hx hlk hret (hb hby d8_46) ?_ (by decide) (by decide)
              show Q8 Z a0 p1 p2 t0 Lv g rm h0 n0 _ T0.heap _
              rw [el]
              exact ⟨(0 : Int32), rfl, Nl, (Keep.refl h0 []), (own_end hV hat1 h2 hl)⟩
            · have hbt : ¬ (((Int32.ofNat n) &&& (1 : Int32)) = (1 : Int32)) := fun q => by have := (own_eb _ hn6).mp q; omega
              have hzz : ¬ ((Int32.ofNat n) = (0 : Int32)) := fun q => by have := (own_ez _ hn6).mp q; omega
              refine OGo.step (F' := T0.setTop (mkF m 17 #[.val (.ref a0), .val (.int p1), .val (.int p2), .val (.int ((Int32.ofNat n) + (1 : Int32)))] [])) (fun t kt => ?_) ?_
              · show Steps p.tables e below (T0.setTop (mkF m 27 #[.val (.ref a0), .val (.int p1), .val (.int p2), .val (.int (Int32.ofNat n))] [])) t
                refine XS.iloadN Xl.here hx rfl (hb hby d8_27) rfl ?_
                show Steps p.tables e below (T0.setTop (mkF m 28 #[.val (.ref a0), .val (.int p1), .val (.int p2), .val (.int (Int32.ofNat n))] [(.int (Int32.ofNat n))])) t
                refine XS.iconst Xl.here hx rfl (hb hby d8_28) ?_
                show Steps p.tables e below (T0.setTop (mkF m 29 #[.val (.ref a0), .val (.int p1), .val (.int p2), .val (.int (Int32.ofNat n))] [(.int (1 : Int32)), (.int (Int32.ofNat n))])) t
                refine XS.iand Xl.here hx rfl (hb hby d8_29) rfl ?_
                show Steps p.tables e below (T0.setTop (mkF m 30 #[.val (.ref a0), .val (.int p1), .val (.int p2), .val (.int (Int32.ofNat n))] [(.int ((Int32.ofNat n) &&& (1 : Int32)))])) t
                refine XS.iconst Xl.here hx rfl (hb hby d8_30) ?_
                show Steps p.tables e below (T0.setTop (mkF m 31 #[.val (.ref a0), .val (.int p1), .val (.int p2), .val (.int (Int32.ofNat n))] [(.int (1 : Int32)), (.int ((Int32.ofNat n) &&& (1 : Int32)))])) t
                refine XS.icmpYes Xl.here hx rfl (pc0 := 31) (pc' := 41) rfl (hb hby d8_31) rfl (feq hbt).2 (by decide) (by decide) ?_
                show Steps p.tables e below (T0.setTop (mkF m 41 #[.val (.ref a0), .val (.int p1), .val (.int p2), .val (.int (Int32.ofNat n))] [])) t
                refine XS.iloadN Xl.here hx rfl (hb hby d8_41) rfl ?_
                show Steps p.tables e below (T0.setTop (mkF m 42 #[.val (.ref a0), .val (.int p1), .val (.int p2), .val (.int (Int32.ofNat n))] [(.int (Int32.ofNat n))])) t
                refine XS.ifYes Xl.here hx rfl (pc0 := 42) (pc' := 47) rfl (hb hby d8_42) rfl ((if0 _ _).trans (feq hzz).2) (by decide) (by decide) ?_
                show Steps p.tables e below (T0.setTop (mkF m 47 #[.val (.ref a0), .val (.int p1), .val (.int p2), .val (.int (Int32.ofNat n))] [])) t
                refine XS.iinc Xl.here hx rfl (hb hby d8_47) rfl (l' := #[.val (.ref a0), .val (.int p1), .val (.int p2), .val (.int ((Int32.ofNat n) + (1 : Int32)))]) rfl ?_
                show Steps p.tables e below (T0.setTop (mkF m 50 #[.val (.ref a0), .val (.int p1), .val (.int p2), .val (.int ((Int32.ofNat n) + (1 : Int32)))] [])) t
                refine XS.goto Xl.here hx rfl (pc0 := 50) (pc' := 17) rfl (hb hby d8_50) (by decide) (by decide) ?_
                exact kt
              rw [own_e1]
              exact ih (n + 1) ee T0 _ Xl el Nl (own_evn hV.1 (by omega) hod h1 h2) hM hPn hl
          · have hbt : ((Int32.ofNat n) &&& (1 : Int32)) = (1 : Int32) := (own_eb _ hn6).mpr hod
            refine OGo.step (F' := T0.setTop (mkF m 27 #[.val (.ref a0), .val (.int p1), .val (.int p2), .val (.int ((Int32.ofNat n) >>> ((1 : Int32) &&& 31)))] [])) (fun t kt => ?_) ?_
            · show Steps p.tables e below (T0.setTop (mkF m 27 #[.val (.ref a0), .val (.int p1), .val (.int p2), .val (.int (Int32.ofNat n))] [])) t
              refine XS.iloadN Xl.here hx rfl (hb hby d8_27) rfl ?_
              show Steps p.tables e below (T0.setTop (mkF m 28 #[.val (.ref a0), .val (.int p1), .val (.int p2), .val (.int (Int32.ofNat n))] [(.int (Int32.ofNat n))])) t
              refine XS.iconst Xl.here hx rfl (hb hby d8_28) ?_
              show Steps p.tables e below (T0.setTop (mkF m 29 #[.val (.ref a0), .val (.int p1), .val (.int p2), .val (.int (Int32.ofNat n))] [(.int (1 : Int32)), (.int (Int32.ofNat n))])) t
              refine XS.iand Xl.here hx rfl (hb hby d8_29) rfl ?_
              show Steps p.tables e below (T0.setTop (mkF m 30 #[.val (.ref a0), .val (.int p1), .val (.int p2), .val (.int (Int32.ofNat n))] [(.int ((Int32.ofNat n) &&& (1 : Int32)))])) t
              refine XS.iconst Xl.here hx rfl (hb hby d8_30) ?_
              show Steps p.tables e below (T0.setTop (mkF m 31 #[.val (.ref a0), .val (.int p1), .val (.int p2), .val (.int (Int32.ofNat n))] [(.int (1 : Int32)), (.int ((Int32.ofNat n) &&& (1 : Int32)))])) t
              refine XS.icmpNo Xl.here hx rfl (hb hby d8_31) rfl (teq hbt).2 ?_
              show Steps p.tables e below (T0.setTop (mkF m 34 #[.val (.ref a0), .val (.int p1), .val (.int p2), .val (.int (Int32.ofNat n))] [])) t
              refine XS.iloadN Xl.here hx rfl (hb hby d8_34) rfl ?_
              show Steps p.tables e below (T0.setTop (mkF m 35 #[.val (.ref a0), .val (.int p1), .val (.int p2), .val (.int (Int32.ofNat n))] [(.int (Int32.ofNat n))])) t
              refine XS.iconst Xl.here hx rfl (hb hby d8_35) ?_
              show Steps p.tables e below (T0.setTop (mkF m 36 #[.val (.ref a0), .val (.int p1), .val (.int p2), .val (.int (Int32.ofNat n))] [(.int (1 : Int32)), (.int (Int32.ofNat n))])) t
              refine XS.ishr Xl.here hx rfl (hb hby d8_36) rfl ?_
              show Steps p.tables e below (T0.setTop (mkF m 37 #[.val (.ref a0), .val (.int p1), .val (.int p2), .val (.int (Int32.ofNat n))] [(.int ((Int32.ofNat n) >>> ((1 : Int32) &&& 31)))])) t
              refine XS.istoreN Xl.here hx rfl (hb hby d8_37) rfl (l' := #[.val (.ref a0), .val (.int p1), .val (.int p2), .val (.int ((Int32.ofNat n) >>> ((1 : Int32) &&& 31)))]) rfl ?_
              show Steps p.tables e below (T0.setTop (mkF m 38 #[.val (.ref a0), .val (.int p1), .val (.int p2), .val (.int ((Int32.ofNat n) >>> ((1 : Int32) &&& 31)))] [])) t
              refine XS.goto Xl.here hx rfl (pc0 := 38) (pc' := 27) rfl (hb hby d8_38) (by decide) (by decide) ?_
              exact kt
            rw [own_eh _ (by omega)]
            exact ihj (n / 2) (ee + 1) T0 _ Xl el Nl (by omega) (by rw [own_odd hod]; exact h1) (by rw [own_odd hod]; exact h2) (by rw [own_odd hod]; exact hM) (by rw [own_odd hod]; exact hPn) (by rw [own_odd hod]; exact hl) (by omega)
      intro n ee T0 locs Xl el Nl hc hM hPn hl
      have hn2 := own_cn hc
      have x1 : (n + 1) * 2 ^ ee = n * 2 ^ ee + 2 ^ ee := by rw [Nat.add_mul, Nat.one_mul]
      have pe : 1 ≤ 2 ^ ee := Nat.one_le_two_pow
      refine OGo.step (F' := T0.setTop (mkF m 18 #[.val (.ref a0), .val (.int p1), .val (.int p2), .val (.int (Int32.ofNat n))] [(.ref a0)])) (fun t kt => ?_) ?_
      · show Steps p.tables e below (T0.setTop (mkF m 17 #[.val (.ref a0), .val (.int p1), .val (.int p2), .val (.int (Int32.ofNat n))] [])) t
        refine XS.aloadN Xl.here hx rfl (hb hby d8_17) rfl rfl ?_
        exact kt
      obtain ⟨T6, X6, e6, st6⟩ := getF Xl hx hZ hown (host := "") (Or.inl (own_wd hw 14 rfl)) Via.refl el Ft_a0 (g := (mkF m 18 #[.val (.ref a0), .val (.int p1), .val (.int p2), .val (.int (Int32.ofNat n))] [(.ref a0)])) rfl rfl (hb hby d8_18)
      refine OGo.step st6 ?_
      show OGo _ _ _ _ _ _ _ (T6.setTop (mkF m 21 #[.val (.ref a0), .val (.int p1), .val (.int p2), .val (.int (Int32.ofNat n))] [(.ref t0)]))
      refine OGo.step (F' := T6.setTop (mkF m 22 #[.val (.ref a0), .val (.int p1), .val (.int p2), .val (.int (Int32.ofNat n))] [(.int (Int32.ofNat n)), (.ref t0)])) (fun t kt => ?_) ?_
      · show Steps p.tables e below (T6.setTop (mkF m 21 #[.val (.ref a0), .val (.int p1), .val (.int p2), .val (.int (Int32.ofNat n))] [(.ref t0)])) t
        refine XS.iloadN X6.here hx rfl (hb hby d8_21) rfl ?_
        exact kt
      obtain ⟨hn7, kk7, cl7, Ar7, qz7, S7, N7a, H7, G7⟩ := id (O_t0)
      obtain ⟨hin7, hat7⟩ := own_tat (g := g) (j := (Int32.ofNat n)) (i := n) hn7 S7 H7 rfl (by omega)
      refine OGo.step (F' := T6.setTop (mkF m 23 #[.val (.ref a0), .val (.int p1), .val (.int p2), .val (.int (Int32.ofNat n))] [(.int (g n))])) (fun t kt => ?_) ?_
      · show Steps p.tables e below (T6.setTop (mkF m 22 #[.val (.ref a0), .val (.int p1), .val (.int p2), .val (.int (Int32.ofNat n))] [(.int (Int32.ofNat n)), (.ref t0)])) t
        refine X6.caload hx (j := (Int32.ofNat n)) (v := (.int (g n))) (by rw [e6]; exact Ar7.1) (State.isArrayOf_alike hZ.alike Ar7.2.1) Ar7.2.2 hin7 hat7 (g := (mkF m 22 #[.val (.ref a0), .val (.int p1), .val (.int p2), .val (.int (Int32.ofNat n))] [(.int (Int32.ofNat n)), (.ref t0)])) rfl rfl (hb hby d8_22) _ ?_
        exact kt
      refine OGo.step (F' := T6.setTop (mkF m 24 #[.val (.ref a0), .val (.int p1), .val (.int p2), .val (.int (Int32.ofNat n))] [(.int p2), (.int (g n))])) (fun t kt => ?_) ?_
      · show Steps p.tables e below (T6.setTop (mkF m 23 #[.val (.ref a0), .val (.int p1), .val (.int p2), .val (.int (Int32.ofNat n))] [(.int (g n))])) t
        refine XS.iloadN X6.here hx rfl (hb hby d8_23) rfl ?_
        exact kt
      by_cases hc24 : (g n) < p2
      · refine OGo.step (F' := T6.setTop (mkF m 27 #[.val (.ref a0), .val (.int p1), .val (.int p2), .val (.int (Int32.ofNat n))] [])) (fun t kt => ?_) ?_
        · show Steps p.tables e below (T6.setTop (mkF m 24 #[.val (.ref a0), .val (.int p1), .val (.int p2), .val (.int (Int32.ofNat n))] [(.int p2), (.int (g n))])) t
          refine XS.icmpNo X6.here hx rfl (hb hby d8_24) rfl (tlt hc24).2.1 ?_
          exact kt
        exact lpB n n ee T6 _ X6 e6 Nl (Nat.le_refl n) hc.2 (own_c1 hc) (by omega) (by omega) (own_pass hV hc hl hc24) (by omega)
      · refine OGo.step (F' := T6.setTop (mkF m 53 #[.val (.ref a0), .val (.int p1), .val (.int p2), .val (.int (Int32.ofNat n))] [])) (fun t kt => ?_) ?_
        · show Steps p.tables e below (T6.setTop (mkF m 24 #[.val (.ref a0), .val (.int p1), .val (.int p2), .val (.int (Int32.ofNat n))] [(.int p2), (.int (g n))])) t
          refine XS.icmpYes X6.here hx rfl (pc0 := 24) (pc' := 53) rfl (hb hby d8_24) rfl (flt hc24).2.1 (by decide) (by decide) ?_
          exact kt
        exact lpC ee n T6 _ X6 e6 Nl hc hPn hl hc24
  refine OGo.step (F' := s₁.setTop (mkF m 2 #[.val (.ref a0), .val (.int p1), .val (.int p2), .unset] [(.ref a0), (.int p1)])) (fun t kt => ?_) ?_
  · show Steps p.tables e below (s₁.setTop (mkF m 0 #[.val (.ref a0), .val (.int p1), .val (.int p2), .unset] [])) t
    refine XS.iloadN X0.here hx rfl (hb hby d8_0) rfl ?_
    show Steps p.tables e below (s₁.setTop (mkF m 1 #[.val (.ref a0), .val (.int p1), .val (.int p2), .unset] [(.int p1)])) t
    refine XS.aloadN X0.here hx rfl (hb hby d8_1) rfl rfl ?_
    exact kt
  obtain ⟨T8, X8, e8, st8⟩ := getF X0 hx hZ hown (host := "") (Or.inl (own_wd hw 11 rfl)) Via.refl e0 Fl_a0 (g := (mkF m 2 #[.val (.ref a0), .val (.int p1), .val (.int p2), .unset] [(.ref a0), (.int p1)])) rfl rfl (hb hby d8_2)
  refine OGo.step st8 ?_
  show OGo _ _ _ _ _ _ _ (T8.setTop (mkF m 5 #[.val (.ref a0), .val (.int p1), .val (.int p2), .unset] [(.int (Int32.ofNat Lv)), (.int p1)]))
  by_cases hc5 : p1 < (Int32.ofNat Lv)
  · refine OGo.step (F' := T8.setTop (mkF m 10 #[.val (.ref a0), .val (.int p1), .val (.int p2), .unset] [])) (fun t kt => ?_) ?_
    · show Steps p.tables e below (T8.setTop (mkF m 5 #[.val (.ref a0), .val (.int p1), .val (.int p2), .unset] [(.int (Int32.ofNat Lv)), (.int p1)])) t
      refine XS.icmpYes X8.here hx rfl (pc0 := 5) (pc' := 10) rfl (hb hby d8_5) rfl (tlt hc5).1 (by decide) (by decide) ?_
      exact kt
    refine OGo.step (F' := T8.setTop (mkF m 11 #[.val (.ref a0), .val (.int p1), .val (.int p2), .unset] [(.ref a0)])) (fun t kt => ?_) ?_
    · show Steps p.tables e below (T8.setTop (mkF m 10 #[.val (.ref a0), .val (.int p1), .val (.int p2), .unset] [])) t
      refine XS.aloadN X8.here hx rfl (hb hby d8_10) rfl rfl ?_
      exact kt
    obtain ⟨T9, X9, e9, st9⟩ := getF X8 hx hZ hown (host := "") (Or.inl (own_wd hw 11 rfl)) Via.refl e8 Fl_a0 (g := (mkF m 11 #[.val (.ref a0), .val (.int p1), .val (.int p2), .unset] [(.ref a0)])) rfl rfl (hb hby d8_11)
    refine OGo.step st9 ?_
    show OGo _ _ _ _ _ _ _ (T9.setTop (mkF m 14 #[.val (.ref a0), .val (.int p1), .val (.int p2), .unset] [(.int (Int32.ofNat Lv))]))
    refine OGo.step (F' := T9.setTop (mkF m 17 #[.val (.ref a0), .val (.int p1), .val (.int p2), .val (.int ((Int32.ofNat Lv) + p1))] [])) (fun t kt => ?_) ?_
    · show Steps p.tables e below (T9.setTop (mkF m 14 #[.val (.ref a0), .val (.int p1), .val (.int p2), .unset] [(.int (Int32.ofNat Lv))])) t
      refine XS.iloadN X9.here hx rfl (hb hby d8_14) rfl ?_
      show Steps p.tables e below (T9.setTop (mkF m 15 #[.val (.ref a0), .val (.int p1), .val (.int p2), .unset] [(.int p1), (.int (Int32.ofNat Lv))])) t
      refine XS.iadd X9.here hx rfl (hb hby d8_15) rfl ?_
      show Steps p.tables e below (T9.setTop (mkF m 16 #[.val (.ref a0), .val (.int p1), .val (.int p2), .unset] [(.int ((Int32.ofNat Lv) + p1))])) t
      refine XS.istoreN X9.here hx rfl (hb hby d8_16) rfl (l' := #[.val (.ref a0), .val (.int p1), .val (.int p2), .val (.int ((Int32.ofNat Lv) + p1))]) rfl ?_
      exact kt
    obtain ⟨iA, iB, iC⟩ := own_init ((own_plt hp0 hL8.2).mp hc5) rm p2
    rw [own_eLq hp0 hL8.2 hc5]
    exact lpA (2 * Lv) (Lv + p1.toNatClampNeg) 0 T9 _ X9 e9 N0 iA (by omega) iB iC
  · refine OGo.step (F' := T8.setTop (mkF m 8 #[.val (.ref a0), .val (.int p1), .val (.int p2), .unset] [])) (fun t kt => ?_) ?_
    · show Steps p.tables e below (T8.setTop (mkF m 5 #[.val (.ref a0), .val (.int p1), .val (.int p2), .unset] [(.int (Int32.ofNat Lv)), (.int p1)])) t
      refine XS.icmpNo X8.here hx rfl (hb hby d8_5) rfl (flt hc5).1 ?_
      exact kt
    refine OGo.step (F' := T8.setTop (mkF m 9 #[.val (.ref a0), .val (.int p1), .val (.int p2), .unset] [(.int (0 : Int32))])) (fun t kt => ?_) ?_
    · show Steps p.tables e below (T8.setTop (mkF m 8 #[.val (.ref a0), .val (.int p1), .val (.int p2), .unset] [])) t
      refine XS.iconst X8.here hx rfl (hb hby d8_8) ?_
      exact kt
    refine OGo.retI X8 hx hlk hret (hb hby d8_9) ?_ (by decide) (by decide)
    show Q8 Z a0 p1 p2 t0 Lv g rm h0 n0 _ T8.heap _
    rw [e8]
    exact ⟨(0 : Int32), rfl, N0, (Keep.refl h0 []), (own_f0 hV hat1 (Nat.le_of_not_lt fun q => hc5 ((own_plt hp0 hL8.2).mpr q)))⟩
def own_pp (x : Int32) : Int32 := (1 : Int32) + (x &&& (63 : Int32))
def own_p2 (p0 : Int32) : Int32 := own_pp ((p0.toUInt32 >>> ((6 : Int32) &&& 31).toUInt32).toInt32)
def own_p3 (p0 : Int32) : Int32 := own_pp ((p0.toUInt32 >>> ((12 : Int32) &&& 31).toUInt32).toInt32)
def own_q (x : Int32) : Int32 := x &&& (65535 : Int32)
theorem own_ppr (x : Int32) : own_pg (own_pp x) := by
  have a := c_mask x (63 : Int32) 6 (by decide) (by decide)
  have b := c_iadd (1 : Int32) (x &&& (63 : Int32))
  have l1 := ((1 : Int32) + (x &&& (63 : Int32))).toInt_lt; have l2 := ((1 : Int32) + (x &&& (63 : Int32))).le_toInt
  unfold own_pg own_pp
  simp only [Int32.reduceToInt] at *; omega
theorem own_qr (x : Int32) : own_cr (own_q x) := by
  have a := c_mask x (65535 : Int32) 16 (by decide) (by decide)
  unfold own_cr own_q
  omega
theorem own_fA (x : Int32) : 1 ≤ ((1 : Int32) + (x &&& (127 : Int32))).toInt := by
  have a := c_mask x (127 : Int32) 7 (by decide) (by decide)
  have b := c_iadd (1 : Int32) (x &&& (127 : Int32))
  have l1 := ((1 : Int32) + (x &&& (127 : Int32))).toInt_lt; have l2 := ((1 : Int32) + (x &&& (127 : Int32))).le_toInt
  simp only [Int32.reduceToInt] at *; omega
theorem own_fC (x : Int32) : 1 ≤ ((1 : Int32) + (x &&& (65535 : Int32))).toInt := by
  have a := c_mask x (65535 : Int32) 16 (by decide) (by decide)
  have b := c_iadd (1 : Int32) (x &&& (65535 : Int32))
  have l1 := ((1 : Int32) + (x &&& (65535 : Int32))).toInt_lt; have l2 := ((1 : Int32) + (x &&& (65535 : Int32))).le_toInt
  simp only [Int32.reduceToInt] at *; omega
theorem own_fB (x : Int32) (h : ¬ (x &&& (1073741824 : Int32)) = (0 : Int32)) : 1 ≤ (x &&& (2147483647 : Int32)).toInt := by
  have a := c_mask x (2147483647 : Int32) 31 (by decide) (by decide)
  apply Classical.byContradiction; intro u
  apply h
  have z : x &&& (2147483647 : Int32) = (0 : Int32) := by rw [← Int32.toInt_inj]; show _ = (0 : Int); omega
  rw [show (1073741824 : Int32) = (2147483647 : Int32) &&& (1073741824 : Int32) from by decide, ← Int32.and_assoc, z]
  decide
theorem own_lawf (pa pb pd qa qb qd x x1 x2 z1 z2 z3 r fr : Int32) (ha : own_pg pa) (hb : own_pg pb) (hd : own_pg pd) (ca : own_cr qa) (cb : own_cr qb) (cd : own_cr qd) (hx : 1 ≤ x.toInt) (hfr : 1 ≤ fr.toInt)
    (e1 : x1 = if pd = pa then qd else if pb = pa then qb else qa) (e2 : x2 = if pd = pb then qd else qb)
    (k1 : (z1 = (1 : Int32) ∧ ¬ pa < fr ∧ ¬ x1 < x) ∨ (z1 = (0 : Int32) ∧ (pa < fr ∨ x1 < x))) (k2 : (z2 = (1 : Int32) ∧ ¬ pb < fr ∧ ¬ x2 < x) ∨ (z2 = (0 : Int32) ∧ (pb < fr ∨ x2 < x))) (k3 : (z3 = (1 : Int32) ∧ ¬ pd < fr ∧ ¬ qd < x) ∨ (z3 = (0 : Int32) ∧ (pd < fr ∨ qd < x)))
    (h : own_fst (own_upd (own_upd (own_upd (fun _ => (0 : Int32)) pa.toNatClampNeg (own_ch qa)) pb.toNatClampNeg (own_ch qb)) pd.toNatClampNeg (own_ch qd)) fr.toNatClampNeg x r) : r = f9 (f9 (f9 (0 : Int32) z1 pa) z2 pb) z3 pd := by
  obtain ⟨ea, a1, a2⟩ := own_pgn ha; obtain ⟨eb, b1, b2⟩ := own_pgn hb; obtain ⟨ed, d1, d2⟩ := own_pgn hd
  rw [(own_chi qa).2 ca, (own_chi qb).2 cb, (own_chi qd).2 cd] at h
  have eqv : ∀ X Y : Nat, X ≤ 64 → Y ≤ 64 → (Int32.ofNat X = Int32.ofNat Y ↔ X = Y) := fun X Y hX hY => by
    rw [← Int32.toInt_inj, (own_on (by omega)).2.2, (own_on (by omega)).2.2]; omega
  have fn : fr.toNatClampNeg = fr.toInt.toNat := rfl
  generalize pa.toNatClampNeg = P1 at *
  generalize pb.toNatClampNeg = P2 at *
  generalize pd.toNatClampNeg = P3 at *
  subst ea eb ed
  refine own_fin P1 P2 P3 qa qb qd x x1 x2 z1 z2 z3 r fr fr.toNatClampNeg ⟨a1, a2⟩ ⟨b1, b2⟩ ⟨d1, d2⟩ hx (by omega) (by omega) ?_ ?_ k1 k2 k3 h
  · rw [e1]
    by_cases u : P3 = P1
    · rw [if_pos u, if_pos ((eqv _ _ d2 a2).mpr u)]
    · rw [if_neg u, if_neg (fun q => u ((eqv _ _ d2 a2).mp q))]
      by_cases v : P2 = P1
      · rw [if_pos v, if_pos ((eqv _ _ b2 a2).mpr v)]
      · rw [if_neg v, if_neg (fun q => v ((eqv _ _ b2 a2).mp q))]
  · rw [e2]
    by_cases u : P3 = P2
    · rw [if_pos u, if_pos ((eqv _ _ d2 b2).mpr u)]
    · rw [if_neg u, if_neg (fun q => u ((eqv _ _ d2 b2).mp q))]
/-! body 0: com/example/kursor/kursor/storage/table/FreeSpaceFirstPinLaw.law:(IIIIII)Z -/
theorem pn_0 : plainName "com/example/kursor/kursor/storage/table/FreeSpaceFirstPinLaw" = true := by first | (simp [plainName, overriddenIn]; done) | decide +kernel
theorem pd_0_0 : parseMethodDescriptor "()V" = some ⟨[], none⟩ := by decide +kernel
theorem pd_0_1 : parseMethodDescriptor "(II)V" = some ⟨[.int, .int], none⟩ := by decide +kernel
theorem pd_0_2 : parseMethodDescriptor "(II)I" = some ⟨[.int, .int], some .int⟩ := by decide +kernel
theorem pd_0_3 : parseMethodDescriptor "(IZI)I" = some ⟨[.int, .boolean, .int], some .int⟩ := by decide +kernel
theorem ef_0 (m : MethodId) (x0 : Int32) (x1 : Int32) (x2 : Int32) (x3 : Int32) (x4 : Int32) (x5 : Int32) : entryFrame m #[(.int x0), (.int x1), (.int x2), (.int x3), (.int x4), (.int x5)] maxLocals = mkF m 0 #[.val (.int x0), .val (.int x1), .val (.int x2), .val (.int x3), .val (.int x4), .val (.int x5), .unset, .unset, .unset, .unset, .unset, .unset, .unset, .unset, .unset, .unset, .unset, .unset, .unset, .unset] [] := by first | (simp [entryFrame, mkF, argsToLocals, Value.category, maxLocals]; done) | rfl
def Q0 (Z : State) (p0 : Int32) (p1 : Int32) (p2 : Int32) (p3 : Int32) (p4 : Int32) (p5 : Int32) (h0 : Heap) (n0 : Nat) (v : Option Value) (h : Heap) (L : List Loc) : Prop := v = some (.int (1 : Int32)) ∧ Fr n0 L ∧ Keep h0 h []
set_option maxRecDepth 65536 in
set_option maxHeartbeats 40000000 in
theorem rm0 (l : Launch) (Z : State) (az : Array Value) (hw : ∀ d ∈ tables_1, d.before az Z = true) (ws : List Jvm.Cond) (p0 : Int32) (p1 : Int32) (p2 : Int32) (p3 : Int32) (p4 : Int32) (p5 : Int32) (h0 : Heap) (n0 : Nat) (Z0 : n0 ≤ h0.size) :
    OCtr l Z x code maxLocals ret ws room_1 #[(.int p0), (.int p1), (.int p2), (.int p3), (.int p4), (.int p5)] h0 (Q0 Z p0 p1 p2 p3 p4 p5 h0 n0) := by
  refine OCtr.of (plainFor_of_name pn_0) ?_
  intro p e s m below meth c s₁ X0 hx hlk hZ hown0 hnm hby hml0 hret e0
  have hown : s.vm.findClass "com/example/kursor/kursor/storage/table/FreeSpaceFirstPinLaw" = some m.cls := hown0
  have hml : c.maxLocals = 20 := hml0
  have N0 := Fr.nil n0
  refine OGo.step (fun t k => castTop (ef_0 m p0 p1 p2 p3 p4 p5) k) ?_
  have J98 : ∀ (fr x : Int32), 1 ≤ fr.toInt → 1 ≤ x.toInt → OGo p e below s (Q0 Z p0 p1 p2 p3 p4 p5 h0 n0) room_1.cells room_1.slots (s₁.setTop (mkF m 98 #[.val (.int p0), .val (.int p1), .val (.int p2), .val (.int p3), .val (.int p4), .val (.int p5), .val (.int (own_pp p0)), .val (.int (own_p2 p0)), .val (.int (own_p3 p0)), .val (.int (own_q p1)), .val (.int (own_q p2)), .val (.int (own_q p3)), .val (.int fr), .val (.int x), .unset, .unset, .unset, .unset, .unset, .unset] [])) := by
    intro fr x hf1 hx1
    obtain ⟨T1, h1, X1, e1, E1, A1, D1, -, st1⟩ := newO X0 hx hZ hown (own_wd hw 2 rfl) (own_wd hw 3 rfl) (own_wd hw 4 rfl) e0 (g := (mkF m 98 #[.val (.int p0), .val (.int p1), .val (.int p2), .val (.int p3), .val (.int p4), .val (.int p5), .val (.int (own_pp p0)), .val (.int (own_p2 p0)), .val (.int (own_p3 p0)), .val (.int (own_q p1)), .val (.int (own_q p2)), .val (.int (own_q p3)), .val (.int fr), .val (.int x), .unset, .unset, .unset, .unset, .unset, .unset] [])) rfl (hb hby at_98) (by decide) (by decide)
    obtain ⟨b1, g1⟩ : ∃ z, z = h0.size := ⟨_, rfl⟩
    rw [← g1] at A1 D1 st1
    have sz_b1 : h0.size ≤ b1 := Nat.le_trans (Keep.refl h0 []).1 (Nat.le_of_eq g1.symm)
    have gn_b1 : n0 ≤ b1 := Nat.le_trans Z0 sz_b1
    have KC1 : Keep h0 h1 [] := (Keep.refl h0 []).ext E1
    have F1_leaves : Fld Z h1 b1 "com/example/kursor/kursor/storage/table/FreeSpace" "leaves" "I" (.int (0 : Int32)) := D1 (Or.inl (own_wd hw 12 rfl)) (ty := .int) (by decide)
    have F1_tree : Fld Z h1 b1 "com/example/kursor/kursor/storage/table/FreeSpace" "tree" "[C" .null := D1 (Or.inl (own_wd hw 15 rfl)) (ty := (.array .char)) (by decide)
    refine OGo.step st1 ?_
    show OGo _ _ _ _ _ _ _ (T1.setTop (mkF m 101 #[.val (.int p0), .val (.int p1), .val (.int p2), .val (.int p3), .val (.int p4), .val (.int p5), .val (.int (own_pp p0)), .val (.int (own_p2 p0)), .val (.int (own_p3 p0)), .val (.int (own_q p1)), .val (.int (own_q p2)), .val (.int (own_q p3)), .val (.int fr), .val (.int x), .unset, .unset, .unset, .unset, .unset, .unset] [(.ref b1)]))
    refine OGo.step (F' := T1.setTop (mkF m 102 #[.val (.int p0), .val (.int p1), .val (.int p2), .val (.int p3), .val (.int p4), .val (.int p5), .val (.int (own_pp p0)), .val (.int (own_p2 p0)), .val (.int (own_p3 p0)), .val (.int (own_q p1)), .val (.int (own_q p2)), .val (.int (own_q p3)), .val (.int fr), .val (.int x), .unset, .unset, .unset, .unset, .unset, .unset] [(.ref b1), (.ref b1)])) (fun t kt => ?_) ?_
    · show Steps p.tables e below (T1.setTop (mkF m 101 #[.val (.int p0), .val (.int p1), .val (.int p2), .val (.int p3), .val (.int p4), .val (.int p5), .val (.int (own_pp p0)), .val (.int (own_p2 p0)), .val (.int (own_p3 p0)), .val (.int (own_q p1)), .val (.int (own_q p2)), .val (.int (own_q p3)), .val (.int fr), .val (.int x), .unset, .unset, .unset, .unset, .unset, .unset] [(.ref b1)])) t
      refine XS.dup X1.here hx rfl (hb hby at_101) rfl rfl ?_
      exact kt
    refine OGo.callC X1 hx hZ (y := (⟨"com/example/kursor/kursor/storage/table/FreeSpace", "<init>", "()V"⟩ : MethodName)) rfl hown (own_wd hw 5 rfl) (own_wd hw 6 rfl) (own_wd hw 4 rfl) (own_wd hw 7 rfl) (by decide) (rm1 l Z az hw [] b1 (.int (0 : Int32)) .null h1 n0 (Nat.le_trans Z0 KC1.1) A1 F1_leaves gn_b1 F1_tree) (W := 1) (by decide) (by decide) (b := b1) (g := (mkF m 102 #[.val (.int p0), .val (.int p1), .val (.int p2), .val (.int p3), .val (.int p4), .val (.int p5), .val (.int (own_pp p0)), .val (.int (own_p2 p0)), .val (.int (own_p3 p0)), .val (.int (own_q p1)), .val (.int (own_q p2)), .val (.int (own_q p3)), .val (.int fr), .val (.int x), .unset, .unset, .unset, .unset, .unset, .unset] [(.ref b1), (.ref b1)])) rfl (by rw [hml]; rfl) (argsL := []) (rest := [(.ref b1)]) (lenOf pd_0_0 rfl) rfl (by show 2 * 0 + _ ≤ _; exact Nat.le_of_eq rfl) (hb hby at_102) rfl e1 (by decide) (by decide) ?_
    rintro _ T2 L2 X2 ⟨b2_t, rfl, Nq2, K2, sz_b2_t, P2_0, P2_1, P2_2, P2_3⟩
    have KC2 : Keep h0 T2.heap [] := KC1.trans K2 (allS (Or.inr sz_b1) all0)
    have szo_b2_t := sz_b2_t
    replace sz_b2_t : h0.size ≤ b2_t := Nat.le_trans KC1.1 sz_b2_t
    have gn_b2_t : n0 ≤ b2_t := Nat.le_trans Z0 sz_b2_t
    have N2 := Fr.app N0 Nq2
    show OGo _ _ _ _ _ _ _ (T2.setTop (mkF m 105 #[.val (.int p0), .val (.int p1), .val (.int p2), .val (.int p3), .val (.int p4), .val (.int p5), .val (.int (own_pp p0)), .val (.int (own_p2 p0)), .val (.int (own_p3 p0)), .val (.int (own_q p1)), .val (.int (own_q p2)), .val (.int (own_q p3)), .val (.int fr), .val (.int x), .unset, .unset, .unset, .unset, .unset, .unset] [(.ref b1)]))
    refine OGo.step (F' := T2.setTop (mkF m 107 #[.val (.int p0), .val (.int p1), .val (.int p2), .val (.int p3), .val (.int p4), .val (.int p5), .val (.int (own_pp p0)), .val (.int (own_p2 p0)), .val (.int (own_p3 p0)), .val (.int (own_q p1)), .val (.int (own_q p2)), .val (.int (own_q p3)), .val (.int fr), .val (.int x), .val (.ref b1), .unset, .unset, .unset, .unset, .unset] [])) (fun t kt => ?_) ?_
    · show Steps p.tables e below (T2.setTop (mkF m 105 #[.val (.int p0), .val (.int p1), .val (.int p2), .val (.int p3), .val (.int p4), .val (.int p5), .val (.int (own_pp p0)), .val (.int (own_p2 p0)), .val (.int (own_p3 p0)), .val (.int (own_q p1)), .val (.int (own_q p2)), .val (.int (own_q p3)), .val (.int fr), .val (.int x), .unset, .unset, .unset, .unset, .unset, .unset] [(.ref b1)])) t
      refine XS.astore X2.here hx rfl (hb hby at_105) rfl rfl (l' := #[.val (.int p0), .val (.int p1), .val (.int p2), .val (.int p3), .val (.int p4), .val (.int p5), .val (.int (own_pp p0)), .val (.int (own_p2 p0)), .val (.int (own_p3 p0)), .val (.int (own_q p1)), .val (.int (own_q p2)), .val (.int (own_q p3)), .val (.int fr), .val (.int x), .val (.ref b1), .unset, .unset, .unset, .unset, .unset]) rfl ?_
      exact kt
    have Fq3 : Fld Z T2.heap b1 "com/example/kursor/kursor/storage/table/FreeSpace" "leaves" "I" (.int (Int32.ofNat 1)) := P2_1
    have nq3 : b2_t ≠ b1 := OTr.ne P2_3 P2_0 (own_wd hw 3 rfl)
    refine OGo.step (F' := T2.setTop (mkF m 113 #[.val (.int p0), .val (.int p1), .val (.int p2), .val (.int p3), .val (.int p4), .val (.int p5), .val (.int (own_pp p0)), .val (.int (own_p2 p0)), .val (.int (own_p3 p0)), .val (.int (own_q p1)), .val (.int (own_q p2)), .val (.int (own_q p3)), .val (.int fr), .val (.int x), .val (.ref b1), .unset, .unset, .unset, .unset, .unset] [(.int (own_q p1)), (.int (own_pp p0)), (.ref b1)])) (fun t kt => ?_) ?_
    · show Steps p.tables e below (T2.setTop (mkF m 107 #[.val (.int p0), .val (.int p1), .val (.int p2), .val (.int p3), .val (.int p4), .val (.int p5), .val (.int (own_pp p0)), .val (.int (own_p2 p0)), .val (.int (own_p3 p0)), .val (.int (own_q p1)), .val (.int (own_q p2)), .val (.int (own_q p3)), .val (.int fr), .val (.int x), .val (.ref b1), .unset, .unset, .unset, .unset, .unset] [])) t
      refine XS.aload X2.here hx rfl (hb hby at_107) rfl rfl ?_
      show Steps p.tables e below (T2.setTop (mkF m 109 #[.val (.int p0), .val (.int p1), .val (.int p2), .val (.int p3), .val (.int p4), .val (.int p5), .val (.int (own_pp p0)), .val (.int (own_p2 p0)), .val (.int (own_p3 p0)), .val (.int (own_q p1)), .val (.int (own_q p2)), .val (.int (own_q p3)), .val (.int fr), .val (.int x), .val (.ref b1), .unset, .unset, .unset, .unset, .unset] [(.ref b1)])) t
      refine XS.iload X2.here hx rfl (hb hby at_109) rfl ?_
      show Steps p.tables e below (T2.setTop (mkF m 111 #[.val (.int p0), .val (.int p1), .val (.int p2), .val (.int p3), .val (.int p4), .val (.int p5), .val (.int (own_pp p0)), .val (.int (own_p2 p0)), .val (.int (own_p3 p0)), .val (.int (own_q p1)), .val (.int (own_q p2)), .val (.int (own_q p3)), .val (.int fr), .val (.int x), .val (.ref b1), .unset, .unset, .unset, .unset, .unset] [(.int (own_pp p0)), (.ref b1)])) t
      refine XS.iload X2.here hx rfl (hb hby at_111) rfl ?_
      exact kt
    refine OGo.callV X2 hx hZ (y := (⟨"com/example/kursor/kursor/storage/table/FreeSpace", "set", "(II)V"⟩ : MethodName)) (z := (⟨"com/example/kursor/kursor/storage/table/FreeSpace", "set", "(II)V"⟩ : MethodName)) hown (own_wd hw 16 rfl) (own_wd hw 17 rfl) (notFace_of_selects (args := #[]) (mvT hZ (own_wd hw 19 rfl))) (own_wd hw 19 rfl) (own_wd hw 18 rfl) (own_wd hw 4 rfl) (own_wd hw 20 rfl) (by decide) (rm3 l Z az hw [] b1 (own_pp p0) (own_q p1) b2_t 1 (fun _ => (0 : Int32)) (fun _ => (0 : Int32)) T2.heap n0 (Nat.le_trans Z0 KC2.1) P2_0 Fq3 P2_2 P2_3 own_val0 (own_ppr _) nq3 gn_b2_t gn_b1) (W := 0) (by decide) (by decide) P2_0 (g := (mkF m 113 #[.val (.int p0), .val (.int p1), .val (.int p2), .val (.int p3), .val (.int p4), .val (.int p5), .val (.int (own_pp p0)), .val (.int (own_p2 p0)), .val (.int (own_p3 p0)), .val (.int (own_q p1)), .val (.int (own_q p2)), .val (.int (own_q p3)), .val (.int fr), .val (.int x), .val (.ref b1), .unset, .unset, .unset, .unset, .unset] [(.int (own_q p1)), (.int (own_pp p0)), (.ref b1)])) rfl (by rw [hml]; rfl) (argsL := [(.int (own_pp p0)), (.int (own_q p1))]) (rest := []) (lenOf pd_0_1 rfl) rfl (by show 2 * 0 + _ ≤ _; exact Nat.le_of_eq rfl) (hb hby at_113) rfl rfl (by decide) (by decide) ?_
    rintro _ T4 L4 X4 ⟨r4_t1, r4_L1, r4_g1, rfl, Nq4, K4, P4_0, P4_1, P4_2, P4_3, P4_4, P4_5, P4_6⟩
    have KC4 : Keep h0 T4.heap [] := KC2.trans K4 (allS (Or.inr sz_b1) (allS (Or.inr sz_b2_t) all0))
    have N4 := Fr.app N2 Nq4
    show OGo _ _ _ _ _ _ _ (T4.setTop (mkF m 116 #[.val (.int p0), .val (.int p1), .val (.int p2), .val (.int p3), .val (.int p4), .val (.int p5), .val (.int (own_pp p0)), .val (.int (own_p2 p0)), .val (.int (own_p3 p0)), .val (.int (own_q p1)), .val (.int (own_q p2)), .val (.int (own_q p3)), .val (.int fr), .val (.int x), .val (.ref b1), .unset, .unset, .unset, .unset, .unset] []))
    have sz_r4_t1 : h0.size ≤ r4_t1 := P4_6.elim (fun q => by rw [q]; exact sz_b2_t) (fun q => Nat.le_trans KC2.1 q)
    have gn_r4_t1 : n0 ≤ r4_t1 := Nat.le_trans Z0 sz_r4_t1
    have nq5 : r4_t1 ≠ b1 := OTr.ne P4_3 P4_0 (own_wd hw 3 rfl)
    refine OGo.step (F' := T4.setTop (mkF m 122 #[.val (.int p0), .val (.int p1), .val (.int p2), .val (.int p3), .val (.int p4), .val (.int p5), .val (.int (own_pp p0)), .val (.int (own_p2 p0)), .val (.int (own_p3 p0)), .val (.int (own_q p1)), .val (.int (own_q p2)), .val (.int (own_q p3)), .val (.int fr), .val (.int x), .val (.ref b1), .unset, .unset, .unset, .unset, .unset] [(.int (own_q p2)), (.int (own_p2 p0)), (.ref b1)])) (fun t kt => ?_) ?_
    · show Steps p.tables e below (T4.setTop (mkF m 116 #[.val (.int p0), .val (.int p1), .val (.int p2), .val (.int p3), .val (.int p4), .val (.int p5), .val (.int (own_pp p0)), .val (.int (own_p2 p0)), .val (.int (own_p3 p0)), .val (.int (own_q p1)), .val (.int (own_q p2)), .val (.int (own_q p3)), .val (.int fr), .val (.int x), .val (.ref b1), .unset, .unset, .unset, .unset, .unset] [])) t
      refine XS.aload X4.here hx rfl (hb hby at_116) rfl rfl ?_
      show Steps p.tables e below (T4.setTop (mkF m 118 #[.val (.int p0), .val (.int p1), .val (.int p2), .val (.int p3), .val (.int p4), .val (.int p5), .val (.int (own_pp p0)), .val (.int (own_p2 p0)), .val (.int (own_p3 p0)), .val (.int (own_q p1)), .val (.int (own_q p2)), .val (.int (own_q p3)), .val (.int fr), .val (.int x), .val (.ref b1), .unset, .unset, .unset, .unset, .unset] [(.ref b1)])) t
      refine XS.iload X4.here hx rfl (hb hby at_118) rfl ?_
      show Steps p.tables e below (T4.setTop (mkF m 120 #[.val (.int p0), .val (.int p1), .val (.int p2), .val (.int p3), .val (.int p4), .val (.int p5), .val (.int (own_pp p0)), .val (.int (own_p2 p0)), .val (.int (own_p3 p0)), .val (.int (own_q p1)), .val (.int (own_q p2)), .val (.int (own_q p3)), .val (.int fr), .val (.int x), .val (.ref b1), .unset, .unset, .unset, .unset, .unset] [(.int (own_p2 p0)), (.ref b1)])) t
      refine XS.iload X4.here hx rfl (hb hby at_120) rfl ?_
      exact kt
    refine OGo.callV X4 hx hZ (y := (⟨"com/example/kursor/kursor/storage/table/FreeSpace", "set", "(II)V"⟩ : MethodName)) (z := (⟨"com/example/kursor/kursor/storage/table/FreeSpace", "set", "(II)V"⟩ : MethodName)) hown (own_wd hw 16 rfl) (own_wd hw 17 rfl) (notFace_of_selects (args := #[]) (mvT hZ (own_wd hw 19 rfl))) (own_wd hw 19 rfl) (own_wd hw 18 rfl) (own_wd hw 4 rfl) (own_wd hw 20 rfl) (by decide) (rm3 l Z az hw [] b1 (own_p2 p0) (own_q p2) r4_t1 r4_L1 r4_g1 (own_upd (fun _ => (0 : Int32)) (own_pp p0).toNatClampNeg (own_ch (own_q p1))) T4.heap n0 (Nat.le_trans Z0 KC4.1) P4_0 P4_1 P4_2 P4_3 P4_4 (own_ppr _) nq5 P4_5 gn_b1) (W := 0) (by decide) (by decide) P4_0 (g := (mkF m 122 #[.val (.int p0), .val (.int p1), .val (.int p2), .val (.int p3), .val (.int p4), .val (.int p5), .val (.int (own_pp p0)), .val (.int (own_p2 p0)), .val (.int (own_p3 p0)), .val (.int (own_q p1)), .val (.int (own_q p2)), .val (.int (own_q p3)), .val (.int fr), .val (.int x), .val (.ref b1), .unset, .unset, .unset, .unset, .unset] [(.int (own_q p2)), (.int (own_p2 p0)), (.ref b1)])) rfl (by rw [hml]; rfl) (argsL := [(.int (own_p2 p0)), (.int (own_q p2))]) (rest := []) (lenOf pd_0_1 rfl) rfl (by show 2 * 0 + _ ≤ _; exact Nat.le_of_eq rfl) (hb hby at_122) rfl rfl (by decide) (by decide) ?_
    rintro _ T6 L6 X6 ⟨r6_t1, r6_L1, r6_g1, rfl, Nq6, K6, P6_0, P6_1, P6_2, P6_3, P6_4, P6_5, P6_6⟩
    have KC6 : Keep h0 T6.heap [] := KC4.trans K6 (allS (Or.inr sz_b1) (allS (Or.inr sz_r4_t1) all0))
    have N6 := Fr.app N4 Nq6
    show OGo _ _ _ _ _ _ _ (T6.setTop (mkF m 125 #[.val (.int p0), .val (.int p1), .val (.int p2), .val (.int p3), .val (.int p4), .val (.int p5), .val (.int (own_pp p0)), .val (.int (own_p2 p0)), .val (.int (own_p3 p0)), .val (.int (own_q p1)), .val (.int (own_q p2)), .val (.int (own_q p3)), .val (.int fr), .val (.int x), .val (.ref b1), .unset, .unset, .unset, .unset, .unset] []))
    have sz_r6_t1 : h0.size ≤ r6_t1 := P6_6.elim (fun q => by rw [q]; exact sz_r4_t1) (fun q => Nat.le_trans KC4.1 q)
    have gn_r6_t1 : n0 ≤ r6_t1 := Nat.le_trans Z0 sz_r6_t1
    have nq7 : r6_t1 ≠ b1 := OTr.ne P6_3 P6_0 (own_wd hw 3 rfl)
    refine OGo.step (F' := T6.setTop (mkF m 131 #[.val (.int p0), .val (.int p1), .val (.int p2), .val (.int p3), .val (.int p4), .val (.int p5), .val (.int (own_pp p0)), .val (.int (own_p2 p0)), .val (.int (own_p3 p0)), .val (.int (own_q p1)), .val (.int (own_q p2)), .val (.int (own_q p3)), .val (.int fr), .val (.int x), .val (.ref b1), .unset, .unset, .unset, .unset, .unset] [(.int (own_q p3)), (.int (own_p3 p0)), (.ref b1)])) (fun t kt => ?_) ?_
    · show Steps p.tables e below (T6.setTop (mkF m 125 #[.val (.int p0), .val (.int p1), .val (.int p2), .val (.int p3), .val (.int p4), .val (.int p5), .val (.int (own_pp p0)), .val (.int (own_p2 p0)), .val (.int (own_p3 p0)), .val (.int (own_q p1)), .val (.int (own_q p2)), .val (.int (own_q p3)), .val (.int fr), .val (.int x), .val (.ref b1), .unset, .unset, .unset, .unset, .unset] [])) t
      refine XS.aload X6.here hx rfl (hb hby at_125) rfl rfl ?_
      show Steps p.tables e below (T6.setTop (mkF m 127 #[.val (.int p0), .val (.int p1), .val (.int p2), .val (.int p3), .val (.int p4), .val (.int p5), .val (.int (own_pp p0)), .val (.int (own_p2 p0)), .val (.int (own_p3 p0)), .val (.int (own_q p1)), .val (.int (own_q p2)), .val (.int (own_q p3)), .val (.int fr), .val (.int x), .val (.ref b1), .unset, .unset, .unset, .unset, .unset] [(.ref b1)])) t
      refine XS.iload X6.here hx rfl (hb hby at_127) rfl ?_
      show Steps p.tables e below (T6.setTop (mkF m 129 #[.val (.int p0), .val (.int p1), .val (.int p2), .val (.int p3), .val (.int p4), .val (.int p5), .val (.int (own_pp p0)), .val (.int (own_p2 p0)), .val (.int (own_p3 p0)), .val (.int (own_q p1)), .val (.int (own_q p2)), .val (.int (own_q p3)), .val (.int fr), .val (.int x), .val (.ref b1), .unset, .unset, .unset, .unset, .unset] [(.int (own_p3 p0)), (.ref b1)])) t
      refine XS.iload X6.here hx rfl (hb hby at_129) rfl ?_
      exact kt
    refine OGo.callV X6 hx hZ (y := (⟨"com/example/kursor/kursor/storage/table/FreeSpace", "set", "(II)V"⟩ : MethodName)) (z := (⟨"com/example/kursor/kursor/storage/table/FreeSpace", "set", "(II)V"⟩ : MethodName)) hown (own_wd hw 16 rfl) (own_wd hw 17 rfl) (notFace_of_selects (args := #[]) (mvT hZ (own_wd hw 19 rfl))) (own_wd hw 19 rfl) (own_wd hw 18 rfl) (own_wd hw 4 rfl) (own_wd hw 20 rfl) (by decide) (rm3 l Z az hw [] b1 (own_p3 p0) (own_q p3) r6_t1 r6_L1 r6_g1 (own_upd (own_upd (fun _ => (0 : Int32)) (own_pp p0).toNatClampNeg (own_ch (own_q p1))) (own_p2 p0).toNatClampNeg (own_ch (own_q p2))) T6.heap n0 (Nat.le_trans Z0 KC6.1) P6_0 P6_1 P6_2 P6_3 P6_4 (own_ppr _) nq7 P6_5 gn_b1) (W := 0) (by decide) (by decide) P6_0 (g := (mkF m 131 #[.val (.int p0), .val (.int p1), .val (.int p2), .val (.int p3), .val (.int p4), .val (.int p5), .val (.int (own_pp p0)), .val (.int (own_p2 p0)), .val (.int (own_p3 p0)), .val (.int (own_q p1)), .val (.int (own_q p2)), .val (.int (own_q p3)), .val (.int fr), .val (.int x), .val (.ref b1), .unset, .unset, .unset, .unset, .unset] [(.int (own_q p3)), (.int (own_p3 p0)), (.ref b1)])) rfl (by rw [hml]; rfl) (argsL := [(.int (own_p3 p0)), (.int (own_q p3))]) (rest := []) (lenOf pd_0_1 rfl) rfl (by show 2 * 0 + _ ≤ _; exact Nat.le_of_eq rfl) (hb hby at_131) rfl rfl (by decide) (by decide) ?_
    rintro _ T8 L8 X8 ⟨r8_t1, r8_L1, r8_g1, rfl, Nq8, K8, P8_0, P8_1, P8_2, P8_3, P8_4, P8_5, P8_6⟩
    have KC8 : Keep h0 T8.heap [] := KC6.trans K8 (allS (Or.inr sz_b1) (allS (Or.inr sz_r6_t1) all0))
    have N8 := Fr.app N6 Nq8
    show OGo _ _ _ _ _ _ _ (T8.setTop (mkF m 134 #[.val (.int p0), .val (.int p1), .val (.int p2), .val (.int p3), .val (.int p4), .val (.int p5), .val (.int (own_pp p0)), .val (.int (own_p2 p0)), .val (.int (own_p3 p0)), .val (.int (own_q p1)), .val (.int (own_q p2)), .val (.int (own_q p3)), .val (.int fr), .val (.int x), .val (.ref b1), .unset, .unset, .unset, .unset, .unset] []))
    have sz_r8_t1 : h0.size ≤ r8_t1 := P8_6.elim (fun q => by rw [q]; exact sz_r6_t1) (fun q => Nat.le_trans KC6.1 q)
    have gn_r8_t1 : n0 ≤ r8_t1 := Nat.le_trans Z0 sz_r8_t1
    have nq9 : r8_t1 ≠ b1 := OTr.ne P8_3 P8_0 (own_wd hw 3 rfl)
    refine OGo.step (F' := T8.setTop (mkF m 140 #[.val (.int p0), .val (.int p1), .val (.int p2), .val (.int p3), .val (.int p4), .val (.int p5), .val (.int (own_pp p0)), .val (.int (own_p2 p0)), .val (.int (own_p3 p0)), .val (.int (own_q p1)), .val (.int (own_q p2)), .val (.int (own_q p3)), .val (.int fr), .val (.int x), .val (.ref b1), .unset, .unset, .unset, .unset, .unset] [(.int x), (.int fr), (.ref b1)])) (fun t kt => ?_) ?_
    · show Steps p.tables e below (T8.setTop (mkF m 134 #[.val (.int p0), .val (.int p1), .val (.int p2), .val (.int p3), .val (.int p4), .val (.int p5), .val (.int (own_pp p0)), .val (.int (own_p2 p0)), .val (.int (own_p3 p0)), .val (.int (own_q p1)), .val (.int (own_q p2)), .val (.int (own_q p3)), .val (.int fr), .val (.int x), .val (.ref b1), .unset, .unset, .unset, .unset, .unset] [])) t
      refine XS.aload X8.here hx rfl (hb hby at_134) rfl rfl ?_
      show Steps p.tables e below (T8.setTop (mkF m 136 #[.val (.int p0), .val (.int p1), .val (.int p2), .val (.int p3), .val (.int p4), .val (.int p5), .val (.int (own_pp p0)), .val (.int (own_p2 p0)), .val (.int (own_p3 p0)), .val (.int (own_q p1)), .val (.int (own_q p2)), .val (.int (own_q p3)), .val (.int fr), .val (.int x), .val (.ref b1), .unset, .unset, .unset, .unset, .unset] [(.ref b1)])) t
      refine XS.iload X8.here hx rfl (hb hby at_136) rfl ?_
      show Steps p.tables e below (T8.setTop (mkF m 138 #[.val (.int p0), .val (.int p1), .val (.int p2), .val (.int p3), .val (.int p4), .val (.int p5), .val (.int (own_pp p0)), .val (.int (own_p2 p0)), .val (.int (own_p3 p0)), .val (.int (own_q p1)), .val (.int (own_q p2)), .val (.int (own_q p3)), .val (.int fr), .val (.int x), .val (.ref b1), .unset, .unset, .unset, .unset, .unset] [(.int fr), (.ref b1)])) t
      refine XS.iload X8.here hx rfl (hb hby at_138) rfl ?_
      exact kt
    refine OGo.callV X8 hx hZ (y := (⟨"com/example/kursor/kursor/storage/table/FreeSpace", "first", "(II)I"⟩ : MethodName)) (z := (⟨"com/example/kursor/kursor/storage/table/FreeSpace", "first", "(II)I"⟩ : MethodName)) hown (own_wd hw 43 rfl) (own_wd hw 44 rfl) (notFace_of_selects (args := #[]) (mvT hZ (own_wd hw 46 rfl))) (own_wd hw 46 rfl) (own_wd hw 45 rfl) (own_wd hw 4 rfl) (own_wd hw 47 rfl) (by decide) (rm8 l Z az hw [] b1 fr x r8_t1 r8_L1 r8_g1 (own_upd (own_upd (own_upd (fun _ => (0 : Int32)) (own_pp p0).toNatClampNeg (own_ch (own_q p1))) (own_p2 p0).toNatClampNeg (own_ch (own_q p2))) (own_p3 p0).toNatClampNeg (own_ch (own_q p3))) T8.heap n0 (Nat.le_trans Z0 KC8.1) P8_0 P8_1 P8_2 P8_3 P8_4 hf1 hx1) (W := 0) (by decide) (by decide) P8_0 (g := (mkF m 140 #[.val (.int p0), .val (.int p1), .val (.int p2), .val (.int p3), .val (.int p4), .val (.int p5), .val (.int (own_pp p0)), .val (.int (own_p2 p0)), .val (.int (own_p3 p0)), .val (.int (own_q p1)), .val (.int (own_q p2)), .val (.int (own_q p3)), .val (.int fr), .val (.int x), .val (.ref b1), .unset, .unset, .unset, .unset, .unset] [(.int x), (.int fr), (.ref b1)])) rfl (by rw [hml]; rfl) (argsL := [(.int fr), (.int x)]) (rest := []) (lenOf pd_0_2 rfl) rfl (by show 2 * 0 + _ ≤ _; exact Nat.le_of_eq rfl) (hb hby at_140) rfl rfl (by decide) (by decide) ?_
    rintro _ T10 L10 X10 ⟨r10_r, rfl, Nq10, K10, P10_0⟩
    have KC10 : Keep h0 T10.heap [] := KC8.trans K10 all0
    have N10 := Fr.app N8 Nq10
    show OGo _ _ _ _ _ _ _ (T10.setTop (mkF m 143 #[.val (.int p0), .val (.int p1), .val (.int p2), .val (.int p3), .val (.int p4), .val (.int p5), .val (.int (own_pp p0)), .val (.int (own_p2 p0)), .val (.int (own_p3 p0)), .val (.int (own_q p1)), .val (.int (own_q p2)), .val (.int (own_q p3)), .val (.int fr), .val (.int x), .val (.ref b1), .unset, .unset, .unset, .unset, .unset] [(.int r10_r)]))
    refine OGo.step (F' := T10.setTop (mkF m 145 #[.val (.int p0), .val (.int p1), .val (.int p2), .val (.int p3), .val (.int p4), .val (.int p5), .val (.int (own_pp p0)), .val (.int (own_p2 p0)), .val (.int (own_p3 p0)), .val (.int (own_q p1)), .val (.int (own_q p2)), .val (.int (own_q p3)), .val (.int fr), .val (.int x), .val (.ref b1), .val (.int r10_r), .unset, .unset, .unset, .unset] [])) (fun t kt => ?_) ?_
    · show Steps p.tables e below (T10.setTop (mkF m 143 #[.val (.int p0), .val (.int p1), .val (.int p2), .val (.int p3), .val (.int p4), .val (.int p5), .val (.int (own_pp p0)), .val (.int (own_p2 p0)), .val (.int (own_p3 p0)), .val (.int (own_q p1)), .val (.int (own_q p2)), .val (.int (own_q p3)), .val (.int fr), .val (.int x), .val (.ref b1), .unset, .unset, .unset, .unset, .unset] [(.int r10_r)])) t
      refine XS.istore X10.here hx rfl (hb hby at_143) rfl (l' := #[.val (.int p0), .val (.int p1), .val (.int p2), .val (.int p3), .val (.int p4), .val (.int p5), .val (.int (own_pp p0)), .val (.int (own_p2 p0)), .val (.int (own_p3 p0)), .val (.int (own_q p1)), .val (.int (own_q p2)), .val (.int (own_q p3)), .val (.int fr), .val (.int x), .val (.ref b1), .val (.int r10_r), .unset, .unset, .unset, .unset]) rfl ?_
      exact kt
    have J275 : ∀ (x1 x2 z1 z2 z3 : Int32) (T0 : State) (locs : List Loc), Stand p l e room_1 s m #[(.int p0), (.int p1), (.int p2), (.int p3), (.int p4), (.int p5)] below meth c T0 locs 5 772 → T0.heap = T10.heap → Fr n0 locs → (x1 = if (own_p3 p0) = (own_pp p0) then (own_q p3) else if (own_p2 p0) = (own_pp p0) then (own_q p2) else (own_q p1)) → (x2 = if (own_p3 p0) = (own_p2 p0) then (own_q p3) else (own_q p2)) → ((z1 = (1 : Int32) ∧ ¬ (own_pp p0) < fr ∧ ¬ x1 < x) ∨ (z1 = (0 : Int32) ∧ ((own_pp p0) < fr ∨ x1 < x))) → ((z2 = (1 : Int32) ∧ ¬ (own_p2 p0) < fr ∧ ¬ x2 < x) ∨ (z2 = (0 : Int32) ∧ ((own_p2 p0) < fr ∨ x2 < x))) → ((z3 = (1 : Int32) ∧ ¬ (own_p3 p0) < fr ∧ ¬ (own_q p3) < x) ∨ (z3 = (0 : Int32) ∧ ((own_p3 p0) < fr ∨ (own_q p3) < x))) → OGo p e below s (Q0 Z p0 p1 p2 p3 p4 p5 h0 n0) room_1.cells room_1.slots (T0.setTop (mkF m 275 #[.val (.int p0), .val (.int p1), .val (.int p2), .val (.int p3), .val (.int p4), .val (.int p5), .val (.int (own_pp p0)), .val (.int (own_p2 p0)), .val (.int (own_p3 p0)), .val (.int (own_q p1)), .val (.int (own_q p2)), .val (.int (own_q p3)), .val (.int fr), .val (.int x), .val (.ref b1), .val (.int r10_r), .val (.int x1), .val (.int x2), .val (.int (own_q p3)), .val (.int (f9 (f9 (0 : Int32) z1 (own_pp p0)) z2 (own_p2 p0)))] [(.int (own_p3 p0)), (.int z3), (.int (f9 (f9 (0 : Int32) z1 (own_pp p0)) z2 (own_p2 p0)))])) := by
      intro x1 x2 z1 z2 z3 T0 locs Xj ej Nj he1 he2 hk1 hk2 hk3
      refine OGo.callS Xj hx hZ (y := (⟨"com/example/kursor/kursor/storage/table/FreeSpaceFirstPinLaw", "pick", "(IZI)I"⟩ : MethodName)) hown (own_wd hw 48 rfl) (own_wd hw 49 rfl) (own_wd hw 50 rfl) (own_wd hw 51 rfl) (by decide) (rm9 l Z az hw [] (f9 (f9 (0 : Int32) z1 (own_pp p0)) z2 (own_p2 p0)) z3 (own_p3 p0) T10.heap n0 (Nat.le_trans Z0 KC10.1)) (W := 0) (by decide) (by decide) (g := (mkF m 275 #[.val (.int p0), .val (.int p1), .val (.int p2), .val (.int p3), .val (.int p4), .val (.int p5), .val (.int (own_pp p0)), .val (.int (own_p2 p0)), .val (.int (own_p3 p0)), .val (.int (own_q p1)), .val (.int (own_q p2)), .val (.int (own_q p3)), .val (.int fr), .val (.int x), .val (.ref b1), .val (.int r10_r), .val (.int x1), .val (.int x2), .val (.int (own_q p3)), .val (.int (f9 (f9 (0 : Int32) z1 (own_pp p0)) z2 (own_p2 p0)))] [(.int (own_p3 p0)), (.int z3), (.int (f9 (f9 (0 : Int32) z1 (own_pp p0)) z2 (own_p2 p0)))])) rfl (by rw [hml]; rfl) (argsL := [(.int (f9 (f9 (0 : Int32) z1 (own_pp p0)) z2 (own_p2 p0))), (.int z3), (.int (own_p3 p0))]) (rest := []) (lenOf pd_0_3 rfl) rfl (by show 2 * 0 + _ ≤ _; exact Nat.le_of_eq rfl) (hb hby at_275) rfl ej (by decide) (by decide) ?_
      rintro _ T11 L11 X11 ⟨rfl, Nq11, e11⟩
      have N11 := Fr.app Nj Nq11
      show OGo _ _ _ _ _ _ _ (T11.setTop (mkF m 278 #[.val (.int p0), .val (.int p1), .val (.int p2), .val (.int p3), .val (.int p4), .val (.int p5), .val (.int (own_pp p0)), .val (.int (own_p2 p0)), .val (.int (own_p3 p0)), .val (.int (own_q p1)), .val (.int (own_q p2)), .val (.int (own_q p3)), .val (.int fr), .val (.int x), .val (.ref b1), .val (.int r10_r), .val (.int x1), .val (.int x2), .val (.int (own_q p3)), .val (.int (f9 (f9 (0 : Int32) z1 (own_pp p0)) z2 (own_p2 p0)))] [(.int (f9 (f9 (f9 (0 : Int32) z1 (own_pp p0)) z2 (own_p2 p0)) z3 (own_p3 p0)))]))
      refine OGo.step (F' := T11.setTop (mkF m 292 #[.val (.int p0), .val (.int p1), .val (.int p2), .val (.int p3), .val (.int p4), .val (.int p5), .val (.int (own_pp p0)), .val (.int (own_p2 p0)), .val (.int (own_p3 p0)), .val (.int (own_q p1)), .val (.int (own_q p2)), .val (.int (own_q p3)), .val (.int fr), .val (.int x), .val (.ref b1), .val (.int r10_r), .val (.int x1), .val (.int x2), .val (.int (own_q p3)), .val (.int (f9 (f9 (f9 (0 : Int32) z1 (own_pp p0)) z2 (own_p2 p0)) z3 (own_p3 p0)))] [(.int (1 : Int32))])) (fun t kt => ?_) ?_
      · show Steps p.tables e below (T11.setTop (mkF m 278 #[.val (.int p0), .val (.int p1), .val (.int p2), .val (.int p3), .val (.int p4), .val (.int p5), .val (.int (own_pp p0)), .val (.int (own_p2 p0)), .val (.int (own_p3 p0)), .val (.int (own_q p1)), .val (.int (own_q p2)), .val (.int (own_q p3)), .val (.int fr), .val (.int x), .val (.ref b1), .val (.int r10_r), .val (.int x1), .val (.int x2), .val (.int (own_q p3)), .val (.int (f9 (f9 (0 : Int32) z1 (own_pp p0)) z2 (own_p2 p0)))] [(.int (f9 (f9 (f9 (0 : Int32) z1 (own_pp p0)) z2 (own_p2 p0)) z3 (own_p3 p0)))])) t
        refine XS.istore X11.here hx rfl (hb hby at_278) rfl (l' := #[.val (.int p0), .val (.int p1), .val (.int p2), .val (.int p3), .val (.int p4), .val (.int p5), .val (.int (own_pp p0)), .val (.int (own_p2 p0)), .val (.int (own_p3 p0)), .val (.int (own_q p1)), .val (.int (own_q p2)), .val (.int (own_q p3)), .val (.int fr), .val (.int x), .val (.ref b1), .val (.int r10_r), .val (.int x1), .val (.int x2), .val (.int (own_q p3)), .val (.int (f9 (f9 (f9 (0 : Int32) z1 (own_pp p0)) z2 (own_p2 p0)) z3 (own_p3 p0)))]) rfl ?_
        show Steps p.tables e below (T11.setTop (mkF m 280 #[.val (.int p0), .val (.int p1), .val (.int p2), .val (.int p3), .val (.int p4), .val (.int p5), .val (.int (own_pp p0)), .val (.int (own_p2 p0)), .val (.int (own_p3 p0)), .val (.int (own_q p1)), .val (.int (own_q p2)), .val (.int (own_q p3)), .val (.int fr), .val (.int x), .val (.ref b1), .val (.int r10_r), .val (.int x1), .val (.int x2), .val (.int (own_q p3)), .val (.int (f9 (f9 (f9 (0 : Int32) z1 (own_pp p0)) z2 (own_p2 p0)) z3 (own_p3 p0)))] [])) t
        refine XS.iload X11.here hx rfl (hb hby at_280) rfl ?_
        show Steps p.tables e below (T11.setTop (mkF m 282 #[.val (.int p0), .val (.int p1), .val (.int p2), .val (.int p3), .val (.int p4), .val (.int p5), .val (.int (own_pp p0)), .val (.int (own_p2 p0)), .val (.int (own_p3 p0)), .val (.int (own_q p1)), .val (.int (own_q p2)), .val (.int (own_q p3)), .val (.int fr), .val (.int x), .val (.ref b1), .val (.int r10_r), .val (.int x1), .val (.int x2), .val (.int (own_q p3)), .val (.int (f9 (f9 (f9 (0 : Int32) z1 (own_pp p0)) z2 (own_p2 p0)) z3 (own_p3 p0)))] [(.int r10_r)])) t
        refine XS.iload X11.here hx rfl (hb hby at_282) rfl ?_
        show Steps p.tables e below (T11.setTop (mkF m 284 #[.val (.int p0), .val (.int p1), .val (.int p2), .val (.int p3), .val (.int p4), .val (.int p5), .val (.int (own_pp p0)), .val (.int (own_p2 p0)), .val (.int (own_p3 p0)), .val (.int (own_q p1)), .val (.int (own_q p2)), .val (.int (own_q p3)), .val (.int fr), .val (.int x), .val (.ref b1), .val (.int r10_r), .val (.int x1), .val (.int x2), .val (.int (own_q p3)), .val (.int (f9 (f9 (f9 (0 : Int32) z1 (own_pp p0)) z2 (own_p2 p0)) z3 (own_p3 p0)))] [(.int (f9 (f9 (f9 (0 : Int32) z1 (own_pp p0)) z2 (own_p2 p0)) z3 (own_p3 p0))), (.int r10_r)])) t
        refine XS.icmpNo X11.here hx rfl (hb hby at_284) rfl (teq (own_lawf _ _ _ _ _ _ _ _ _ _ _ _ _ _ (own_ppr _) (own_ppr _) (own_ppr _) (own_qr _) (own_qr _) (own_qr _) hx1 hf1 he1 he2 hk1 hk2 hk3 P10_0)).2 ?_
        show Steps p.tables e below (T11.setTop (mkF m 287 #[.val (.int p0), .val (.int p1), .val (.int p2), .val (.int p3), .val (.int p4), .val (.int p5), .val (.int (own_pp p0)), .val (.int (own_p2 p0)), .val (.int (own_p3 p0)), .val (.int (own_q p1)), .val (.int (own_q p2)), .val (.int (own_q p3)), .val (.int fr), .val (.int x), .val (.ref b1), .val (.int r10_r), .val (.int x1), .val (.int x2), .val (.int (own_q p3)), .val (.int (f9 (f9 (f9 (0 : Int32) z1 (own_pp p0)) z2 (own_p2 p0)) z3 (own_p3 p0)))] [])) t
        refine XS.iconst X11.here hx rfl (hb hby at_287) ?_
        show Steps p.tables e below (T11.setTop (mkF m 288 #[.val (.int p0), .val (.int p1), .val (.int p2), .val (.int p3), .val (.int p4), .val (.int p5), .val (.int (own_pp p0)), .val (.int (own_p2 p0)), .val (.int (own_p3 p0)), .val (.int (own_q p1)), .val (.int (own_q p2)), .val (.int (own_q p3)), .val (.int fr), .val (.int x), .val (.ref b1), .val (.int r10_r), .val (.int x1), .val (.int x2), .val (.int (own_q p3)), .val (.int (f9 (f9 (f9 (0 : Int32) z1 (own_pp p0)) z2 (own_p2 p0)) z3 (own_p3 p0)))] [(.int (1 : Int32))])) t
        refine XS.goto X11.here hx rfl (pc0 := 288) (pc' := 292) rfl (hb hby at_288) (by decide) (by decide) ?_
        exact kt
      refine OGo.retZ X11 hx hlk (t := .boolean) (z' := (1 : Int32)) hret (by simp) (hb hby at_292) rfl ?_ (by decide) (by decide)
      show Q0 Z p0 p1 p2 p3 p4 p5 h0 n0 _ T11.heap _
      rw [e11]
      exact ⟨rfl, N11, KC10⟩
    have J247 : ∀ (x1 x2 z1 z2 : Int32) (T0 : State) (locs : List Loc), Stand p l e room_1 s m #[(.int p0), (.int p1), (.int p2), (.int p3), (.int p4), (.int p5)] below meth c T0 locs 5 772 → T0.heap = T10.heap → Fr n0 locs → (x1 = if (own_p3 p0) = (own_pp p0) then (own_q p3) else if (own_p2 p0) = (own_pp p0) then (own_q p2) else (own_q p1)) → (x2 = if (own_p3 p0) = (own_p2 p0) then (own_q p3) else (own_q p2)) → ((z1 = (1 : Int32) ∧ ¬ (own_pp p0) < fr ∧ ¬ x1 < x) ∨ (z1 = (0 : Int32) ∧ ((own_pp p0) < fr ∨ x1 < x))) → ((z2 = (1 : Int32) ∧ ¬ (own_p2 p0) < fr ∧ ¬ x2 < x) ∨ (z2 = (0 : Int32) ∧ ((own_p2 p0) < fr ∨ x2 < x))) → OGo p e below s (Q0 Z p0 p1 p2 p3 p4 p5 h0 n0) room_1.cells room_1.slots (T0.setTop (mkF m 247 #[.val (.int p0), .val (.int p1), .val (.int p2), .val (.int p3), .val (.int p4), .val (.int p5), .val (.int (own_pp p0)), .val (.int (own_p2 p0)), .val (.int (own_p3 p0)), .val (.int (own_q p1)), .val (.int (own_q p2)), .val (.int (own_q p3)), .val (.int fr), .val (.int x), .val (.ref b1), .val (.int r10_r), .val (.int x1), .val (.int x2), .val (.int (own_q p3)), .val (.int (f9 (0 : Int32) z1 (own_pp p0)))] [(.int (own_p2 p0)), (.int z2), (.int (f9 (0 : Int32) z1 (own_pp p0)))])) := by
      intro x1 x2 z1 z2 T0 locs Xj ej Nj he1 he2 hk1 hk2
      refine OGo.callS Xj hx hZ (y := (⟨"com/example/kursor/kursor/storage/table/FreeSpaceFirstPinLaw", "pick", "(IZI)I"⟩ : MethodName)) hown (own_wd hw 48 rfl) (own_wd hw 49 rfl) (own_wd hw 50 rfl) (own_wd hw 51 rfl) (by decide) (rm9 l Z az hw [] (f9 (0 : Int32) z1 (own_pp p0)) z2 (own_p2 p0) T10.heap n0 (Nat.le_trans Z0 KC10.1)) (W := 0) (by decide) (by decide) (g := (mkF m 247 #[.val (.int p0), .val (.int p1), .val (.int p2), .val (.int p3), .val (.int p4), .val (.int p5), .val (.int (own_pp p0)), .val (.int (own_p2 p0)), .val (.int (own_p3 p0)), .val (.int (own_q p1)), .val (.int (own_q p2)), .val (.int (own_q p3)), .val (.int fr), .val (.int x), .val (.ref b1), .val (.int r10_r), .val (.int x1), .val (.int x2), .val (.int (own_q p3)), .val (.int (f9 (0 : Int32) z1 (own_pp p0)))] [(.int (own_p2 p0)), (.int z2), (.int (f9 (0 : Int32) z1 (own_pp p0)))])) rfl (by rw [hml]; rfl) (argsL := [(.int (f9 (0 : Int32) z1 (own_pp p0))), (.int z2), (.int (own_p2 p0))]) (rest := []) (lenOf pd_0_3 rfl) rfl (by show 2 * 0 + _ ≤ _; exact Nat.le_of_eq rfl) (hb hby at_247) rfl ej (by decide) (by decide) ?_
      rintro _ T12 L12 X12 ⟨rfl, Nq12, e12⟩
      have N12 := Fr.app Nj Nq12
      show OGo _ _ _ _ _ _ _ (T12.setTop (mkF m 250 #[.val (.int p0), .val (.int p1), .val (.int p2), .val (.int p3), .val (.int p4), .val (.int p5), .val (.int (own_pp p0)), .val (.int (own_p2 p0)), .val (.int (own_p3 p0)), .val (.int (own_q p1)), .val (.int (own_q p2)), .val (.int (own_q p3)), .val (.int fr), .val (.int x), .val (.ref b1), .val (.int r10_r), .val (.int x1), .val (.int x2), .val (.int (own_q p3)), .val (.int (f9 (0 : Int32) z1 (own_pp p0)))] [(.int (f9 (f9 (0 : Int32) z1 (own_pp p0)) z2 (own_p2 p0)))]))
      refine OGo.step (F' := T12.setTop (mkF m 258 #[.val (.int p0), .val (.int p1), .val (.int p2), .val (.int p3), .val (.int p4), .val (.int p5), .val (.int (own_pp p0)), .val (.int (own_p2 p0)), .val (.int (own_p3 p0)), .val (.int (own_q p1)), .val (.int (own_q p2)), .val (.int (own_q p3)), .val (.int fr), .val (.int x), .val (.ref b1), .val (.int r10_r), .val (.int x1), .val (.int x2), .val (.int (own_q p3)), .val (.int (f9 (f9 (0 : Int32) z1 (own_pp p0)) z2 (own_p2 p0)))] [(.int fr), (.int (own_p3 p0)), (.int (f9 (f9 (0 : Int32) z1 (own_pp p0)) z2 (own_p2 p0)))])) (fun t kt => ?_) ?_
      · show Steps p.tables e below (T12.setTop (mkF m 250 #[.val (.int p0), .val (.int p1), .val (.int p2), .val (.int p3), .val (.int p4), .val (.int p5), .val (.int (own_pp p0)), .val (.int (own_p2 p0)), .val (.int (own_p3 p0)), .val (.int (own_q p1)), .val (.int (own_q p2)), .val (.int (own_q p3)), .val (.int fr), .val (.int x), .val (.ref b1), .val (.int r10_r), .val (.int x1), .val (.int x2), .val (.int (own_q p3)), .val (.int (f9 (0 : Int32) z1 (own_pp p0)))] [(.int (f9 (f9 (0 : Int32) z1 (own_pp p0)) z2 (own_p2 p0)))])) t
        refine XS.istore X12.here hx rfl (hb hby at_250) rfl (l' := #[.val (.int p0), .val (.int p1), .val (.int p2), .val (.int p3), .val (.int p4), .val (.int p5), .val (.int (own_pp p0)), .val (.int (own_p2 p0)), .val (.int (own_p3 p0)), .val (.int (own_q p1)), .val (.int (own_q p2)), .val (.int (own_q p3)), .val (.int fr), .val (.int x), .val (.ref b1), .val (.int r10_r), .val (.int x1), .val (.int x2), .val (.int (own_q p3)), .val (.int (f9 (f9 (0 : Int32) z1 (own_pp p0)) z2 (own_p2 p0)))]) rfl ?_
        show Steps p.tables e below (T12.setTop (mkF m 252 #[.val (.int p0), .val (.int p1), .val (.int p2), .val (.int p3), .val (.int p4), .val (.int p5), .val (.int (own_pp p0)), .val (.int (own_p2 p0)), .val (.int (own_p3 p0)), .val (.int (own_q p1)), .val (.int (own_q p2)), .val (.int (own_q p3)), .val (.int fr), .val (.int x), .val (.ref b1), .val (.int r10_r), .val (.int x1), .val (.int x2), .val (.int (own_q p3)), .val (.int (f9 (f9 (0 : Int32) z1 (own_pp p0)) z2 (own_p2 p0)))] [])) t
        refine XS.iload X12.here hx rfl (hb hby at_252) rfl ?_
        show Steps p.tables e below (T12.setTop (mkF m 254 #[.val (.int p0), .val (.int p1), .val (.int p2), .val (.int p3), .val (.int p4), .val (.int p5), .val (.int (own_pp p0)), .val (.int (own_p2 p0)), .val (.int (own_p3 p0)), .val (.int (own_q p1)), .val (.int (own_q p2)), .val (.int (own_q p3)), .val (.int fr), .val (.int x), .val (.ref b1), .val (.int r10_r), .val (.int x1), .val (.int x2), .val (.int (own_q p3)), .val (.int (f9 (f9 (0 : Int32) z1 (own_pp p0)) z2 (own_p2 p0)))] [(.int (f9 (f9 (0 : Int32) z1 (own_pp p0)) z2 (own_p2 p0)))])) t
        refine XS.iload X12.here hx rfl (hb hby at_254) rfl ?_
        show Steps p.tables e below (T12.setTop (mkF m 256 #[.val (.int p0), .val (.int p1), .val (.int p2), .val (.int p3), .val (.int p4), .val (.int p5), .val (.int (own_pp p0)), .val (.int (own_p2 p0)), .val (.int (own_p3 p0)), .val (.int (own_q p1)), .val (.int (own_q p2)), .val (.int (own_q p3)), .val (.int fr), .val (.int x), .val (.ref b1), .val (.int r10_r), .val (.int x1), .val (.int x2), .val (.int (own_q p3)), .val (.int (f9 (f9 (0 : Int32) z1 (own_pp p0)) z2 (own_p2 p0)))] [(.int (own_p3 p0)), (.int (f9 (f9 (0 : Int32) z1 (own_pp p0)) z2 (own_p2 p0)))])) t
        refine XS.iload X12.here hx rfl (hb hby at_256) rfl ?_
        exact kt
      by_cases hc258 : (own_p3 p0) < fr
      · refine OGo.step (F' := T12.setTop (mkF m 272 #[.val (.int p0), .val (.int p1), .val (.int p2), .val (.int p3), .val (.int p4), .val (.int p5), .val (.int (own_pp p0)), .val (.int (own_p2 p0)), .val (.int (own_p3 p0)), .val (.int (own_q p1)), .val (.int (own_q p2)), .val (.int (own_q p3)), .val (.int fr), .val (.int x), .val (.ref b1), .val (.int r10_r), .val (.int x1), .val (.int x2), .val (.int (own_q p3)), .val (.int (f9 (f9 (0 : Int32) z1 (own_pp p0)) z2 (own_p2 p0)))] [(.int (f9 (f9 (0 : Int32) z1 (own_pp p0)) z2 (own_p2 p0)))])) (fun t kt => ?_) ?_
        · show Steps p.tables e below (T12.setTop (mkF m 258 #[.val (.int p0), .val (.int p1), .val (.int p2), .val (.int p3), .val (.int p4), .val (.int p5), .val (.int (own_pp p0)), .val (.int (own_p2 p0)), .val (.int (own_p3 p0)), .val (.int (own_q p1)), .val (.int (own_q p2)), .val (.int (own_q p3)), .val (.int fr), .val (.int x), .val (.ref b1), .val (.int r10_r), .val (.int x1), .val (.int x2), .val (.int (own_q p3)), .val (.int (f9 (f9 (0 : Int32) z1 (own_pp p0)) z2 (own_p2 p0)))] [(.int fr), (.int (own_p3 p0)), (.int (f9 (f9 (0 : Int32) z1 (own_pp p0)) z2 (own_p2 p0)))])) t
          refine XS.icmpYes X12.here hx rfl (pc0 := 258) (pc' := 272) rfl (hb hby at_258) rfl (tlt hc258).1 (by decide) (by decide) ?_
          exact kt
        refine OGo.step (F' := T12.setTop (mkF m 275 #[.val (.int p0), .val (.int p1), .val (.int p2), .val (.int p3), .val (.int p4), .val (.int p5), .val (.int (own_pp p0)), .val (.int (own_p2 p0)), .val (.int (own_p3 p0)), .val (.int (own_q p1)), .val (.int (own_q p2)), .val (.int (own_q p3)), .val (.int fr), .val (.int x), .val (.ref b1), .val (.int r10_r), .val (.int x1), .val (.int x2), .val (.int (own_q p3)), .val (.int (f9 (f9 (0 : Int32) z1 (own_pp p0)) z2 (own_p2 p0)))] [(.int (own_p3 p0)), (.int (0 : Int32)), (.int (f9 (f9 (0 : Int32) z1 (own_pp p0)) z2 (own_p2 p0)))])) (fun t kt => ?_) ?_
        · show Steps p.tables e below (T12.setTop (mkF m 272 #[.val (.int p0), .val (.int p1), .val (.int p2), .val (.int p3), .val (.int p4), .val (.int p5), .val (.int (own_pp p0)), .val (.int (own_p2 p0)), .val (.int (own_p3 p0)), .val (.int (own_q p1)), .val (.int (own_q p2)), .val (.int (own_q p3)), .val (.int fr), .val (.int x), .val (.ref b1), .val (.int r10_r), .val (.int x1), .val (.int x2), .val (.int (own_q p3)), .val (.int (f9 (f9 (0 : Int32) z1 (own_pp p0)) z2 (own_p2 p0)))] [(.int (f9 (f9 (0 : Int32) z1 (own_pp p0)) z2 (own_p2 p0)))])) t
          refine XS.iconst X12.here hx rfl (hb hby at_272) ?_
          show Steps p.tables e below (T12.setTop (mkF m 273 #[.val (.int p0), .val (.int p1), .val (.int p2), .val (.int p3), .val (.int p4), .val (.int p5), .val (.int (own_pp p0)), .val (.int (own_p2 p0)), .val (.int (own_p3 p0)), .val (.int (own_q p1)), .val (.int (own_q p2)), .val (.int (own_q p3)), .val (.int fr), .val (.int x), .val (.ref b1), .val (.int r10_r), .val (.int x1), .val (.int x2), .val (.int (own_q p3)), .val (.int (f9 (f9 (0 : Int32) z1 (own_pp p0)) z2 (own_p2 p0)))] [(.int (0 : Int32)), (.int (f9 (f9 (0 : Int32) z1 (own_pp p0)) z2 (own_p2 p0)))])) t
          refine XS.iload X12.here hx rfl (hb hby at_273) rfl ?_
          exact kt
        exact J275 _ _ _ _ _ T12 _ X12 e12 N12 he1 he2 hk1 hk2 (Or.inr ⟨rfl, Or.inl hc258⟩)
      · refine OGo.step (F' := T12.setTop (mkF m 261 #[.val (.int p0), .val (.int p1), .val (.int p2), .val (.int p3), .val (.int p4), .val (.int p5), .val (.int (own_pp p0)), .val (.int (own_p2 p0)), .val (.int (own_p3 p0)), .val (.int (own_q p1)), .val (.int (own_q p2)), .val (.int (own_q p3)), .val (.int fr), .val (.int x), .val (.ref b1), .val (.int r10_r), .val (.int x1), .val (.int x2), .val (.int (own_q p3)), .val (.int (f9 (f9 (0 : Int32) z1 (own_pp p0)) z2 (own_p2 p0)))] [(.int (f9 (f9 (0 : Int32) z1 (own_pp p0)) z2 (own_p2 p0)))])) (fun t kt => ?_) ?_
        · show Steps p.tables e below (T12.setTop (mkF m 258 #[.val (.int p0), .val (.int p1), .val (.int p2), .val (.int p3), .val (.int p4), .val (.int p5), .val (.int (own_pp p0)), .val (.int (own_p2 p0)), .val (.int (own_p3 p0)), .val (.int (own_q p1)), .val (.int (own_q p2)), .val (.int (own_q p3)), .val (.int fr), .val (.int x), .val (.ref b1), .val (.int r10_r), .val (.int x1), .val (.int x2), .val (.int (own_q p3)), .val (.int (f9 (f9 (0 : Int32) z1 (own_pp p0)) z2 (own_p2 p0)))] [(.int fr), (.int (own_p3 p0)), (.int (f9 (f9 (0 : Int32) z1 (own_pp p0)) z2 (own_p2 p0)))])) t
          refine XS.icmpNo X12.here hx rfl (hb hby at_258) rfl (flt hc258).1 ?_
          exact kt
        refine OGo.step (F' := T12.setTop (mkF m 265 #[.val (.int p0), .val (.int p1), .val (.int p2), .val (.int p3), .val (.int p4), .val (.int p5), .val (.int (own_pp p0)), .val (.int (own_p2 p0)), .val (.int (own_p3 p0)), .val (.int (own_q p1)), .val (.int (own_q p2)), .val (.int (own_q p3)), .val (.int fr), .val (.int x), .val (.ref b1), .val (.int r10_r), .val (.int x1), .val (.int x2), .val (.int (own_q p3)), .val (.int (f9 (f9 (0 : Int32) z1 (own_pp p0)) z2 (own_p2 p0)))] [(.int x), (.int (own_q p3)), (.int (f9 (f9 (0 : Int32) z1 (own_pp p0)) z2 (own_p2 p0)))])) (fun t kt => ?_) ?_
        · show Steps p.tables e below (T12.setTop (mkF m 261 #[.val (.int p0), .val (.int p1), .val (.int p2), .val (.int p3), .val (.int p4), .val (.int p5), .val (.int (own_pp p0)), .val (.int (own_p2 p0)), .val (.int (own_p3 p0)), .val (.int (own_q p1)), .val (.int (own_q p2)), .val (.int (own_q p3)), .val (.int fr), .val (.int x), .val (.ref b1), .val (.int r10_r), .val (.int x1), .val (.int x2), .val (.int (own_q p3)), .val (.int (f9 (f9 (0 : Int32) z1 (own_pp p0)) z2 (own_p2 p0)))] [(.int (f9 (f9 (0 : Int32) z1 (own_pp p0)) z2 (own_p2 p0)))])) t
          refine XS.iload X12.here hx rfl (hb hby at_261) rfl ?_
          show Steps p.tables e below (T12.setTop (mkF m 263 #[.val (.int p0), .val (.int p1), .val (.int p2), .val (.int p3), .val (.int p4), .val (.int p5), .val (.int (own_pp p0)), .val (.int (own_p2 p0)), .val (.int (own_p3 p0)), .val (.int (own_q p1)), .val (.int (own_q p2)), .val (.int (own_q p3)), .val (.int fr), .val (.int x), .val (.ref b1), .val (.int r10_r), .val (.int x1), .val (.int x2), .val (.int (own_q p3)), .val (.int (f9 (f9 (0 : Int32) z1 (own_pp p0)) z2 (own_p2 p0)))] [(.int (own_q p3)), (.int (f9 (f9 (0 : Int32) z1 (own_pp p0)) z2 (own_p2 p0)))])) t
          refine XS.iload X12.here hx rfl (hb hby at_263) rfl ?_
          exact kt
        by_cases hc265 : (own_q p3) < x
        · refine OGo.step (F' := T12.setTop (mkF m 272 #[.val (.int p0), .val (.int p1), .val (.int p2), .val (.int p3), .val (.int p4), .val (.int p5), .val (.int (own_pp p0)), .val (.int (own_p2 p0)), .val (.int (own_p3 p0)), .val (.int (own_q p1)), .val (.int (own_q p2)), .val (.int (own_q p3)), .val (.int fr), .val (.int x), .val (.ref b1), .val (.int r10_r), .val (.int x1), .val (.int x2), .val (.int (own_q p3)), .val (.int (f9 (f9 (0 : Int32) z1 (own_pp p0)) z2 (own_p2 p0)))] [(.int (f9 (f9 (0 : Int32) z1 (own_pp p0)) z2 (own_p2 p0)))])) (fun t kt => ?_) ?_
          · show Steps p.tables e below (T12.setTop (mkF m 265 #[.val (.int p0), .val (.int p1), .val (.int p2), .val (.int p3), .val (.int p4), .val (.int p5), .val (.int (own_pp p0)), .val (.int (own_p2 p0)), .val (.int (own_p3 p0)), .val (.int (own_q p1)), .val (.int (own_q p2)), .val (.int (own_q p3)), .val (.int fr), .val (.int x), .val (.ref b1), .val (.int r10_r), .val (.int x1), .val (.int x2), .val (.int (own_q p3)), .val (.int (f9 (f9 (0 : Int32) z1 (own_pp p0)) z2 (own_p2 p0)))] [(.int x), (.int (own_q p3)), (.int (f9 (f9 (0 : Int32) z1 (own_pp p0)) z2 (own_p2 p0)))])) t
            refine XS.icmpYes X12.here hx rfl (pc0 := 265) (pc' := 272) rfl (hb hby at_265) rfl (tlt hc265).1 (by decide) (by decide) ?_
            exact kt
          refine OGo.step (F' := T12.setTop (mkF m 275 #[.val (.int p0), .val (.int p1), .val (.int p2), .val (.int p3), .val (.int p4), .val (.int p5), .val (.int (own_pp p0)), .val (.int (own_p2 p0)), .val (.int (own_p3 p0)), .val (.int (own_q p1)), .val (.int (own_q p2)), .val (.int (own_q p3)), .val (.int fr), .val (.int x), .val (.ref b1), .val (.int r10_r), .val (.int x1), .val (.int x2), .val (.int (own_q p3)), .val (.int (f9 (f9 (0 : Int32) z1 (own_pp p0)) z2 (own_p2 p0)))] [(.int (own_p3 p0)), (.int (0 : Int32)), (.int (f9 (f9 (0 : Int32) z1 (own_pp p0)) z2 (own_p2 p0)))])) (fun t kt => ?_) ?_
          · show Steps p.tables e below (T12.setTop (mkF m 272 #[.val (.int p0), .val (.int p1), .val (.int p2), .val (.int p3), .val (.int p4), .val (.int p5), .val (.int (own_pp p0)), .val (.int (own_p2 p0)), .val (.int (own_p3 p0)), .val (.int (own_q p1)), .val (.int (own_q p2)), .val (.int (own_q p3)), .val (.int fr), .val (.int x), .val (.ref b1), .val (.int r10_r), .val (.int x1), .val (.int x2), .val (.int (own_q p3)), .val (.int (f9 (f9 (0 : Int32) z1 (own_pp p0)) z2 (own_p2 p0)))] [(.int (f9 (f9 (0 : Int32) z1 (own_pp p0)) z2 (own_p2 p0)))])) t
            refine XS.iconst X12.here hx rfl (hb hby at_272) ?_
            show Steps p.tables e below (T12.setTop (mkF m 273 #[.val (.int p0), .val (.int p1), .val (.int p2), .val (.int p3), .val (.int p4), .val (.int p5), .val (.int (own_pp p0)), .val (.int (own_p2 p0)), .val (.int (own_p3 p0)), .val (.int (own_q p1)), .val (.int (own_q p2)), .val (.int (own_q p3)), .val (.int fr), .val (.int x), .val (.ref b1), .val (.int r10_r), .val (.int x1), .val (.int x2), .val (.int (own_q p3)), .val (.int (f9 (f9 (0 : Int32) z1 (own_pp p0)) z2 (own_p2 p0)))] [(.int (0 : Int32)), (.int (f9 (f9 (0 : Int32) z1 (own_pp p0)) z2 (own_p2 p0)))])) t
            refine XS.iload X12.here hx rfl (hb hby at_273) rfl ?_
            exact kt
          exact J275 _ _ _ _ _ T12 _ X12 e12 N12 he1 he2 hk1 hk2 (Or.inr ⟨rfl, Or.inr hc265⟩)
        · refine OGo.step (F' := T12.setTop (mkF m 268 #[.val (.int p0), .val (.int p1), .val (.int p2), .val (.int p3), .val (.int p4), .val (.int p5), .val (.int (own_pp p0)), .val (.int (own_p2 p0)), .val (.int (own_p3 p0)), .val (.int (own_q p1)), .val (.int (own_q p2)), .val (.int (own_q p3)), .val (.int fr), .val (.int x), .val (.ref b1), .val (.int r10_r), .val (.int x1), .val (.int x2), .val (.int (own_q p3)), .val (.int (f9 (f9 (0 : Int32) z1 (own_pp p0)) z2 (own_p2 p0)))] [(.int (f9 (f9 (0 : Int32) z1 (own_pp p0)) z2 (own_p2 p0)))])) (fun t kt => ?_) ?_
          · show Steps p.tables e below (T12.setTop (mkF m 265 #[.val (.int p0), .val (.int p1), .val (.int p2), .val (.int p3), .val (.int p4), .val (.int p5), .val (.int (own_pp p0)), .val (.int (own_p2 p0)), .val (.int (own_p3 p0)), .val (.int (own_q p1)), .val (.int (own_q p2)), .val (.int (own_q p3)), .val (.int fr), .val (.int x), .val (.ref b1), .val (.int r10_r), .val (.int x1), .val (.int x2), .val (.int (own_q p3)), .val (.int (f9 (f9 (0 : Int32) z1 (own_pp p0)) z2 (own_p2 p0)))] [(.int x), (.int (own_q p3)), (.int (f9 (f9 (0 : Int32) z1 (own_pp p0)) z2 (own_p2 p0)))])) t
            refine XS.icmpNo X12.here hx rfl (hb hby at_265) rfl (flt hc265).1 ?_
            exact kt
          refine OGo.step (F' := T12.setTop (mkF m 275 #[.val (.int p0), .val (.int p1), .val (.int p2), .val (.int p3), .val (.int p4), .val (.int p5), .val (.int (own_pp p0)), .val (.int (own_p2 p0)), .val (.int (own_p3 p0)), .val (.int (own_q p1)), .val (.int (own_q p2)), .val (.int (own_q p3)), .val (.int fr), .val (.int x), .val (.ref b1), .val (.int r10_r), .val (.int x1), .val (.int x2), .val (.int (own_q p3)), .val (.int (f9 (f9 (0 : Int32) z1 (own_pp p0)) z2 (own_p2 p0)))] [(.int (own_p3 p0)), (.int (1 : Int32)), (.int (f9 (f9 (0 : Int32) z1 (own_pp p0)) z2 (own_p2 p0)))])) (fun t kt => ?_) ?_
          · show Steps p.tables e below (T12.setTop (mkF m 268 #[.val (.int p0), .val (.int p1), .val (.int p2), .val (.int p3), .val (.int p4), .val (.int p5), .val (.int (own_pp p0)), .val (.int (own_p2 p0)), .val (.int (own_p3 p0)), .val (.int (own_q p1)), .val (.int (own_q p2)), .val (.int (own_q p3)), .val (.int fr), .val (.int x), .val (.ref b1), .val (.int r10_r), .val (.int x1), .val (.int x2), .val (.int (own_q p3)), .val (.int (f9 (f9 (0 : Int32) z1 (own_pp p0)) z2 (own_p2 p0)))] [(.int (f9 (f9 (0 : Int32) z1 (own_pp p0)) z2 (own_p2 p0)))])) t
            refine XS.iconst X12.here hx rfl (hb hby at_268) ?_
            show Steps p.tables e below (T12.setTop (mkF m 269 #[.val (.int p0), .val (.int p1), .val (.int p2), .val (.int p3), .val (.int p4), .val (.int p5), .val (.int (own_pp p0)), .val (.int (own_p2 p0)), .val (.int (own_p3 p0)), .val (.int (own_q p1)), .val (.int (own_q p2)), .val (.int (own_q p3)), .val (.int fr), .val (.int x), .val (.ref b1), .val (.int r10_r), .val (.int x1), .val (.int x2), .val (.int (own_q p3)), .val (.int (f9 (f9 (0 : Int32) z1 (own_pp p0)) z2 (own_p2 p0)))] [(.int (1 : Int32)), (.int (f9 (f9 (0 : Int32) z1 (own_pp p0)) z2 (own_p2 p0)))])) t
            refine XS.goto X12.here hx rfl (pc0 := 269) (pc' := 273) rfl (hb hby at_269) (by decide) (by decide) ?_
            show Steps p.tables e below (T12.setTop (mkF m 273 #[.val (.int p0), .val (.int p1), .val (.int p2), .val (.int p3), .val (.int p4), .val (.int p5), .val (.int (own_pp p0)), .val (.int (own_p2 p0)), .val (.int (own_p3 p0)), .val (.int (own_q p1)), .val (.int (own_q p2)), .val (.int (own_q p3)), .val (.int fr), .val (.int x), .val (.ref b1), .val (.int r10_r), .val (.int x1), .val (.int x2), .val (.int (own_q p3)), .val (.int (f9 (f9 (0 : Int32) z1 (own_pp p0)) z2 (own_p2 p0)))] [(.int (1 : Int32)), (.int (f9 (f9 (0 : Int32) z1 (own_pp p0)) z2 (own_p2 p0)))])) t
            refine XS.iload X12.here hx rfl (hb hby at_273) rfl ?_
            exact kt
          exact J275 _ _ _ _ _ T12 _ X12 e12 N12 he1 he2 hk1 hk2 (Or.inl ⟨rfl, hc258, hc265⟩)
    have J219 : ∀ (x1 x2 z1 : Int32) (T0 : State) (locs : List Loc), Stand p l e room_1 s m #[(.int p0), (.int p1), (.int p2), (.int p3), (.int p4), (.int p5)] below meth c T0 locs 5 772 → T0.heap = T10.heap → Fr n0 locs → (x1 = if (own_p3 p0) = (own_pp p0) then (own_q p3) else if (own_p2 p0) = (own_pp p0) then (own_q p2) else (own_q p1)) → (x2 = if (own_p3 p0) = (own_p2 p0) then (own_q p3) else (own_q p2)) → ((z1 = (1 : Int32) ∧ ¬ (own_pp p0) < fr ∧ ¬ x1 < x) ∨ (z1 = (0 : Int32) ∧ ((own_pp p0) < fr ∨ x1 < x))) → OGo p e below s (Q0 Z p0 p1 p2 p3 p4 p5 h0 n0) room_1.cells room_1.slots (T0.setTop (mkF m 219 #[.val (.int p0), .val (.int p1), .val (.int p2), .val (.int p3), .val (.int p4), .val (.int p5), .val (.int (own_pp p0)), .val (.int (own_p2 p0)), .val (.int (own_p3 p0)), .val (.int (own_q p1)), .val (.int (own_q p2)), .val (.int (own_q p3)), .val (.int fr), .val (.int x), .val (.ref b1), .val (.int r10_r), .val (.int x1), .val (.int x2), .val (.int (own_q p3)), .val (.int (0 : Int32))] [(.int (own_pp p0)), (.int z1), (.int (0 : Int32))])) := by
      intro x1 x2 z1 T0 locs Xj ej Nj he1 he2 hk1
      refine OGo.callS Xj hx hZ (y := (⟨"com/example/kursor/kursor/storage/table/FreeSpaceFirstPinLaw", "pick", "(IZI)I"⟩ : MethodName)) hown (own_wd hw 48 rfl) (own_wd hw 49 rfl) (own_wd hw 50 rfl) (own_wd hw 51 rfl) (by decide) (rm9 l Z az hw [] (0 : Int32) z1 (own_pp p0) T10.heap n0 (Nat.le_trans Z0 KC10.1)) (W := 0) (by decide) (by decide) (g := (mkF m 219 #[.val (.int p0), .val (.int p1), .val (.int p2), .val (.int p3), .val (.int p4), .val (.int p5), .val (.int (own_pp p0)), .val (.int (own_p2 p0)), .val (.int (own_p3 p0)), .val (.int (own_q p1)), .val (.int (own_q p2)), .val (.int (own_q p3)), .val (.int fr), .val (.int x), .val (.ref b1), .val (.int r10_r), .val (.int x1), .val (.int x2), .val (.int (own_q p3)), .val (.int (0 : Int32))] [(.int (own_pp p0)), (.int z1), (.int (0 : Int32))])) rfl (by rw [hml]; rfl) (argsL := [(.int (0 : Int32)), (.int z1), (.int (own_pp p0))]) (rest := []) (lenOf pd_0_3 rfl) rfl (by show 2 * 0 + _ ≤ _; exact Nat.le_of_eq rfl) (hb hby at_219) rfl ej (by decide) (by decide) ?_
      rintro _ T13 L13 X13 ⟨rfl, Nq13, e13⟩
      have N13 := Fr.app Nj Nq13
      show OGo _ _ _ _ _ _ _ (T13.setTop (mkF m 222 #[.val (.int p0), .val (.int p1), .val (.int p2), .val (.int p3), .val (.int p4), .val (.int p5), .val (.int (own_pp p0)), .val (.int (own_p2 p0)), .val (.int (own_p3 p0)), .val (.int (own_q p1)), .val (.int (own_q p2)), .val (.int (own_q p3)), .val (.int fr), .val (.int x), .val (.ref b1), .val (.int r10_r), .val (.int x1), .val (.int x2), .val (.int (own_q p3)), .val (.int (0 : Int32))] [(.int (f9 (0 : Int32) z1 (own_pp p0)))]))
      refine OGo.step (F' := T13.setTop (mkF m 230 #[.val (.int p0), .val (.int p1), .val (.int p2), .val (.int p3), .val (.int p4), .val (.int p5), .val (.int (own_pp p0)), .val (.int (own_p2 p0)), .val (.int (own_p3 p0)), .val (.int (own_q p1)), .val (.int (own_q p2)), .val (.int (own_q p3)), .val (.int fr), .val (.int x), .val (.ref b1), .val (.int r10_r), .val (.int x1), .val (.int x2), .val (.int (own_q p3)), .val (.int (f9 (0 : Int32) z1 (own_pp p0)))] [(.int fr), (.int (own_p2 p0)), (.int (f9 (0 : Int32) z1 (own_pp p0)))])) (fun t kt => ?_) ?_
      · show Steps p.tables e below (T13.setTop (mkF m 222 #[.val (.int p0), .val (.int p1), .val (.int p2), .val (.int p3), .val (.int p4), .val (.int p5), .val (.int (own_pp p0)), .val (.int (own_p2 p0)), .val (.int (own_p3 p0)), .val (.int (own_q p1)), .val (.int (own_q p2)), .val (.int (own_q p3)), .val (.int fr), .val (.int x), .val (.ref b1), .val (.int r10_r), .val (.int x1), .val (.int x2), .val (.int (own_q p3)), .val (.int (0 : Int32))] [(.int (f9 (0 : Int32) z1 (own_pp p0)))])) t
        refine XS.istore X13.here hx rfl (hb hby at_222) rfl (l' := #[.val (.int p0), .val (.int p1), .val (.int p2), .val (.int p3), .val (.int p4), .val (.int p5), .val (.int (own_pp p0)), .val (.int (own_p2 p0)), .val (.int (own_p3 p0)), .val (.int (own_q p1)), .val (.int (own_q p2)), .val (.int (own_q p3)), .val (.int fr), .val (.int x), .val (.ref b1), .val (.int r10_r), .val (.int x1), .val (.int x2), .val (.int (own_q p3)), .val (.int (f9 (0 : Int32) z1 (own_pp p0)))]) rfl ?_
        show Steps p.tables e below (T13.setTop (mkF m 224 #[.val (.int p0), .val (.int p1), .val (.int p2), .val (.int p3), .val (.int p4), .val (.int p5), .val (.int (own_pp p0)), .val (.int (own_p2 p0)), .val (.int (own_p3 p0)), .val (.int (own_q p1)), .val (.int (own_q p2)), .val (.int (own_q p3)), .val (.int fr), .val (.int x), .val (.ref b1), .val (.int r10_r), .val (.int x1), .val (.int x2), .val (.int (own_q p3)), .val (.int (f9 (0 : Int32) z1 (own_pp p0)))] [])) t
        refine XS.iload X13.here hx rfl (hb hby at_224) rfl ?_
        show Steps p.tables e below (T13.setTop (mkF m 226 #[.val (.int p0), .val (.int p1), .val (.int p2), .val (.int p3), .val (.int p4), .val (.int p5), .val (.int (own_pp p0)), .val (.int (own_p2 p0)), .val (.int (own_p3 p0)), .val (.int (own_q p1)), .val (.int (own_q p2)), .val (.int (own_q p3)), .val (.int fr), .val (.int x), .val (.ref b1), .val (.int r10_r), .val (.int x1), .val (.int x2), .val (.int (own_q p3)), .val (.int (f9 (0 : Int32) z1 (own_pp p0)))] [(.int (f9 (0 : Int32) z1 (own_pp p0)))])) t
        refine XS.iload X13.here hx rfl (hb hby at_226) rfl ?_
        show Steps p.tables e below (T13.setTop (mkF m 228 #[.val (.int p0), .val (.int p1), .val (.int p2), .val (.int p3), .val (.int p4), .val (.int p5), .val (.int (own_pp p0)), .val (.int (own_p2 p0)), .val (.int (own_p3 p0)), .val (.int (own_q p1)), .val (.int (own_q p2)), .val (.int (own_q p3)), .val (.int fr), .val (.int x), .val (.ref b1), .val (.int r10_r), .val (.int x1), .val (.int x2), .val (.int (own_q p3)), .val (.int (f9 (0 : Int32) z1 (own_pp p0)))] [(.int (own_p2 p0)), (.int (f9 (0 : Int32) z1 (own_pp p0)))])) t
        refine XS.iload X13.here hx rfl (hb hby at_228) rfl ?_
        exact kt
      by_cases hc230 : (own_p2 p0) < fr
      · refine OGo.step (F' := T13.setTop (mkF m 244 #[.val (.int p0), .val (.int p1), .val (.int p2), .val (.int p3), .val (.int p4), .val (.int p5), .val (.int (own_pp p0)), .val (.int (own_p2 p0)), .val (.int (own_p3 p0)), .val (.int (own_q p1)), .val (.int (own_q p2)), .val (.int (own_q p3)), .val (.int fr), .val (.int x), .val (.ref b1), .val (.int r10_r), .val (.int x1), .val (.int x2), .val (.int (own_q p3)), .val (.int (f9 (0 : Int32) z1 (own_pp p0)))] [(.int (f9 (0 : Int32) z1 (own_pp p0)))])) (fun t kt => ?_) ?_
        · show Steps p.tables e below (T13.setTop (mkF m 230 #[.val (.int p0), .val (.int p1), .val (.int p2), .val (.int p3), .val (.int p4), .val (.int p5), .val (.int (own_pp p0)), .val (.int (own_p2 p0)), .val (.int (own_p3 p0)), .val (.int (own_q p1)), .val (.int (own_q p2)), .val (.int (own_q p3)), .val (.int fr), .val (.int x), .val (.ref b1), .val (.int r10_r), .val (.int x1), .val (.int x2), .val (.int (own_q p3)), .val (.int (f9 (0 : Int32) z1 (own_pp p0)))] [(.int fr), (.int (own_p2 p0)), (.int (f9 (0 : Int32) z1 (own_pp p0)))])) t
          refine XS.icmpYes X13.here hx rfl (pc0 := 230) (pc' := 244) rfl (hb hby at_230) rfl (tlt hc230).1 (by decide) (by decide) ?_
          exact kt
        refine OGo.step (F' := T13.setTop (mkF m 247 #[.val (.int p0), .val (.int p1), .val (.int p2), .val (.int p3), .val (.int p4), .val (.int p5), .val (.int (own_pp p0)), .val (.int (own_p2 p0)), .val (.int (own_p3 p0)), .val (.int (own_q p1)), .val (.int (own_q p2)), .val (.int (own_q p3)), .val (.int fr), .val (.int x), .val (.ref b1), .val (.int r10_r), .val (.int x1), .val (.int x2), .val (.int (own_q p3)), .val (.int (f9 (0 : Int32) z1 (own_pp p0)))] [(.int (own_p2 p0)), (.int (0 : Int32)), (.int (f9 (0 : Int32) z1 (own_pp p0)))])) (fun t kt => ?_) ?_
        · show Steps p.tables e below (T13.setTop (mkF m 244 #[.val (.int p0), .val (.int p1), .val (.int p2), .val (.int p3), .val (.int p4), .val (.int p5), .val (.int (own_pp p0)), .val (.int (own_p2 p0)), .val (.int (own_p3 p0)), .val (.int (own_q p1)), .val (.int (own_q p2)), .val (.int (own_q p3)), .val (.int fr), .val (.int x), .val (.ref b1), .val (.int r10_r), .val (.int x1), .val (.int x2), .val (.int (own_q p3)), .val (.int (f9 (0 : Int32) z1 (own_pp p0)))] [(.int (f9 (0 : Int32) z1 (own_pp p0)))])) t
          refine XS.iconst X13.here hx rfl (hb hby at_244) ?_
          show Steps p.tables e below (T13.setTop (mkF m 245 #[.val (.int p0), .val (.int p1), .val (.int p2), .val (.int p3), .val (.int p4), .val (.int p5), .val (.int (own_pp p0)), .val (.int (own_p2 p0)), .val (.int (own_p3 p0)), .val (.int (own_q p1)), .val (.int (own_q p2)), .val (.int (own_q p3)), .val (.int fr), .val (.int x), .val (.ref b1), .val (.int r10_r), .val (.int x1), .val (.int x2), .val (.int (own_q p3)), .val (.int (f9 (0 : Int32) z1 (own_pp p0)))] [(.int (0 : Int32)), (.int (f9 (0 : Int32) z1 (own_pp p0)))])) t
          refine XS.iload X13.here hx rfl (hb hby at_245) rfl ?_
          exact kt
        exact J247 _ _ _ _ T13 _ X13 e13 N13 he1 he2 hk1 (Or.inr ⟨rfl, Or.inl hc230⟩)
      · refine OGo.step (F' := T13.setTop (mkF m 233 #[.val (.int p0), .val (.int p1), .val (.int p2), .val (.int p3), .val (.int p4), .val (.int p5), .val (.int (own_pp p0)), .val (.int (own_p2 p0)), .val (.int (own_p3 p0)), .val (.int (own_q p1)), .val (.int (own_q p2)), .val (.int (own_q p3)), .val (.int fr), .val (.int x), .val (.ref b1), .val (.int r10_r), .val (.int x1), .val (.int x2), .val (.int (own_q p3)), .val (.int (f9 (0 : Int32) z1 (own_pp p0)))] [(.int (f9 (0 : Int32) z1 (own_pp p0)))])) (fun t kt => ?_) ?_
        · show Steps p.tables e below (T13.setTop (mkF m 230 #[.val (.int p0), .val (.int p1), .val (.int p2), .val (.int p3), .val (.int p4), .val (.int p5), .val (.int (own_pp p0)), .val (.int (own_p2 p0)), .val (.int (own_p3 p0)), .val (.int (own_q p1)), .val (.int (own_q p2)), .val (.int (own_q p3)), .val (.int fr), .val (.int x), .val (.ref b1), .val (.int r10_r), .val (.int x1), .val (.int x2), .val (.int (own_q p3)), .val (.int (f9 (0 : Int32) z1 (own_pp p0)))] [(.int fr), (.int (own_p2 p0)), (.int (f9 (0 : Int32) z1 (own_pp p0)))])) t
          refine XS.icmpNo X13.here hx rfl (hb hby at_230) rfl (flt hc230).1 ?_
          exact kt
        refine OGo.step (F' := T13.setTop (mkF m 237 #[.val (.int p0), .val (.int p1), .val (.int p2), .val (.int p3), .val (.int p4), .val (.int p5), .val (.int (own_pp p0)), .val (.int (own_p2 p0)), .val (.int (own_p3 p0)), .val (.int (own_q p1)), .val (.int (own_q p2)), .val (.int (own_q p3)), .val (.int fr), .val (.int x), .val (.ref b1), .val (.int r10_r), .val (.int x1), .val (.int x2), .val (.int (own_q p3)), .val (.int (f9 (0 : Int32) z1 (own_pp p0)))] [(.int x), (.int x2), (.int (f9 (0 : Int32) z1 (own_pp p0)))])) (fun t kt => ?_) ?_
        · show Steps p.tables e below (T13.setTop (mkF m 233 #[.val (.int p0), .val (.int p1), .val (.int p2), .val (.int p3), .val (.int p4), .val (.int p5), .val (.int (own_pp p0)), .val (.int (own_p2 p0)), .val (.int (own_p3 p0)), .val (.int (own_q p1)), .val (.int (own_q p2)), .val (.int (own_q p3)), .val (.int fr), .val (.int x), .val (.ref b1), .val (.int r10_r), .val (.int x1), .val (.int x2), .val (.int (own_q p3)), .val (.int (f9 (0 : Int32) z1 (own_pp p0)))] [(.int (f9 (0 : Int32) z1 (own_pp p0)))])) t
          refine XS.iload X13.here hx rfl (hb hby at_233) rfl ?_
          show Steps p.tables e below (T13.setTop (mkF m 235 #[.val (.int p0), .val (.int p1), .val (.int p2), .val (.int p3), .val (.int p4), .val (.int p5), .val (.int (own_pp p0)), .val (.int (own_p2 p0)), .val (.int (own_p3 p0)), .val (.int (own_q p1)), .val (.int (own_q p2)), .val (.int (own_q p3)), .val (.int fr), .val (.int x), .val (.ref b1), .val (.int r10_r), .val (.int x1), .val (.int x2), .val (.int (own_q p3)), .val (.int (f9 (0 : Int32) z1 (own_pp p0)))] [(.int x2), (.int (f9 (0 : Int32) z1 (own_pp p0)))])) t
          refine XS.iload X13.here hx rfl (hb hby at_235) rfl ?_
          exact kt
        by_cases hc237 : x2 < x
        · refine OGo.step (F' := T13.setTop (mkF m 244 #[.val (.int p0), .val (.int p1), .val (.int p2), .val (.int p3), .val (.int p4), .val (.int p5), .val (.int (own_pp p0)), .val (.int (own_p2 p0)), .val (.int (own_p3 p0)), .val (.int (own_q p1)), .val (.int (own_q p2)), .val (.int (own_q p3)), .val (.int fr), .val (.int x), .val (.ref b1), .val (.int r10_r), .val (.int x1), .val (.int x2), .val (.int (own_q p3)), .val (.int (f9 (0 : Int32) z1 (own_pp p0)))] [(.int (f9 (0 : Int32) z1 (own_pp p0)))])) (fun t kt => ?_) ?_
          · show Steps p.tables e below (T13.setTop (mkF m 237 #[.val (.int p0), .val (.int p1), .val (.int p2), .val (.int p3), .val (.int p4), .val (.int p5), .val (.int (own_pp p0)), .val (.int (own_p2 p0)), .val (.int (own_p3 p0)), .val (.int (own_q p1)), .val (.int (own_q p2)), .val (.int (own_q p3)), .val (.int fr), .val (.int x), .val (.ref b1), .val (.int r10_r), .val (.int x1), .val (.int x2), .val (.int (own_q p3)), .val (.int (f9 (0 : Int32) z1 (own_pp p0)))] [(.int x), (.int x2), (.int (f9 (0 : Int32) z1 (own_pp p0)))])) t
            refine XS.icmpYes X13.here hx rfl (pc0 := 237) (pc' := 244) rfl (hb hby at_237) rfl (tlt hc237).1 (by decide) (by decide) ?_
            exact kt
          refine OGo.step (F' := T13.setTop (mkF m 247 #[.val (.int p0), .val (.int p1), .val (.int p2), .val (.int p3), .val (.int p4), .val (.int p5), .val (.int (own_pp p0)), .val (.int (own_p2 p0)), .val (.int (own_p3 p0)), .val (.int (own_q p1)), .val (.int (own_q p2)), .val (.int (own_q p3)), .val (.int fr), .val (.int x), .val (.ref b1), .val (.int r10_r), .val (.int x1), .val (.int x2), .val (.int (own_q p3)), .val (.int (f9 (0 : Int32) z1 (own_pp p0)))] [(.int (own_p2 p0)), (.int (0 : Int32)), (.int (f9 (0 : Int32) z1 (own_pp p0)))])) (fun t kt => ?_) ?_
          · show Steps p.tables e below (T13.setTop (mkF m 244 #[.val (.int p0), .val (.int p1), .val (.int p2), .val (.int p3), .val (.int p4), .val (.int p5), .val (.int (own_pp p0)), .val (.int (own_p2 p0)), .val (.int (own_p3 p0)), .val (.int (own_q p1)), .val (.int (own_q p2)), .val (.int (own_q p3)), .val (.int fr), .val (.int x), .val (.ref b1), .val (.int r10_r), .val (.int x1), .val (.int x2), .val (.int (own_q p3)), .val (.int (f9 (0 : Int32) z1 (own_pp p0)))] [(.int (f9 (0 : Int32) z1 (own_pp p0)))])) t
            refine XS.iconst X13.here hx rfl (hb hby at_244) ?_
            show Steps p.tables e below (T13.setTop (mkF m 245 #[.val (.int p0), .val (.int p1), .val (.int p2), .val (.int p3), .val (.int p4), .val (.int p5), .val (.int (own_pp p0)), .val (.int (own_p2 p0)), .val (.int (own_p3 p0)), .val (.int (own_q p1)), .val (.int (own_q p2)), .val (.int (own_q p3)), .val (.int fr), .val (.int x), .val (.ref b1), .val (.int r10_r), .val (.int x1), .val (.int x2), .val (.int (own_q p3)), .val (.int (f9 (0 : Int32) z1 (own_pp p0)))] [(.int (0 : Int32)), (.int (f9 (0 : Int32) z1 (own_pp p0)))])) t
            refine XS.iload X13.here hx rfl (hb hby at_245) rfl ?_
            exact kt
          exact J247 _ _ _ _ T13 _ X13 e13 N13 he1 he2 hk1 (Or.inr ⟨rfl, Or.inr hc237⟩)
        · refine OGo.step (F' := T13.setTop (mkF m 240 #[.val (.int p0), .val (.int p1), .val (.int p2), .val (.int p3), .val (.int p4), .val (.int p5), .val (.int (own_pp p0)), .val (.int (own_p2 p0)), .val (.int (own_p3 p0)), .val (.int (own_q p1)), .val (.int (own_q p2)), .val (.int (own_q p3)), .val (.int fr), .val (.int x), .val (.ref b1), .val (.int r10_r), .val (.int x1), .val (.int x2), .val (.int (own_q p3)), .val (.int (f9 (0 : Int32) z1 (own_pp p0)))] [(.int (f9 (0 : Int32) z1 (own_pp p0)))])) (fun t kt => ?_) ?_
          · show Steps p.tables e below (T13.setTop (mkF m 237 #[.val (.int p0), .val (.int p1), .val (.int p2), .val (.int p3), .val (.int p4), .val (.int p5), .val (.int (own_pp p0)), .val (.int (own_p2 p0)), .val (.int (own_p3 p0)), .val (.int (own_q p1)), .val (.int (own_q p2)), .val (.int (own_q p3)), .val (.int fr), .val (.int x), .val (.ref b1), .val (.int r10_r), .val (.int x1), .val (.int x2), .val (.int (own_q p3)), .val (.int (f9 (0 : Int32) z1 (own_pp p0)))] [(.int x), (.int x2), (.int (f9 (0 : Int32) z1 (own_pp p0)))])) t
            refine XS.icmpNo X13.here hx rfl (hb hby at_237) rfl (flt hc237).1 ?_
            exact kt
          refine OGo.step (F' := T13.setTop (mkF m 247 #[.val (.int p0), .val (.int p1), .val (.int p2), .val (.int p3), .val (.int p4), .val (.int p5), .val (.int (own_pp p0)), .val (.int (own_p2 p0)), .val (.int (own_p3 p0)), .val (.int (own_q p1)), .val (.int (own_q p2)), .val (.int (own_q p3)), .val (.int fr), .val (.int x), .val (.ref b1), .val (.int r10_r), .val (.int x1), .val (.int x2), .val (.int (own_q p3)), .val (.int (f9 (0 : Int32) z1 (own_pp p0)))] [(.int (own_p2 p0)), (.int (1 : Int32)), (.int (f9 (0 : Int32) z1 (own_pp p0)))])) (fun t kt => ?_) ?_
          · show Steps p.tables e below (T13.setTop (mkF m 240 #[.val (.int p0), .val (.int p1), .val (.int p2), .val (.int p3), .val (.int p4), .val (.int p5), .val (.int (own_pp p0)), .val (.int (own_p2 p0)), .val (.int (own_p3 p0)), .val (.int (own_q p1)), .val (.int (own_q p2)), .val (.int (own_q p3)), .val (.int fr), .val (.int x), .val (.ref b1), .val (.int r10_r), .val (.int x1), .val (.int x2), .val (.int (own_q p3)), .val (.int (f9 (0 : Int32) z1 (own_pp p0)))] [(.int (f9 (0 : Int32) z1 (own_pp p0)))])) t
            refine XS.iconst X13.here hx rfl (hb hby at_240) ?_
            show Steps p.tables e below (T13.setTop (mkF m 241 #[.val (.int p0), .val (.int p1), .val (.int p2), .val (.int p3), .val (.int p4), .val (.int p5), .val (.int (own_pp p0)), .val (.int (own_p2 p0)), .val (.int (own_p3 p0)), .val (.int (own_q p1)), .val (.int (own_q p2)), .val (.int (own_q p3)), .val (.int fr), .val (.int x), .val (.ref b1), .val (.int r10_r), .val (.int x1), .val (.int x2), .val (.int (own_q p3)), .val (.int (f9 (0 : Int32) z1 (own_pp p0)))] [(.int (1 : Int32)), (.int (f9 (0 : Int32) z1 (own_pp p0)))])) t
            refine XS.goto X13.here hx rfl (pc0 := 241) (pc' := 245) rfl (hb hby at_241) (by decide) (by decide) ?_
            show Steps p.tables e below (T13.setTop (mkF m 245 #[.val (.int p0), .val (.int p1), .val (.int p2), .val (.int p3), .val (.int p4), .val (.int p5), .val (.int (own_pp p0)), .val (.int (own_p2 p0)), .val (.int (own_p3 p0)), .val (.int (own_q p1)), .val (.int (own_q p2)), .val (.int (own_q p3)), .val (.int fr), .val (.int x), .val (.ref b1), .val (.int r10_r), .val (.int x1), .val (.int x2), .val (.int (own_q p3)), .val (.int (f9 (0 : Int32) z1 (own_pp p0)))] [(.int (1 : Int32)), (.int (f9 (0 : Int32) z1 (own_pp p0)))])) t
            refine XS.iload X13.here hx rfl (hb hby at_245) rfl ?_
            exact kt
          exact J247 _ _ _ _ T13 _ X13 e13 N13 he1 he2 hk1 (Or.inl ⟨rfl, hc230, hc237⟩)
    have J189 : ∀ (x1 x2 : Int32) (T0 : State) (locs : List Loc), Stand p l e room_1 s m #[(.int p0), (.int p1), (.int p2), (.int p3), (.int p4), (.int p5)] below meth c T0 locs 5 772 → T0.heap = T10.heap → Fr n0 locs → (x1 = if (own_p3 p0) = (own_pp p0) then (own_q p3) else if (own_p2 p0) = (own_pp p0) then (own_q p2) else (own_q p1)) → (x2 = if (own_p3 p0) = (own_p2 p0) then (own_q p3) else (own_q p2)) → OGo p e below s (Q0 Z p0 p1 p2 p3 p4 p5 h0 n0) room_1.cells room_1.slots (T0.setTop (mkF m 189 #[.val (.int p0), .val (.int p1), .val (.int p2), .val (.int p3), .val (.int p4), .val (.int p5), .val (.int (own_pp p0)), .val (.int (own_p2 p0)), .val (.int (own_p3 p0)), .val (.int (own_q p1)), .val (.int (own_q p2)), .val (.int (own_q p3)), .val (.int fr), .val (.int x), .val (.ref b1), .val (.int r10_r), .val (.int x1), .val (.int x2), .unset, .unset] [])) := by
      intro x1 x2 T0 locs Xj ej Nj he1 he2
      refine OGo.step (F' := T0.setTop (mkF m 202 #[.val (.int p0), .val (.int p1), .val (.int p2), .val (.int p3), .val (.int p4), .val (.int p5), .val (.int (own_pp p0)), .val (.int (own_p2 p0)), .val (.int (own_p3 p0)), .val (.int (own_q p1)), .val (.int (own_q p2)), .val (.int (own_q p3)), .val (.int fr), .val (.int x), .val (.ref b1), .val (.int r10_r), .val (.int x1), .val (.int x2), .val (.int (own_q p3)), .val (.int (0 : Int32))] [(.int fr), (.int (own_pp p0)), (.int (0 : Int32))])) (fun t kt => ?_) ?_
      · show Steps p.tables e below (T0.setTop (mkF m 189 #[.val (.int p0), .val (.int p1), .val (.int p2), .val (.int p3), .val (.int p4), .val (.int p5), .val (.int (own_pp p0)), .val (.int (own_p2 p0)), .val (.int (own_p3 p0)), .val (.int (own_q p1)), .val (.int (own_q p2)), .val (.int (own_q p3)), .val (.int fr), .val (.int x), .val (.ref b1), .val (.int r10_r), .val (.int x1), .val (.int x2), .unset, .unset] [])) t
        refine XS.iload Xj.here hx rfl (hb hby at_189) rfl ?_
        show Steps p.tables e below (T0.setTop (mkF m 191 #[.val (.int p0), .val (.int p1), .val (.int p2), .val (.int p3), .val (.int p4), .val (.int p5), .val (.int (own_pp p0)), .val (.int (own_p2 p0)), .val (.int (own_p3 p0)), .val (.int (own_q p1)), .val (.int (own_q p2)), .val (.int (own_q p3)), .val (.int fr), .val (.int x), .val (.ref b1), .val (.int r10_r), .val (.int x1), .val (.int x2), .unset, .unset] [(.int (own_q p3))])) t
        refine XS.istore Xj.here hx rfl (hb hby at_191) rfl (l' := #[.val (.int p0), .val (.int p1), .val (.int p2), .val (.int p3), .val (.int p4), .val (.int p5), .val (.int (own_pp p0)), .val (.int (own_p2 p0)), .val (.int (own_p3 p0)), .val (.int (own_q p1)), .val (.int (own_q p2)), .val (.int (own_q p3)), .val (.int fr), .val (.int x), .val (.ref b1), .val (.int r10_r), .val (.int x1), .val (.int x2), .val (.int (own_q p3)), .unset]) rfl ?_
        show Steps p.tables e below (T0.setTop (mkF m 193 #[.val (.int p0), .val (.int p1), .val (.int p2), .val (.int p3), .val (.int p4), .val (.int p5), .val (.int (own_pp p0)), .val (.int (own_p2 p0)), .val (.int (own_p3 p0)), .val (.int (own_q p1)), .val (.int (own_q p2)), .val (.int (own_q p3)), .val (.int fr), .val (.int x), .val (.ref b1), .val (.int r10_r), .val (.int x1), .val (.int x2), .val (.int (own_q p3)), .unset] [])) t
        refine XS.iconst Xj.here hx rfl (hb hby at_193) ?_
        show Steps p.tables e below (T0.setTop (mkF m 194 #[.val (.int p0), .val (.int p1), .val (.int p2), .val (.int p3), .val (.int p4), .val (.int p5), .val (.int (own_pp p0)), .val (.int (own_p2 p0)), .val (.int (own_p3 p0)), .val (.int (own_q p1)), .val (.int (own_q p2)), .val (.int (own_q p3)), .val (.int fr), .val (.int x), .val (.ref b1), .val (.int r10_r), .val (.int x1), .val (.int x2), .val (.int (own_q p3)), .unset] [(.int (0 : Int32))])) t
        refine XS.istore Xj.here hx rfl (hb hby at_194) rfl (l' := #[.val (.int p0), .val (.int p1), .val (.int p2), .val (.int p3), .val (.int p4), .val (.int p5), .val (.int (own_pp p0)), .val (.int (own_p2 p0)), .val (.int (own_p3 p0)), .val (.int (own_q p1)), .val (.int (own_q p2)), .val (.int (own_q p3)), .val (.int fr), .val (.int x), .val (.ref b1), .val (.int r10_r), .val (.int x1), .val (.int x2), .val (.int (own_q p3)), .val (.int (0 : Int32))]) rfl ?_
        show Steps p.tables e below (T0.setTop (mkF m 196 #[.val (.int p0), .val (.int p1), .val (.int p2), .val (.int p3), .val (.int p4), .val (.int p5), .val (.int (own_pp p0)), .val (.int (own_p2 p0)), .val (.int (own_p3 p0)), .val (.int (own_q p1)), .val (.int (own_q p2)), .val (.int (own_q p3)), .val (.int fr), .val (.int x), .val (.ref b1), .val (.int r10_r), .val (.int x1), .val (.int x2), .val (.int (own_q p3)), .val (.int (0 : Int32))] [])) t
        refine XS.iload Xj.here hx rfl (hb hby at_196) rfl ?_
        show Steps p.tables e below (T0.setTop (mkF m 198 #[.val (.int p0), .val (.int p1), .val (.int p2), .val (.int p3), .val (.int p4), .val (.int p5), .val (.int (own_pp p0)), .val (.int (own_p2 p0)), .val (.int (own_p3 p0)), .val (.int (own_q p1)), .val (.int (own_q p2)), .val (.int (own_q p3)), .val (.int fr), .val (.int x), .val (.ref b1), .val (.int r10_r), .val (.int x1), .val (.int x2), .val (.int (own_q p3)), .val (.int (0 : Int32))] [(.int (0 : Int32))])) t
        refine XS.iload Xj.here hx rfl (hb hby at_198) rfl ?_
        show Steps p.tables e below (T0.setTop (mkF m 200 #[.val (.int p0), .val (.int p1), .val (.int p2), .val (.int p3), .val (.int p4), .val (.int p5), .val (.int (own_pp p0)), .val (.int (own_p2 p0)), .val (.int (own_p3 p0)), .val (.int (own_q p1)), .val (.int (own_q p2)), .val (.int (own_q p3)), .val (.int fr), .val (.int x), .val (.ref b1), .val (.int r10_r), .val (.int x1), .val (.int x2), .val (.int (own_q p3)), .val (.int (0 : Int32))] [(.int (own_pp p0)), (.int (0 : Int32))])) t
        refine XS.iload Xj.here hx rfl (hb hby at_200) rfl ?_
        exact kt
      by_cases hc202 : (own_pp p0) < fr
      · refine OGo.step (F' := T0.setTop (mkF m 216 #[.val (.int p0), .val (.int p1), .val (.int p2), .val (.int p3), .val (.int p4), .val (.int p5), .val (.int (own_pp p0)), .val (.int (own_p2 p0)), .val (.int (own_p3 p0)), .val (.int (own_q p1)), .val (.int (own_q p2)), .val (.int (own_q p3)), .val (.int fr), .val (.int x), .val (.ref b1), .val (.int r10_r), .val (.int x1), .val (.int x2), .val (.int (own_q p3)), .val (.int (0 : Int32))] [(.int (0 : Int32))])) (fun t kt => ?_) ?_
        · show Steps p.tables e below (T0.setTop (mkF m 202 #[.val (.int p0), .val (.int p1), .val (.int p2), .val (.int p3), .val (.int p4), .val (.int p5), .val (.int (own_pp p0)), .val (.int (own_p2 p0)), .val (.int (own_p3 p0)), .val (.int (own_q p1)), .val (.int (own_q p2)), .val (.int (own_q p3)), .val (.int fr), .val (.int x), .val (.ref b1), .val (.int r10_r), .val (.int x1), .val (.int x2), .val (.int (own_q p3)), .val (.int (0 : Int32))] [(.int fr), (.int (own_pp p0)), (.int (0 : Int32))])) t
          refine XS.icmpYes Xj.here hx rfl (pc0 := 202) (pc' := 216) rfl (hb hby at_202) rfl (tlt hc202).1 (by decide) (by decide) ?_
          exact kt
        refine OGo.step (F' := T0.setTop (mkF m 219 #[.val (.int p0), .val (.int p1), .val (.int p2), .val (.int p3), .val (.int p4), .val (.int p5), .val (.int (own_pp p0)), .val (.int (own_p2 p0)), .val (.int (own_p3 p0)), .val (.int (own_q p1)), .val (.int (own_q p2)), .val (.int (own_q p3)), .val (.int fr), .val (.int x), .val (.ref b1), .val (.int r10_r), .val (.int x1), .val (.int x2), .val (.int (own_q p3)), .val (.int (0 : Int32))] [(.int (own_pp p0)), (.int (0 : Int32)), (.int (0 : Int32))])) (fun t kt => ?_) ?_
        · show Steps p.tables e below (T0.setTop (mkF m 216 #[.val (.int p0), .val (.int p1), .val (.int p2), .val (.int p3), .val (.int p4), .val (.int p5), .val (.int (own_pp p0)), .val (.int (own_p2 p0)), .val (.int (own_p3 p0)), .val (.int (own_q p1)), .val (.int (own_q p2)), .val (.int (own_q p3)), .val (.int fr), .val (.int x), .val (.ref b1), .val (.int r10_r), .val (.int x1), .val (.int x2), .val (.int (own_q p3)), .val (.int (0 : Int32))] [(.int (0 : Int32))])) t
          refine XS.iconst Xj.here hx rfl (hb hby at_216) ?_
          show Steps p.tables e below (T0.setTop (mkF m 217 #[.val (.int p0), .val (.int p1), .val (.int p2), .val (.int p3), .val (.int p4), .val (.int p5), .val (.int (own_pp p0)), .val (.int (own_p2 p0)), .val (.int (own_p3 p0)), .val (.int (own_q p1)), .val (.int (own_q p2)), .val (.int (own_q p3)), .val (.int fr), .val (.int x), .val (.ref b1), .val (.int r10_r), .val (.int x1), .val (.int x2), .val (.int (own_q p3)), .val (.int (0 : Int32))] [(.int (0 : Int32)), (.int (0 : Int32))])) t
          refine XS.iload Xj.here hx rfl (hb hby at_217) rfl ?_
          exact kt
        exact J219 _ _ _ T0 _ Xj ej Nj he1 he2 (Or.inr ⟨rfl, Or.inl hc202⟩)
      · refine OGo.step (F' := T0.setTop (mkF m 205 #[.val (.int p0), .val (.int p1), .val (.int p2), .val (.int p3), .val (.int p4), .val (.int p5), .val (.int (own_pp p0)), .val (.int (own_p2 p0)), .val (.int (own_p3 p0)), .val (.int (own_q p1)), .val (.int (own_q p2)), .val (.int (own_q p3)), .val (.int fr), .val (.int x), .val (.ref b1), .val (.int r10_r), .val (.int x1), .val (.int x2), .val (.int (own_q p3)), .val (.int (0 : Int32))] [(.int (0 : Int32))])) (fun t kt => ?_) ?_
        · show Steps p.tables e below (T0.setTop (mkF m 202 #[.val (.int p0), .val (.int p1), .val (.int p2), .val (.int p3), .val (.int p4), .val (.int p5), .val (.int (own_pp p0)), .val (.int (own_p2 p0)), .val (.int (own_p3 p0)), .val (.int (own_q p1)), .val (.int (own_q p2)), .val (.int (own_q p3)), .val (.int fr), .val (.int x), .val (.ref b1), .val (.int r10_r), .val (.int x1), .val (.int x2), .val (.int (own_q p3)), .val (.int (0 : Int32))] [(.int fr), (.int (own_pp p0)), (.int (0 : Int32))])) t
          refine XS.icmpNo Xj.here hx rfl (hb hby at_202) rfl (flt hc202).1 ?_
          exact kt
        refine OGo.step (F' := T0.setTop (mkF m 209 #[.val (.int p0), .val (.int p1), .val (.int p2), .val (.int p3), .val (.int p4), .val (.int p5), .val (.int (own_pp p0)), .val (.int (own_p2 p0)), .val (.int (own_p3 p0)), .val (.int (own_q p1)), .val (.int (own_q p2)), .val (.int (own_q p3)), .val (.int fr), .val (.int x), .val (.ref b1), .val (.int r10_r), .val (.int x1), .val (.int x2), .val (.int (own_q p3)), .val (.int (0 : Int32))] [(.int x), (.int x1), (.int (0 : Int32))])) (fun t kt => ?_) ?_
        · show Steps p.tables e below (T0.setTop (mkF m 205 #[.val (.int p0), .val (.int p1), .val (.int p2), .val (.int p3), .val (.int p4), .val (.int p5), .val (.int (own_pp p0)), .val (.int (own_p2 p0)), .val (.int (own_p3 p0)), .val (.int (own_q p1)), .val (.int (own_q p2)), .val (.int (own_q p3)), .val (.int fr), .val (.int x), .val (.ref b1), .val (.int r10_r), .val (.int x1), .val (.int x2), .val (.int (own_q p3)), .val (.int (0 : Int32))] [(.int (0 : Int32))])) t
          refine XS.iload Xj.here hx rfl (hb hby at_205) rfl ?_
          show Steps p.tables e below (T0.setTop (mkF m 207 #[.val (.int p0), .val (.int p1), .val (.int p2), .val (.int p3), .val (.int p4), .val (.int p5), .val (.int (own_pp p0)), .val (.int (own_p2 p0)), .val (.int (own_p3 p0)), .val (.int (own_q p1)), .val (.int (own_q p2)), .val (.int (own_q p3)), .val (.int fr), .val (.int x), .val (.ref b1), .val (.int r10_r), .val (.int x1), .val (.int x2), .val (.int (own_q p3)), .val (.int (0 : Int32))] [(.int x1), (.int (0 : Int32))])) t
          refine XS.iload Xj.here hx rfl (hb hby at_207) rfl ?_
          exact kt
        by_cases hc209 : x1 < x
        · refine OGo.step (F' := T0.setTop (mkF m 216 #[.val (.int p0), .val (.int p1), .val (.int p2), .val (.int p3), .val (.int p4), .val (.int p5), .val (.int (own_pp p0)), .val (.int (own_p2 p0)), .val (.int (own_p3 p0)), .val (.int (own_q p1)), .val (.int (own_q p2)), .val (.int (own_q p3)), .val (.int fr), .val (.int x), .val (.ref b1), .val (.int r10_r), .val (.int x1), .val (.int x2), .val (.int (own_q p3)), .val (.int (0 : Int32))] [(.int (0 : Int32))])) (fun t kt => ?_) ?_
          · show Steps p.tables e below (T0.setTop (mkF m 209 #[.val (.int p0), .val (.int p1), .val (.int p2), .val (.int p3), .val (.int p4), .val (.int p5), .val (.int (own_pp p0)), .val (.int (own_p2 p0)), .val (.int (own_p3 p0)), .val (.int (own_q p1)), .val (.int (own_q p2)), .val (.int (own_q p3)), .val (.int fr), .val (.int x), .val (.ref b1), .val (.int r10_r), .val (.int x1), .val (.int x2), .val (.int (own_q p3)), .val (.int (0 : Int32))] [(.int x), (.int x1), (.int (0 : Int32))])) t
            refine XS.icmpYes Xj.here hx rfl (pc0 := 209) (pc' := 216) rfl (hb hby at_209) rfl (tlt hc209).1 (by decide) (by decide) ?_
            exact kt
          refine OGo.step (F' := T0.setTop (mkF m 219 #[.val (.int p0), .val (.int p1), .val (.int p2), .val (.int p3), .val (.int p4), .val (.int p5), .val (.int (own_pp p0)), .val (.int (own_p2 p0)), .val (.int (own_p3 p0)), .val (.int (own_q p1)), .val (.int (own_q p2)), .val (.int (own_q p3)), .val (.int fr), .val (.int x), .val (.ref b1), .val (.int r10_r), .val (.int x1), .val (.int x2), .val (.int (own_q p3)), .val (.int (0 : Int32))] [(.int (own_pp p0)), (.int (0 : Int32)), (.int (0 : Int32))])) (fun t kt => ?_) ?_
          · show Steps p.tables e below (T0.setTop (mkF m 216 #[.val (.int p0), .val (.int p1), .val (.int p2), .val (.int p3), .val (.int p4), .val (.int p5), .val (.int (own_pp p0)), .val (.int (own_p2 p0)), .val (.int (own_p3 p0)), .val (.int (own_q p1)), .val (.int (own_q p2)), .val (.int (own_q p3)), .val (.int fr), .val (.int x), .val (.ref b1), .val (.int r10_r), .val (.int x1), .val (.int x2), .val (.int (own_q p3)), .val (.int (0 : Int32))] [(.int (0 : Int32))])) t
            refine XS.iconst Xj.here hx rfl (hb hby at_216) ?_
            show Steps p.tables e below (T0.setTop (mkF m 217 #[.val (.int p0), .val (.int p1), .val (.int p2), .val (.int p3), .val (.int p4), .val (.int p5), .val (.int (own_pp p0)), .val (.int (own_p2 p0)), .val (.int (own_p3 p0)), .val (.int (own_q p1)), .val (.int (own_q p2)), .val (.int (own_q p3)), .val (.int fr), .val (.int x), .val (.ref b1), .val (.int r10_r), .val (.int x1), .val (.int x2), .val (.int (own_q p3)), .val (.int (0 : Int32))] [(.int (0 : Int32)), (.int (0 : Int32))])) t
            refine XS.iload Xj.here hx rfl (hb hby at_217) rfl ?_
            exact kt
          exact J219 _ _ _ T0 _ Xj ej Nj he1 he2 (Or.inr ⟨rfl, Or.inr hc209⟩)
        · refine OGo.step (F' := T0.setTop (mkF m 212 #[.val (.int p0), .val (.int p1), .val (.int p2), .val (.int p3), .val (.int p4), .val (.int p5), .val (.int (own_pp p0)), .val (.int (own_p2 p0)), .val (.int (own_p3 p0)), .val (.int (own_q p1)), .val (.int (own_q p2)), .val (.int (own_q p3)), .val (.int fr), .val (.int x), .val (.ref b1), .val (.int r10_r), .val (.int x1), .val (.int x2), .val (.int (own_q p3)), .val (.int (0 : Int32))] [(.int (0 : Int32))])) (fun t kt => ?_) ?_
          · show Steps p.tables e below (T0.setTop (mkF m 209 #[.val (.int p0), .val (.int p1), .val (.int p2), .val (.int p3), .val (.int p4), .val (.int p5), .val (.int (own_pp p0)), .val (.int (own_p2 p0)), .val (.int (own_p3 p0)), .val (.int (own_q p1)), .val (.int (own_q p2)), .val (.int (own_q p3)), .val (.int fr), .val (.int x), .val (.ref b1), .val (.int r10_r), .val (.int x1), .val (.int x2), .val (.int (own_q p3)), .val (.int (0 : Int32))] [(.int x), (.int x1), (.int (0 : Int32))])) t
            refine XS.icmpNo Xj.here hx rfl (hb hby at_209) rfl (flt hc209).1 ?_
            exact kt
          refine OGo.step (F' := T0.setTop (mkF m 219 #[.val (.int p0), .val (.int p1), .val (.int p2), .val (.int p3), .val (.int p4), .val (.int p5), .val (.int (own_pp p0)), .val (.int (own_p2 p0)), .val (.int (own_p3 p0)), .val (.int (own_q p1)), .val (.int (own_q p2)), .val (.int (own_q p3)), .val (.int fr), .val (.int x), .val (.ref b1), .val (.int r10_r), .val (.int x1), .val (.int x2), .val (.int (own_q p3)), .val (.int (0 : Int32))] [(.int (own_pp p0)), (.int (1 : Int32)), (.int (0 : Int32))])) (fun t kt => ?_) ?_
          · show Steps p.tables e below (T0.setTop (mkF m 212 #[.val (.int p0), .val (.int p1), .val (.int p2), .val (.int p3), .val (.int p4), .val (.int p5), .val (.int (own_pp p0)), .val (.int (own_p2 p0)), .val (.int (own_p3 p0)), .val (.int (own_q p1)), .val (.int (own_q p2)), .val (.int (own_q p3)), .val (.int fr), .val (.int x), .val (.ref b1), .val (.int r10_r), .val (.int x1), .val (.int x2), .val (.int (own_q p3)), .val (.int (0 : Int32))] [(.int (0 : Int32))])) t
            refine XS.iconst Xj.here hx rfl (hb hby at_212) ?_
            show Steps p.tables e below (T0.setTop (mkF m 213 #[.val (.int p0), .val (.int p1), .val (.int p2), .val (.int p3), .val (.int p4), .val (.int p5), .val (.int (own_pp p0)), .val (.int (own_p2 p0)), .val (.int (own_p3 p0)), .val (.int (own_q p1)), .val (.int (own_q p2)), .val (.int (own_q p3)), .val (.int fr), .val (.int x), .val (.ref b1), .val (.int r10_r), .val (.int x1), .val (.int x2), .val (.int (own_q p3)), .val (.int (0 : Int32))] [(.int (1 : Int32)), (.int (0 : Int32))])) t
            refine XS.goto Xj.here hx rfl (pc0 := 213) (pc' := 217) rfl (hb hby at_213) (by decide) (by decide) ?_
            show Steps p.tables e below (T0.setTop (mkF m 217 #[.val (.int p0), .val (.int p1), .val (.int p2), .val (.int p3), .val (.int p4), .val (.int p5), .val (.int (own_pp p0)), .val (.int (own_p2 p0)), .val (.int (own_p3 p0)), .val (.int (own_q p1)), .val (.int (own_q p2)), .val (.int (own_q p3)), .val (.int fr), .val (.int x), .val (.ref b1), .val (.int r10_r), .val (.int x1), .val (.int x2), .val (.int (own_q p3)), .val (.int (0 : Int32))] [(.int (1 : Int32)), (.int (0 : Int32))])) t
            refine XS.iload Xj.here hx rfl (hb hby at_217) rfl ?_
            exact kt
          exact J219 _ _ _ T0 _ Xj ej Nj he1 he2 (Or.inl ⟨rfl, hc202, hc209⟩)
    have J173 : ∀ (x1 : Int32) (T0 : State) (locs : List Loc), Stand p l e room_1 s m #[(.int p0), (.int p1), (.int p2), (.int p3), (.int p4), (.int p5)] below meth c T0 locs 5 772 → T0.heap = T10.heap → Fr n0 locs → (x1 = if (own_p3 p0) = (own_pp p0) then (own_q p3) else if (own_p2 p0) = (own_pp p0) then (own_q p2) else (own_q p1)) → OGo p e below s (Q0 Z p0 p1 p2 p3 p4 p5 h0 n0) room_1.cells room_1.slots (T0.setTop (mkF m 173 #[.val (.int p0), .val (.int p1), .val (.int p2), .val (.int p3), .val (.int p4), .val (.int p5), .val (.int (own_pp p0)), .val (.int (own_p2 p0)), .val (.int (own_p3 p0)), .val (.int (own_q p1)), .val (.int (own_q p2)), .val (.int (own_q p3)), .val (.int fr), .val (.int x), .val (.ref b1), .val (.int r10_r), .val (.int x1), .unset, .unset, .unset] [])) := by
      intro x1 T0 locs Xj ej Nj he1
      refine OGo.step (F' := T0.setTop (mkF m 177 #[.val (.int p0), .val (.int p1), .val (.int p2), .val (.int p3), .val (.int p4), .val (.int p5), .val (.int (own_pp p0)), .val (.int (own_p2 p0)), .val (.int (own_p3 p0)), .val (.int (own_q p1)), .val (.int (own_q p2)), .val (.int (own_q p3)), .val (.int fr), .val (.int x), .val (.ref b1), .val (.int r10_r), .val (.int x1), .unset, .unset, .unset] [(.int (own_p2 p0)), (.int (own_p3 p0))])) (fun t kt => ?_) ?_
      · show Steps p.tables e below (T0.setTop (mkF m 173 #[.val (.int p0), .val (.int p1), .val (.int p2), .val (.int p3), .val (.int p4), .val (.int p5), .val (.int (own_pp p0)), .val (.int (own_p2 p0)), .val (.int (own_p3 p0)), .val (.int (own_q p1)), .val (.int (own_q p2)), .val (.int (own_q p3)), .val (.int fr), .val (.int x), .val (.ref b1), .val (.int r10_r), .val (.int x1), .unset, .unset, .unset] [])) t
        refine XS.iload Xj.here hx rfl (hb hby at_173) rfl ?_
        show Steps p.tables e below (T0.setTop (mkF m 175 #[.val (.int p0), .val (.int p1), .val (.int p2), .val (.int p3), .val (.int p4), .val (.int p5), .val (.int (own_pp p0)), .val (.int (own_p2 p0)), .val (.int (own_p3 p0)), .val (.int (own_q p1)), .val (.int (own_q p2)), .val (.int (own_q p3)), .val (.int fr), .val (.int x), .val (.ref b1), .val (.int r10_r), .val (.int x1), .unset, .unset, .unset] [(.int (own_p3 p0))])) t
        refine XS.iload Xj.here hx rfl (hb hby at_175) rfl ?_
        exact kt
      by_cases hc177 : (own_p3 p0) = (own_p2 p0)
      · refine OGo.step (F' := T0.setTop (mkF m 180 #[.val (.int p0), .val (.int p1), .val (.int p2), .val (.int p3), .val (.int p4), .val (.int p5), .val (.int (own_pp p0)), .val (.int (own_p2 p0)), .val (.int (own_p3 p0)), .val (.int (own_q p1)), .val (.int (own_q p2)), .val (.int (own_q p3)), .val (.int fr), .val (.int x), .val (.ref b1), .val (.int r10_r), .val (.int x1), .unset, .unset, .unset] [])) (fun t kt => ?_) ?_
        · show Steps p.tables e below (T0.setTop (mkF m 177 #[.val (.int p0), .val (.int p1), .val (.int p2), .val (.int p3), .val (.int p4), .val (.int p5), .val (.int (own_pp p0)), .val (.int (own_p2 p0)), .val (.int (own_p3 p0)), .val (.int (own_q p1)), .val (.int (own_q p2)), .val (.int (own_q p3)), .val (.int fr), .val (.int x), .val (.ref b1), .val (.int r10_r), .val (.int x1), .unset, .unset, .unset] [(.int (own_p2 p0)), (.int (own_p3 p0))])) t
          refine XS.icmpNo Xj.here hx rfl (hb hby at_177) rfl (teq hc177).2 ?_
          exact kt
        refine OGo.step (F' := T0.setTop (mkF m 189 #[.val (.int p0), .val (.int p1), .val (.int p2), .val (.int p3), .val (.int p4), .val (.int p5), .val (.int (own_pp p0)), .val (.int (own_p2 p0)), .val (.int (own_p3 p0)), .val (.int (own_q p1)), .val (.int (own_q p2)), .val (.int (own_q p3)), .val (.int fr), .val (.int x), .val (.ref b1), .val (.int r10_r), .val (.int x1), .val (.int (own_q p3)), .unset, .unset] [])) (fun t kt => ?_) ?_
        · show Steps p.tables e below (T0.setTop (mkF m 180 #[.val (.int p0), .val (.int p1), .val (.int p2), .val (.int p3), .val (.int p4), .val (.int p5), .val (.int (own_pp p0)), .val (.int (own_p2 p0)), .val (.int (own_p3 p0)), .val (.int (own_q p1)), .val (.int (own_q p2)), .val (.int (own_q p3)), .val (.int fr), .val (.int x), .val (.ref b1), .val (.int r10_r), .val (.int x1), .unset, .unset, .unset] [])) t
          refine XS.iload Xj.here hx rfl (hb hby at_180) rfl ?_
          show Steps p.tables e below (T0.setTop (mkF m 182 #[.val (.int p0), .val (.int p1), .val (.int p2), .val (.int p3), .val (.int p4), .val (.int p5), .val (.int (own_pp p0)), .val (.int (own_p2 p0)), .val (.int (own_p3 p0)), .val (.int (own_q p1)), .val (.int (own_q p2)), .val (.int (own_q p3)), .val (.int fr), .val (.int x), .val (.ref b1), .val (.int r10_r), .val (.int x1), .unset, .unset, .unset] [(.int (own_q p3))])) t
          refine XS.goto Xj.here hx rfl (pc0 := 182) (pc' := 187) rfl (hb hby at_182) (by decide) (by decide) ?_
          show Steps p.tables e below (T0.setTop (mkF m 187 #[.val (.int p0), .val (.int p1), .val (.int p2), .val (.int p3), .val (.int p4), .val (.int p5), .val (.int (own_pp p0)), .val (.int (own_p2 p0)), .val (.int (own_p3 p0)), .val (.int (own_q p1)), .val (.int (own_q p2)), .val (.int (own_q p3)), .val (.int fr), .val (.int x), .val (.ref b1), .val (.int r10_r), .val (.int x1), .unset, .unset, .unset] [(.int (own_q p3))])) t
          refine XS.istore Xj.here hx rfl (hb hby at_187) rfl (l' := #[.val (.int p0), .val (.int p1), .val (.int p2), .val (.int p3), .val (.int p4), .val (.int p5), .val (.int (own_pp p0)), .val (.int (own_p2 p0)), .val (.int (own_p3 p0)), .val (.int (own_q p1)), .val (.int (own_q p2)), .val (.int (own_q p3)), .val (.int fr), .val (.int x), .val (.ref b1), .val (.int r10_r), .val (.int x1), .val (.int (own_q p3)), .unset, .unset]) rfl ?_
          exact kt
        exact J189 _ _ T0 _ Xj ej Nj he1 (by rw [if_pos hc177])
      · refine OGo.step (F' := T0.setTop (mkF m 185 #[.val (.int p0), .val (.int p1), .val (.int p2), .val (.int p3), .val (.int p4), .val (.int p5), .val (.int (own_pp p0)), .val (.int (own_p2 p0)), .val (.int (own_p3 p0)), .val (.int (own_q p1)), .val (.int (own_q p2)), .val (.int (own_q p3)), .val (.int fr), .val (.int x), .val (.ref b1), .val (.int r10_r), .val (.int x1), .unset, .unset, .unset] [])) (fun t kt => ?_) ?_
        · show Steps p.tables e below (T0.setTop (mkF m 177 #[.val (.int p0), .val (.int p1), .val (.int p2), .val (.int p3), .val (.int p4), .val (.int p5), .val (.int (own_pp p0)), .val (.int (own_p2 p0)), .val (.int (own_p3 p0)), .val (.int (own_q p1)), .val (.int (own_q p2)), .val (.int (own_q p3)), .val (.int fr), .val (.int x), .val (.ref b1), .val (.int r10_r), .val (.int x1), .unset, .unset, .unset] [(.int (own_p2 p0)), (.int (own_p3 p0))])) t
          refine XS.icmpYes Xj.here hx rfl (pc0 := 177) (pc' := 185) rfl (hb hby at_177) rfl (feq hc177).2 (by decide) (by decide) ?_
          exact kt
        refine OGo.step (F' := T0.setTop (mkF m 189 #[.val (.int p0), .val (.int p1), .val (.int p2), .val (.int p3), .val (.int p4), .val (.int p5), .val (.int (own_pp p0)), .val (.int (own_p2 p0)), .val (.int (own_p3 p0)), .val (.int (own_q p1)), .val (.int (own_q p2)), .val (.int (own_q p3)), .val (.int fr), .val (.int x), .val (.ref b1), .val (.int r10_r), .val (.int x1), .val (.int (own_q p2)), .unset, .unset] [])) (fun t kt => ?_) ?_
        · show Steps p.tables e below (T0.setTop (mkF m 185 #[.val (.int p0), .val (.int p1), .val (.int p2), .val (.int p3), .val (.int p4), .val (.int p5), .val (.int (own_pp p0)), .val (.int (own_p2 p0)), .val (.int (own_p3 p0)), .val (.int (own_q p1)), .val (.int (own_q p2)), .val (.int (own_q p3)), .val (.int fr), .val (.int x), .val (.ref b1), .val (.int r10_r), .val (.int x1), .unset, .unset, .unset] [])) t
          refine XS.iload Xj.here hx rfl (hb hby at_185) rfl ?_
          show Steps p.tables e below (T0.setTop (mkF m 187 #[.val (.int p0), .val (.int p1), .val (.int p2), .val (.int p3), .val (.int p4), .val (.int p5), .val (.int (own_pp p0)), .val (.int (own_p2 p0)), .val (.int (own_p3 p0)), .val (.int (own_q p1)), .val (.int (own_q p2)), .val (.int (own_q p3)), .val (.int fr), .val (.int x), .val (.ref b1), .val (.int r10_r), .val (.int x1), .unset, .unset, .unset] [(.int (own_q p2))])) t
          refine XS.istore Xj.here hx rfl (hb hby at_187) rfl (l' := #[.val (.int p0), .val (.int p1), .val (.int p2), .val (.int p3), .val (.int p4), .val (.int p5), .val (.int (own_pp p0)), .val (.int (own_p2 p0)), .val (.int (own_p3 p0)), .val (.int (own_q p1)), .val (.int (own_q p2)), .val (.int (own_q p3)), .val (.int fr), .val (.int x), .val (.ref b1), .val (.int r10_r), .val (.int x1), .val (.int (own_q p2)), .unset, .unset]) rfl ?_
          exact kt
        exact J189 _ _ T0 _ Xj ej Nj he1 (by rw [if_neg hc177])
    refine OGo.step (F' := T10.setTop (mkF m 149 #[.val (.int p0), .val (.int p1), .val (.int p2), .val (.int p3), .val (.int p4), .val (.int p5), .val (.int (own_pp p0)), .val (.int (own_p2 p0)), .val (.int (own_p3 p0)), .val (.int (own_q p1)), .val (.int (own_q p2)), .val (.int (own_q p3)), .val (.int fr), .val (.int x), .val (.ref b1), .val (.int r10_r), .unset, .unset, .unset, .unset] [(.int (own_pp p0)), (.int (own_p3 p0))])) (fun t kt => ?_) ?_
    · show Steps p.tables e below (T10.setTop (mkF m 145 #[.val (.int p0), .val (.int p1), .val (.int p2), .val (.int p3), .val (.int p4), .val (.int p5), .val (.int (own_pp p0)), .val (.int (own_p2 p0)), .val (.int (own_p3 p0)), .val (.int (own_q p1)), .val (.int (own_q p2)), .val (.int (own_q p3)), .val (.int fr), .val (.int x), .val (.ref b1), .val (.int r10_r), .unset, .unset, .unset, .unset] [])) t
      refine XS.iload X10.here hx rfl (hb hby at_145) rfl ?_
      show Steps p.tables e below (T10.setTop (mkF m 147 #[.val (.int p0), .val (.int p1), .val (.int p2), .val (.int p3), .val (.int p4), .val (.int p5), .val (.int (own_pp p0)), .val (.int (own_p2 p0)), .val (.int (own_p3 p0)), .val (.int (own_q p1)), .val (.int (own_q p2)), .val (.int (own_q p3)), .val (.int fr), .val (.int x), .val (.ref b1), .val (.int r10_r), .unset, .unset, .unset, .unset] [(.int (own_p3 p0))])) t
      refine XS.iload X10.here hx rfl (hb hby at_147) rfl ?_
      exact kt
    by_cases hc149 : (own_p3 p0) = (own_pp p0)
    · refine OGo.step (F' := T10.setTop (mkF m 152 #[.val (.int p0), .val (.int p1), .val (.int p2), .val (.int p3), .val (.int p4), .val (.int p5), .val (.int (own_pp p0)), .val (.int (own_p2 p0)), .val (.int (own_p3 p0)), .val (.int (own_q p1)), .val (.int (own_q p2)), .val (.int (own_q p3)), .val (.int fr), .val (.int x), .val (.ref b1), .val (.int r10_r), .unset, .unset, .unset, .unset] [])) (fun t kt => ?_) ?_
      · show Steps p.tables e below (T10.setTop (mkF m 149 #[.val (.int p0), .val (.int p1), .val (.int p2), .val (.int p3), .val (.int p4), .val (.int p5), .val (.int (own_pp p0)), .val (.int (own_p2 p0)), .val (.int (own_p3 p0)), .val (.int (own_q p1)), .val (.int (own_q p2)), .val (.int (own_q p3)), .val (.int fr), .val (.int x), .val (.ref b1), .val (.int r10_r), .unset, .unset, .unset, .unset] [(.int (own_pp p0)), (.int (own_p3 p0))])) t
        refine XS.icmpNo X10.here hx rfl (hb hby at_149) rfl (teq hc149).2 ?_
        exact kt
      refine OGo.step (F' := T10.setTop (mkF m 173 #[.val (.int p0), .val (.int p1), .val (.int p2), .val (.int p3), .val (.int p4), .val (.int p5), .val (.int (own_pp p0)), .val (.int (own_p2 p0)), .val (.int (own_p3 p0)), .val (.int (own_q p1)), .val (.int (own_q p2)), .val (.int (own_q p3)), .val (.int fr), .val (.int x), .val (.ref b1), .val (.int r10_r), .val (.int (own_q p3)), .unset, .unset, .unset] [])) (fun t kt => ?_) ?_
      · show Steps p.tables e below (T10.setTop (mkF m 152 #[.val (.int p0), .val (.int p1), .val (.int p2), .val (.int p3), .val (.int p4), .val (.int p5), .val (.int (own_pp p0)), .val (.int (own_p2 p0)), .val (.int (own_p3 p0)), .val (.int (own_q p1)), .val (.int (own_q p2)), .val (.int (own_q p3)), .val (.int fr), .val (.int x), .val (.ref b1), .val (.int r10_r), .unset, .unset, .unset, .unset] [])) t
        refine XS.iload X10.here hx rfl (hb hby at_152) rfl ?_
        show Steps p.tables e below (T10.setTop (mkF m 154 #[.val (.int p0), .val (.int p1), .val (.int p2), .val (.int p3), .val (.int p4), .val (.int p5), .val (.int (own_pp p0)), .val (.int (own_p2 p0)), .val (.int (own_p3 p0)), .val (.int (own_q p1)), .val (.int (own_q p2)), .val (.int (own_q p3)), .val (.int fr), .val (.int x), .val (.ref b1), .val (.int r10_r), .unset, .unset, .unset, .unset] [(.int (own_q p3))])) t
        refine XS.goto X10.here hx rfl (pc0 := 154) (pc' := 171) rfl (hb hby at_154) (by decide) (by decide) ?_
        show Steps p.tables e below (T10.setTop (mkF m 171 #[.val (.int p0), .val (.int p1), .val (.int p2), .val (.int p3), .val (.int p4), .val (.int p5), .val (.int (own_pp p0)), .val (.int (own_p2 p0)), .val (.int (own_p3 p0)), .val (.int (own_q p1)), .val (.int (own_q p2)), .val (.int (own_q p3)), .val (.int fr), .val (.int x), .val (.ref b1), .val (.int r10_r), .unset, .unset, .unset, .unset] [(.int (own_q p3))])) t
        refine XS.istore X10.here hx rfl (hb hby at_171) rfl (l' := #[.val (.int p0), .val (.int p1), .val (.int p2), .val (.int p3), .val (.int p4), .val (.int p5), .val (.int (own_pp p0)), .val (.int (own_p2 p0)), .val (.int (own_p3 p0)), .val (.int (own_q p1)), .val (.int (own_q p2)), .val (.int (own_q p3)), .val (.int fr), .val (.int x), .val (.ref b1), .val (.int r10_r), .val (.int (own_q p3)), .unset, .unset, .unset]) rfl ?_
        exact kt
      exact J173 _ T10 _ X10 rfl N10 (by rw [if_pos hc149])
    · refine OGo.step (F' := T10.setTop (mkF m 157 #[.val (.int p0), .val (.int p1), .val (.int p2), .val (.int p3), .val (.int p4), .val (.int p5), .val (.int (own_pp p0)), .val (.int (own_p2 p0)), .val (.int (own_p3 p0)), .val (.int (own_q p1)), .val (.int (own_q p2)), .val (.int (own_q p3)), .val (.int fr), .val (.int x), .val (.ref b1), .val (.int r10_r), .unset, .unset, .unset, .unset] [])) (fun t kt => ?_) ?_
      · show Steps p.tables e below (T10.setTop (mkF m 149 #[.val (.int p0), .val (.int p1), .val (.int p2), .val (.int p3), .val (.int p4), .val (.int p5), .val (.int (own_pp p0)), .val (.int (own_p2 p0)), .val (.int (own_p3 p0)), .val (.int (own_q p1)), .val (.int (own_q p2)), .val (.int (own_q p3)), .val (.int fr), .val (.int x), .val (.ref b1), .val (.int r10_r), .unset, .unset, .unset, .unset] [(.int (own_pp p0)), (.int (own_p3 p0))])) t
        refine XS.icmpYes X10.here hx rfl (pc0 := 149) (pc' := 157) rfl (hb hby at_149) rfl (feq hc149).2 (by decide) (by decide) ?_
        exact kt
      refine OGo.step (F' := T10.setTop (mkF m 161 #[.val (.int p0), .val (.int p1), .val (.int p2), .val (.int p3), .val (.int p4), .val (.int p5), .val (.int (own_pp p0)), .val (.int (own_p2 p0)), .val (.int (own_p3 p0)), .val (.int (own_q p1)), .val (.int (own_q p2)), .val (.int (own_q p3)), .val (.int fr), .val (.int x), .val (.ref b1), .val (.int r10_r), .unset, .unset, .unset, .unset] [(.int (own_pp p0)), (.int (own_p2 p0))])) (fun t kt => ?_) ?_
      · show Steps p.tables e below (T10.setTop (mkF m 157 #[.val (.int p0), .val (.int p1), .val (.int p2), .val (.int p3), .val (.int p4), .val (.int p5), .val (.int (own_pp p0)), .val (.int (own_p2 p0)), .val (.int (own_p3 p0)), .val (.int (own_q p1)), .val (.int (own_q p2)), .val (.int (own_q p3)), .val (.int fr), .val (.int x), .val (.ref b1), .val (.int r10_r), .unset, .unset, .unset, .unset] [])) t
        refine XS.iload X10.here hx rfl (hb hby at_157) rfl ?_
        show Steps p.tables e below (T10.setTop (mkF m 159 #[.val (.int p0), .val (.int p1), .val (.int p2), .val (.int p3), .val (.int p4), .val (.int p5), .val (.int (own_pp p0)), .val (.int (own_p2 p0)), .val (.int (own_p3 p0)), .val (.int (own_q p1)), .val (.int (own_q p2)), .val (.int (own_q p3)), .val (.int fr), .val (.int x), .val (.ref b1), .val (.int r10_r), .unset, .unset, .unset, .unset] [(.int (own_p2 p0))])) t
        refine XS.iload X10.here hx rfl (hb hby at_159) rfl ?_
        exact kt
      by_cases hc161 : (own_p2 p0) = (own_pp p0)
      · refine OGo.step (F' := T10.setTop (mkF m 164 #[.val (.int p0), .val (.int p1), .val (.int p2), .val (.int p3), .val (.int p4), .val (.int p5), .val (.int (own_pp p0)), .val (.int (own_p2 p0)), .val (.int (own_p3 p0)), .val (.int (own_q p1)), .val (.int (own_q p2)), .val (.int (own_q p3)), .val (.int fr), .val (.int x), .val (.ref b1), .val (.int r10_r), .unset, .unset, .unset, .unset] [])) (fun t kt => ?_) ?_
        · show Steps p.tables e below (T10.setTop (mkF m 161 #[.val (.int p0), .val (.int p1), .val (.int p2), .val (.int p3), .val (.int p4), .val (.int p5), .val (.int (own_pp p0)), .val (.int (own_p2 p0)), .val (.int (own_p3 p0)), .val (.int (own_q p1)), .val (.int (own_q p2)), .val (.int (own_q p3)), .val (.int fr), .val (.int x), .val (.ref b1), .val (.int r10_r), .unset, .unset, .unset, .unset] [(.int (own_pp p0)), (.int (own_p2 p0))])) t
          refine XS.icmpNo X10.here hx rfl (hb hby at_161) rfl (teq hc161).2 ?_
          exact kt
        refine OGo.step (F' := T10.setTop (mkF m 173 #[.val (.int p0), .val (.int p1), .val (.int p2), .val (.int p3), .val (.int p4), .val (.int p5), .val (.int (own_pp p0)), .val (.int (own_p2 p0)), .val (.int (own_p3 p0)), .val (.int (own_q p1)), .val (.int (own_q p2)), .val (.int (own_q p3)), .val (.int fr), .val (.int x), .val (.ref b1), .val (.int r10_r), .val (.int (own_q p2)), .unset, .unset, .unset] [])) (fun t kt => ?_) ?_
        · show Steps p.tables e below (T10.setTop (mkF m 164 #[.val (.int p0), .val (.int p1), .val (.int p2), .val (.int p3), .val (.int p4), .val (.int p5), .val (.int (own_pp p0)), .val (.int (own_p2 p0)), .val (.int (own_p3 p0)), .val (.int (own_q p1)), .val (.int (own_q p2)), .val (.int (own_q p3)), .val (.int fr), .val (.int x), .val (.ref b1), .val (.int r10_r), .unset, .unset, .unset, .unset] [])) t
          refine XS.iload X10.here hx rfl (hb hby at_164) rfl ?_
          show Steps p.tables e below (T10.setTop (mkF m 166 #[.val (.int p0), .val (.int p1), .val (.int p2), .val (.int p3), .val (.int p4), .val (.int p5), .val (.int (own_pp p0)), .val (.int (own_p2 p0)), .val (.int (own_p3 p0)), .val (.int (own_q p1)), .val (.int (own_q p2)), .val (.int (own_q p3)), .val (.int fr), .val (.int x), .val (.ref b1), .val (.int r10_r), .unset, .unset, .unset, .unset] [(.int (own_q p2))])) t
          refine XS.goto X10.here hx rfl (pc0 := 166) (pc' := 171) rfl (hb hby at_166) (by decide) (by decide) ?_
          show Steps p.tables e below (T10.setTop (mkF m 171 #[.val (.int p0), .val (.int p1), .val (.int p2), .val (.int p3), .val (.int p4), .val (.int p5), .val (.int (own_pp p0)), .val (.int (own_p2 p0)), .val (.int (own_p3 p0)), .val (.int (own_q p1)), .val (.int (own_q p2)), .val (.int (own_q p3)), .val (.int fr), .val (.int x), .val (.ref b1), .val (.int r10_r), .unset, .unset, .unset, .unset] [(.int (own_q p2))])) t
          refine XS.istore X10.here hx rfl (hb hby at_171) rfl (l' := #[.val (.int p0), .val (.int p1), .val (.int p2), .val (.int p3), .val (.int p4), .val (.int p5), .val (.int (own_pp p0)), .val (.int (own_p2 p0)), .val (.int (own_p3 p0)), .val (.int (own_q p1)), .val (.int (own_q p2)), .val (.int (own_q p3)), .val (.int fr), .val (.int x), .val (.ref b1), .val (.int r10_r), .val (.int (own_q p2)), .unset, .unset, .unset]) rfl ?_
          exact kt
        exact J173 _ T10 _ X10 rfl N10 (by rw [if_neg hc149, if_pos hc161])
      · refine OGo.step (F' := T10.setTop (mkF m 169 #[.val (.int p0), .val (.int p1), .val (.int p2), .val (.int p3), .val (.int p4), .val (.int p5), .val (.int (own_pp p0)), .val (.int (own_p2 p0)), .val (.int (own_p3 p0)), .val (.int (own_q p1)), .val (.int (own_q p2)), .val (.int (own_q p3)), .val (.int fr), .val (.int x), .val (.ref b1), .val (.int r10_r), .unset, .unset, .unset, .unset] [])) (fun t kt => ?_) ?_
        · show Steps p.tables e below (T10.setTop (mkF m 161 #[.val (.int p0), .val (.int p1), .val (.int p2), .val (.int p3), .val (.int p4), .val (.int p5), .val (.int (own_pp p0)), .val (.int (own_p2 p0)), .val (.int (own_p3 p0)), .val (.int (own_q p1)), .val (.int (own_q p2)), .val (.int (own_q p3)), .val (.int fr), .val (.int x), .val (.ref b1), .val (.int r10_r), .unset, .unset, .unset, .unset] [(.int (own_pp p0)), (.int (own_p2 p0))])) t
          refine XS.icmpYes X10.here hx rfl (pc0 := 161) (pc' := 169) rfl (hb hby at_161) rfl (feq hc161).2 (by decide) (by decide) ?_
          exact kt
        refine OGo.step (F' := T10.setTop (mkF m 173 #[.val (.int p0), .val (.int p1), .val (.int p2), .val (.int p3), .val (.int p4), .val (.int p5), .val (.int (own_pp p0)), .val (.int (own_p2 p0)), .val (.int (own_p3 p0)), .val (.int (own_q p1)), .val (.int (own_q p2)), .val (.int (own_q p3)), .val (.int fr), .val (.int x), .val (.ref b1), .val (.int r10_r), .val (.int (own_q p1)), .unset, .unset, .unset] [])) (fun t kt => ?_) ?_
        · show Steps p.tables e below (T10.setTop (mkF m 169 #[.val (.int p0), .val (.int p1), .val (.int p2), .val (.int p3), .val (.int p4), .val (.int p5), .val (.int (own_pp p0)), .val (.int (own_p2 p0)), .val (.int (own_p3 p0)), .val (.int (own_q p1)), .val (.int (own_q p2)), .val (.int (own_q p3)), .val (.int fr), .val (.int x), .val (.ref b1), .val (.int r10_r), .unset, .unset, .unset, .unset] [])) t
          refine XS.iload X10.here hx rfl (hb hby at_169) rfl ?_
          show Steps p.tables e below (T10.setTop (mkF m 171 #[.val (.int p0), .val (.int p1), .val (.int p2), .val (.int p3), .val (.int p4), .val (.int p5), .val (.int (own_pp p0)), .val (.int (own_p2 p0)), .val (.int (own_p3 p0)), .val (.int (own_q p1)), .val (.int (own_q p2)), .val (.int (own_q p3)), .val (.int fr), .val (.int x), .val (.ref b1), .val (.int r10_r), .unset, .unset, .unset, .unset] [(.int (own_q p1))])) t
          refine XS.istore X10.here hx rfl (hb hby at_171) rfl (l' := #[.val (.int p0), .val (.int p1), .val (.int p2), .val (.int p3), .val (.int p4), .val (.int p5), .val (.int (own_pp p0)), .val (.int (own_p2 p0)), .val (.int (own_p3 p0)), .val (.int (own_q p1)), .val (.int (own_q p2)), .val (.int (own_q p3)), .val (.int fr), .val (.int x), .val (.ref b1), .val (.int r10_r), .val (.int (own_q p1)), .unset, .unset, .unset]) rfl ?_
          exact kt
        exact J173 _ T10 _ X10 rfl N10 (by rw [if_neg hc149, if_neg hc161])
  have J73 : ∀ (fr : Int32), 1 ≤ fr.toInt → OGo p e below s (Q0 Z p0 p1 p2 p3 p4 p5 h0 n0) room_1.cells room_1.slots (s₁.setTop (mkF m 73 #[.val (.int p0), .val (.int p1), .val (.int p2), .val (.int p3), .val (.int p4), .val (.int p5), .val (.int (own_pp p0)), .val (.int (own_p2 p0)), .val (.int (own_p3 p0)), .val (.int (own_q p1)), .val (.int (own_q p2)), .val (.int (own_q p3)), .val (.int fr), .unset, .unset, .unset, .unset, .unset, .unset, .unset] [])) := by
    intro fr hf1
    refine OGo.step (F' := s₁.setTop (mkF m 78 #[.val (.int p0), .val (.int p1), .val (.int p2), .val (.int p3), .val (.int p4), .val (.int p5), .val (.int (own_pp p0)), .val (.int (own_p2 p0)), .val (.int (own_p3 p0)), .val (.int (own_q p1)), .val (.int (own_q p2)), .val (.int (own_q p3)), .val (.int fr), .unset, .unset, .unset, .unset, .unset, .unset, .unset] [(.int (p5 &&& (1073741824 : Int32)))])) (fun t kt => ?_) ?_
    · show Steps p.tables e below (s₁.setTop (mkF m 73 #[.val (.int p0), .val (.int p1), .val (.int p2), .val (.int p3), .val (.int p4), .val (.int p5), .val (.int (own_pp p0)), .val (.int (own_p2 p0)), .val (.int (own_p3 p0)), .val (.int (own_q p1)), .val (.int (own_q p2)), .val (.int (own_q p3)), .val (.int fr), .unset, .unset, .unset, .unset, .unset, .unset, .unset] [])) t
      refine XS.iload X0.here hx rfl (hb hby at_73) rfl ?_
      show Steps p.tables e below (s₁.setTop (mkF m 75 #[.val (.int p0), .val (.int p1), .val (.int p2), .val (.int p3), .val (.int p4), .val (.int p5), .val (.int (own_pp p0)), .val (.int (own_p2 p0)), .val (.int (own_p3 p0)), .val (.int (own_q p1)), .val (.int (own_q p2)), .val (.int (own_q p3)), .val (.int fr), .unset, .unset, .unset, .unset, .unset, .unset, .unset] [(.int p5)])) t
      refine X0.ldcInt hx hown (mvT hZ (own_wd hw 1 rfl)) (g := (mkF m 75 #[.val (.int p0), .val (.int p1), .val (.int p2), .val (.int p3), .val (.int p4), .val (.int p5), .val (.int (own_pp p0)), .val (.int (own_p2 p0)), .val (.int (own_p3 p0)), .val (.int (own_q p1)), .val (.int (own_q p2)), .val (.int (own_q p3)), .val (.int fr), .unset, .unset, .unset, .unset, .unset, .unset, .unset] [(.int p5)])) rfl (hb hby at_75) _ ?_
      show Steps p.tables e below (s₁.setTop (mkF m 77 #[.val (.int p0), .val (.int p1), .val (.int p2), .val (.int p3), .val (.int p4), .val (.int p5), .val (.int (own_pp p0)), .val (.int (own_p2 p0)), .val (.int (own_p3 p0)), .val (.int (own_q p1)), .val (.int (own_q p2)), .val (.int (own_q p3)), .val (.int fr), .unset, .unset, .unset, .unset, .unset, .unset, .unset] [(.int (1073741824 : Int32)), (.int p5)])) t
      refine XS.iand X0.here hx rfl (hb hby at_77) rfl ?_
      exact kt
    by_cases hc78 : (p5 &&& (1073741824 : Int32)) = (0 : Int32)
    · refine OGo.step (F' := s₁.setTop (mkF m 89 #[.val (.int p0), .val (.int p1), .val (.int p2), .val (.int p3), .val (.int p4), .val (.int p5), .val (.int (own_pp p0)), .val (.int (own_p2 p0)), .val (.int (own_p3 p0)), .val (.int (own_q p1)), .val (.int (own_q p2)), .val (.int (own_q p3)), .val (.int fr), .unset, .unset, .unset, .unset, .unset, .unset, .unset] [])) (fun t kt => ?_) ?_
      · show Steps p.tables e below (s₁.setTop (mkF m 78 #[.val (.int p0), .val (.int p1), .val (.int p2), .val (.int p3), .val (.int p4), .val (.int p5), .val (.int (own_pp p0)), .val (.int (own_p2 p0)), .val (.int (own_p3 p0)), .val (.int (own_q p1)), .val (.int (own_q p2)), .val (.int (own_q p3)), .val (.int fr), .unset, .unset, .unset, .unset, .unset, .unset, .unset] [(.int (p5 &&& (1073741824 : Int32)))])) t
        refine XS.ifYes X0.here hx rfl (pc0 := 78) (pc' := 89) rfl (hb hby at_78) rfl ((if0 _ _).trans (teq hc78).1) (by decide) (by decide) ?_
        exact kt
      refine OGo.step (F' := s₁.setTop (mkF m 98 #[.val (.int p0), .val (.int p1), .val (.int p2), .val (.int p3), .val (.int p4), .val (.int p5), .val (.int (own_pp p0)), .val (.int (own_p2 p0)), .val (.int (own_p3 p0)), .val (.int (own_q p1)), .val (.int (own_q p2)), .val (.int (own_q p3)), .val (.int fr), .val (.int ((1 : Int32) + (p5 &&& (65535 : Int32)))), .unset, .unset, .unset, .unset, .unset, .unset] [])) (fun t kt => ?_) ?_
      · show Steps p.tables e below (s₁.setTop (mkF m 89 #[.val (.int p0), .val (.int p1), .val (.int p2), .val (.int p3), .val (.int p4), .val (.int p5), .val (.int (own_pp p0)), .val (.int (own_p2 p0)), .val (.int (own_p3 p0)), .val (.int (own_q p1)), .val (.int (own_q p2)), .val (.int (own_q p3)), .val (.int fr), .unset, .unset, .unset, .unset, .unset, .unset, .unset] [])) t
        refine XS.iconst X0.here hx rfl (hb hby at_89) ?_
        show Steps p.tables e below (s₁.setTop (mkF m 90 #[.val (.int p0), .val (.int p1), .val (.int p2), .val (.int p3), .val (.int p4), .val (.int p5), .val (.int (own_pp p0)), .val (.int (own_p2 p0)), .val (.int (own_p3 p0)), .val (.int (own_q p1)), .val (.int (own_q p2)), .val (.int (own_q p3)), .val (.int fr), .unset, .unset, .unset, .unset, .unset, .unset, .unset] [(.int (1 : Int32))])) t
        refine XS.iload X0.here hx rfl (hb hby at_90) rfl ?_
        show Steps p.tables e below (s₁.setTop (mkF m 92 #[.val (.int p0), .val (.int p1), .val (.int p2), .val (.int p3), .val (.int p4), .val (.int p5), .val (.int (own_pp p0)), .val (.int (own_p2 p0)), .val (.int (own_p3 p0)), .val (.int (own_q p1)), .val (.int (own_q p2)), .val (.int (own_q p3)), .val (.int fr), .unset, .unset, .unset, .unset, .unset, .unset, .unset] [(.int p5), (.int (1 : Int32))])) t
        refine X0.ldcInt hx hown (mvT hZ (own_wd hw 0 rfl)) (g := (mkF m 92 #[.val (.int p0), .val (.int p1), .val (.int p2), .val (.int p3), .val (.int p4), .val (.int p5), .val (.int (own_pp p0)), .val (.int (own_p2 p0)), .val (.int (own_p3 p0)), .val (.int (own_q p1)), .val (.int (own_q p2)), .val (.int (own_q p3)), .val (.int fr), .unset, .unset, .unset, .unset, .unset, .unset, .unset] [(.int p5), (.int (1 : Int32))])) rfl (hb hby at_92) _ ?_
        show Steps p.tables e below (s₁.setTop (mkF m 94 #[.val (.int p0), .val (.int p1), .val (.int p2), .val (.int p3), .val (.int p4), .val (.int p5), .val (.int (own_pp p0)), .val (.int (own_p2 p0)), .val (.int (own_p3 p0)), .val (.int (own_q p1)), .val (.int (own_q p2)), .val (.int (own_q p3)), .val (.int fr), .unset, .unset, .unset, .unset, .unset, .unset, .unset] [(.int (65535 : Int32)), (.int p5), (.int (1 : Int32))])) t
        refine XS.iand X0.here hx rfl (hb hby at_94) rfl ?_
        show Steps p.tables e below (s₁.setTop (mkF m 95 #[.val (.int p0), .val (.int p1), .val (.int p2), .val (.int p3), .val (.int p4), .val (.int p5), .val (.int (own_pp p0)), .val (.int (own_p2 p0)), .val (.int (own_p3 p0)), .val (.int (own_q p1)), .val (.int (own_q p2)), .val (.int (own_q p3)), .val (.int fr), .unset, .unset, .unset, .unset, .unset, .unset, .unset] [(.int (p5 &&& (65535 : Int32))), (.int (1 : Int32))])) t
        refine XS.iadd X0.here hx rfl (hb hby at_95) rfl ?_
        show Steps p.tables e below (s₁.setTop (mkF m 96 #[.val (.int p0), .val (.int p1), .val (.int p2), .val (.int p3), .val (.int p4), .val (.int p5), .val (.int (own_pp p0)), .val (.int (own_p2 p0)), .val (.int (own_p3 p0)), .val (.int (own_q p1)), .val (.int (own_q p2)), .val (.int (own_q p3)), .val (.int fr), .unset, .unset, .unset, .unset, .unset, .unset, .unset] [(.int ((1 : Int32) + (p5 &&& (65535 : Int32))))])) t
        refine XS.istore X0.here hx rfl (hb hby at_96) rfl (l' := #[.val (.int p0), .val (.int p1), .val (.int p2), .val (.int p3), .val (.int p4), .val (.int p5), .val (.int (own_pp p0)), .val (.int (own_p2 p0)), .val (.int (own_p3 p0)), .val (.int (own_q p1)), .val (.int (own_q p2)), .val (.int (own_q p3)), .val (.int fr), .val (.int ((1 : Int32) + (p5 &&& (65535 : Int32)))), .unset, .unset, .unset, .unset, .unset, .unset]) rfl ?_
        exact kt
      exact J98 _ _ hf1 (own_fC _)
    · refine OGo.step (F' := s₁.setTop (mkF m 81 #[.val (.int p0), .val (.int p1), .val (.int p2), .val (.int p3), .val (.int p4), .val (.int p5), .val (.int (own_pp p0)), .val (.int (own_p2 p0)), .val (.int (own_p3 p0)), .val (.int (own_q p1)), .val (.int (own_q p2)), .val (.int (own_q p3)), .val (.int fr), .unset, .unset, .unset, .unset, .unset, .unset, .unset] [])) (fun t kt => ?_) ?_
      · show Steps p.tables e below (s₁.setTop (mkF m 78 #[.val (.int p0), .val (.int p1), .val (.int p2), .val (.int p3), .val (.int p4), .val (.int p5), .val (.int (own_pp p0)), .val (.int (own_p2 p0)), .val (.int (own_p3 p0)), .val (.int (own_q p1)), .val (.int (own_q p2)), .val (.int (own_q p3)), .val (.int fr), .unset, .unset, .unset, .unset, .unset, .unset, .unset] [(.int (p5 &&& (1073741824 : Int32)))])) t
        refine XS.ifNo X0.here hx rfl (hb hby at_78) rfl ((if0 _ _).trans (feq hc78).1) ?_
        exact kt
      refine OGo.step (F' := s₁.setTop (mkF m 98 #[.val (.int p0), .val (.int p1), .val (.int p2), .val (.int p3), .val (.int p4), .val (.int p5), .val (.int (own_pp p0)), .val (.int (own_p2 p0)), .val (.int (own_p3 p0)), .val (.int (own_q p1)), .val (.int (own_q p2)), .val (.int (own_q p3)), .val (.int fr), .val (.int (p5 &&& (2147483647 : Int32))), .unset, .unset, .unset, .unset, .unset, .unset] [])) (fun t kt => ?_) ?_
      · show Steps p.tables e below (s₁.setTop (mkF m 81 #[.val (.int p0), .val (.int p1), .val (.int p2), .val (.int p3), .val (.int p4), .val (.int p5), .val (.int (own_pp p0)), .val (.int (own_p2 p0)), .val (.int (own_p3 p0)), .val (.int (own_q p1)), .val (.int (own_q p2)), .val (.int (own_q p3)), .val (.int fr), .unset, .unset, .unset, .unset, .unset, .unset, .unset] [])) t
        refine XS.iload X0.here hx rfl (hb hby at_81) rfl ?_
        show Steps p.tables e below (s₁.setTop (mkF m 83 #[.val (.int p0), .val (.int p1), .val (.int p2), .val (.int p3), .val (.int p4), .val (.int p5), .val (.int (own_pp p0)), .val (.int (own_p2 p0)), .val (.int (own_p3 p0)), .val (.int (own_q p1)), .val (.int (own_q p2)), .val (.int (own_q p3)), .val (.int fr), .unset, .unset, .unset, .unset, .unset, .unset, .unset] [(.int p5)])) t
        refine X0.ldcInt hx hown (mvT hZ (own_wd hw 52 rfl)) (g := (mkF m 83 #[.val (.int p0), .val (.int p1), .val (.int p2), .val (.int p3), .val (.int p4), .val (.int p5), .val (.int (own_pp p0)), .val (.int (own_p2 p0)), .val (.int (own_p3 p0)), .val (.int (own_q p1)), .val (.int (own_q p2)), .val (.int (own_q p3)), .val (.int fr), .unset, .unset, .unset, .unset, .unset, .unset, .unset] [(.int p5)])) rfl (hb hby at_83) _ ?_
        show Steps p.tables e below (s₁.setTop (mkF m 85 #[.val (.int p0), .val (.int p1), .val (.int p2), .val (.int p3), .val (.int p4), .val (.int p5), .val (.int (own_pp p0)), .val (.int (own_p2 p0)), .val (.int (own_p3 p0)), .val (.int (own_q p1)), .val (.int (own_q p2)), .val (.int (own_q p3)), .val (.int fr), .unset, .unset, .unset, .unset, .unset, .unset, .unset] [(.int (2147483647 : Int32)), (.int p5)])) t
        refine XS.iand X0.here hx rfl (hb hby at_85) rfl ?_
        show Steps p.tables e below (s₁.setTop (mkF m 86 #[.val (.int p0), .val (.int p1), .val (.int p2), .val (.int p3), .val (.int p4), .val (.int p5), .val (.int (own_pp p0)), .val (.int (own_p2 p0)), .val (.int (own_p3 p0)), .val (.int (own_q p1)), .val (.int (own_q p2)), .val (.int (own_q p3)), .val (.int fr), .unset, .unset, .unset, .unset, .unset, .unset, .unset] [(.int (p5 &&& (2147483647 : Int32)))])) t
        refine XS.goto X0.here hx rfl (pc0 := 86) (pc' := 96) rfl (hb hby at_86) (by decide) (by decide) ?_
        show Steps p.tables e below (s₁.setTop (mkF m 96 #[.val (.int p0), .val (.int p1), .val (.int p2), .val (.int p3), .val (.int p4), .val (.int p5), .val (.int (own_pp p0)), .val (.int (own_p2 p0)), .val (.int (own_p3 p0)), .val (.int (own_q p1)), .val (.int (own_q p2)), .val (.int (own_q p3)), .val (.int fr), .unset, .unset, .unset, .unset, .unset, .unset, .unset] [(.int (p5 &&& (2147483647 : Int32)))])) t
        refine XS.istore X0.here hx rfl (hb hby at_96) rfl (l' := #[.val (.int p0), .val (.int p1), .val (.int p2), .val (.int p3), .val (.int p4), .val (.int p5), .val (.int (own_pp p0)), .val (.int (own_p2 p0)), .val (.int (own_p3 p0)), .val (.int (own_q p1)), .val (.int (own_q p2)), .val (.int (own_q p3)), .val (.int fr), .val (.int (p5 &&& (2147483647 : Int32))), .unset, .unset, .unset, .unset, .unset, .unset]) rfl ?_
        exact kt
      exact J98 _ _ hf1 (own_fB _ hc78)
  refine OGo.step (F' := s₁.setTop (mkF m 53 #[.val (.int p0), .val (.int p1), .val (.int p2), .val (.int p3), .val (.int p4), .val (.int p5), .val (.int (own_pp p0)), .val (.int (own_p2 p0)), .val (.int (own_p3 p0)), .val (.int (own_q p1)), .val (.int (own_q p2)), .val (.int (own_q p3)), .unset, .unset, .unset, .unset, .unset, .unset, .unset, .unset] [(.int (p4 &&& (1073741824 : Int32)))])) (fun t kt => ?_) ?_
  · show Steps p.tables e below (s₁.setTop (mkF m 0 #[.val (.int p0), .val (.int p1), .val (.int p2), .val (.int p3), .val (.int p4), .val (.int p5), .unset, .unset, .unset, .unset, .unset, .unset, .unset, .unset, .unset, .unset, .unset, .unset, .unset, .unset] [])) t
    refine XS.iconst X0.here hx rfl (hb hby at_0) ?_
    show Steps p.tables e below (s₁.setTop (mkF m 1 #[.val (.int p0), .val (.int p1), .val (.int p2), .val (.int p3), .val (.int p4), .val (.int p5), .unset, .unset, .unset, .unset, .unset, .unset, .unset, .unset, .unset, .unset, .unset, .unset, .unset, .unset] [(.int (1 : Int32))])) t
    refine XS.iloadN X0.here hx rfl (hb hby at_1) rfl ?_
    show Steps p.tables e below (s₁.setTop (mkF m 2 #[.val (.int p0), .val (.int p1), .val (.int p2), .val (.int p3), .val (.int p4), .val (.int p5), .unset, .unset, .unset, .unset, .unset, .unset, .unset, .unset, .unset, .unset, .unset, .unset, .unset, .unset] [(.int p0), (.int (1 : Int32))])) t
    refine XS.bipush X0.here hx rfl (hb hby at_2) ?_
    show Steps p.tables e below (s₁.setTop (mkF m 4 #[.val (.int p0), .val (.int p1), .val (.int p2), .val (.int p3), .val (.int p4), .val (.int p5), .unset, .unset, .unset, .unset, .unset, .unset, .unset, .unset, .unset, .unset, .unset, .unset, .unset, .unset] [(.int (63 : Int32)), (.int p0), (.int (1 : Int32))])) t
    refine XS.iand X0.here hx rfl (hb hby at_4) rfl ?_
    show Steps p.tables e below (s₁.setTop (mkF m 5 #[.val (.int p0), .val (.int p1), .val (.int p2), .val (.int p3), .val (.int p4), .val (.int p5), .unset, .unset, .unset, .unset, .unset, .unset, .unset, .unset, .unset, .unset, .unset, .unset, .unset, .unset] [(.int (p0 &&& (63 : Int32))), (.int (1 : Int32))])) t
    refine XS.iadd X0.here hx rfl (hb hby at_5) rfl ?_
    show Steps p.tables e below (s₁.setTop (mkF m 6 #[.val (.int p0), .val (.int p1), .val (.int p2), .val (.int p3), .val (.int p4), .val (.int p5), .unset, .unset, .unset, .unset, .unset, .unset, .unset, .unset, .unset, .unset, .unset, .unset, .unset, .unset] [(.int (own_pp p0))])) t
    refine XS.istore X0.here hx rfl (hb hby at_6) rfl (l' := #[.val (.int p0), .val (.int p1), .val (.int p2), .val (.int p3), .val (.int p4), .val (.int p5), .val (.int (own_pp p0)), .unset, .unset, .unset, .unset, .unset, .unset, .unset, .unset, .unset, .unset, .unset, .unset, .unset]) rfl ?_
    show Steps p.tables e below (s₁.setTop (mkF m 8 #[.val (.int p0), .val (.int p1), .val (.int p2), .val (.int p3), .val (.int p4), .val (.int p5), .val (.int (own_pp p0)), .unset, .unset, .unset, .unset, .unset, .unset, .unset, .unset, .unset, .unset, .unset, .unset, .unset] [])) t
    refine XS.iconst X0.here hx rfl (hb hby at_8) ?_
    show Steps p.tables e below (s₁.setTop (mkF m 9 #[.val (.int p0), .val (.int p1), .val (.int p2), .val (.int p3), .val (.int p4), .val (.int p5), .val (.int (own_pp p0)), .unset, .unset, .unset, .unset, .unset, .unset, .unset, .unset, .unset, .unset, .unset, .unset, .unset] [(.int (1 : Int32))])) t
    refine XS.iloadN X0.here hx rfl (hb hby at_9) rfl ?_
    show Steps p.tables e below (s₁.setTop (mkF m 10 #[.val (.int p0), .val (.int p1), .val (.int p2), .val (.int p3), .val (.int p4), .val (.int p5), .val (.int (own_pp p0)), .unset, .unset, .unset, .unset, .unset, .unset, .unset, .unset, .unset, .unset, .unset, .unset, .unset] [(.int p0), (.int (1 : Int32))])) t
    refine XS.bipush X0.here hx rfl (hb hby at_10) ?_
    show Steps p.tables e below (s₁.setTop (mkF m 12 #[.val (.int p0), .val (.int p1), .val (.int p2), .val (.int p3), .val (.int p4), .val (.int p5), .val (.int (own_pp p0)), .unset, .unset, .unset, .unset, .unset, .unset, .unset, .unset, .unset, .unset, .unset, .unset, .unset] [(.int (6 : Int32)), (.int p0), (.int (1 : Int32))])) t
    refine XS.iushr X0.here hx rfl (hb hby at_12) rfl ?_
    show Steps p.tables e below (s₁.setTop (mkF m 13 #[.val (.int p0), .val (.int p1), .val (.int p2), .val (.int p3), .val (.int p4), .val (.int p5), .val (.int (own_pp p0)), .unset, .unset, .unset, .unset, .unset, .unset, .unset, .unset, .unset, .unset, .unset, .unset, .unset] [(.int ((p0.toUInt32 >>> ((6 : Int32) &&& 31).toUInt32).toInt32)), (.int (1 : Int32))])) t
    refine XS.bipush X0.here hx rfl (hb hby at_13) ?_
    show Steps p.tables e below (s₁.setTop (mkF m 15 #[.val (.int p0), .val (.int p1), .val (.int p2), .val (.int p3), .val (.int p4), .val (.int p5), .val (.int (own_pp p0)), .unset, .unset, .unset, .unset, .unset, .unset, .unset, .unset, .unset, .unset, .unset, .unset, .unset] [(.int (63 : Int32)), (.int ((p0.toUInt32 >>> ((6 : Int32) &&& 31).toUInt32).toInt32)), (.int (1 : Int32))])) t
    refine XS.iand X0.here hx rfl (hb hby at_15) rfl ?_
    show Steps p.tables e below (s₁.setTop (mkF m 16 #[.val (.int p0), .val (.int p1), .val (.int p2), .val (.int p3), .val (.int p4), .val (.int p5), .val (.int (own_pp p0)), .unset, .unset, .unset, .unset, .unset, .unset, .unset, .unset, .unset, .unset, .unset, .unset, .unset] [(.int (((p0.toUInt32 >>> ((6 : Int32) &&& 31).toUInt32).toInt32) &&& (63 : Int32))), (.int (1 : Int32))])) t
    refine XS.iadd X0.here hx rfl (hb hby at_16) rfl ?_
    show Steps p.tables e below (s₁.setTop (mkF m 17 #[.val (.int p0), .val (.int p1), .val (.int p2), .val (.int p3), .val (.int p4), .val (.int p5), .val (.int (own_pp p0)), .unset, .unset, .unset, .unset, .unset, .unset, .unset, .unset, .unset, .unset, .unset, .unset, .unset] [(.int (own_p2 p0))])) t
    refine XS.istore X0.here hx rfl (hb hby at_17) rfl (l' := #[.val (.int p0), .val (.int p1), .val (.int p2), .val (.int p3), .val (.int p4), .val (.int p5), .val (.int (own_pp p0)), .val (.int (own_p2 p0)), .unset, .unset, .unset, .unset, .unset, .unset, .unset, .unset, .unset, .unset, .unset, .unset]) rfl ?_
    show Steps p.tables e below (s₁.setTop (mkF m 19 #[.val (.int p0), .val (.int p1), .val (.int p2), .val (.int p3), .val (.int p4), .val (.int p5), .val (.int (own_pp p0)), .val (.int (own_p2 p0)), .unset, .unset, .unset, .unset, .unset, .unset, .unset, .unset, .unset, .unset, .unset, .unset] [])) t
    refine XS.iconst X0.here hx rfl (hb hby at_19) ?_
    show Steps p.tables e below (s₁.setTop (mkF m 20 #[.val (.int p0), .val (.int p1), .val (.int p2), .val (.int p3), .val (.int p4), .val (.int p5), .val (.int (own_pp p0)), .val (.int (own_p2 p0)), .unset, .unset, .unset, .unset, .unset, .unset, .unset, .unset, .unset, .unset, .unset, .unset] [(.int (1 : Int32))])) t
    refine XS.iloadN X0.here hx rfl (hb hby at_20) rfl ?_
    show Steps p.tables e below (s₁.setTop (mkF m 21 #[.val (.int p0), .val (.int p1), .val (.int p2), .val (.int p3), .val (.int p4), .val (.int p5), .val (.int (own_pp p0)), .val (.int (own_p2 p0)), .unset, .unset, .unset, .unset, .unset, .unset, .unset, .unset, .unset, .unset, .unset, .unset] [(.int p0), (.int (1 : Int32))])) t
    refine XS.bipush X0.here hx rfl (hb hby at_21) ?_
    show Steps p.tables e below (s₁.setTop (mkF m 23 #[.val (.int p0), .val (.int p1), .val (.int p2), .val (.int p3), .val (.int p4), .val (.int p5), .val (.int (own_pp p0)), .val (.int (own_p2 p0)), .unset, .unset, .unset, .unset, .unset, .unset, .unset, .unset, .unset, .unset, .unset, .unset] [(.int (12 : Int32)), (.int p0), (.int (1 : Int32))])) t
    refine XS.iushr X0.here hx rfl (hb hby at_23) rfl ?_
    show Steps p.tables e below (s₁.setTop (mkF m 24 #[.val (.int p0), .val (.int p1), .val (.int p2), .val (.int p3), .val (.int p4), .val (.int p5), .val (.int (own_pp p0)), .val (.int (own_p2 p0)), .unset, .unset, .unset, .unset, .unset, .unset, .unset, .unset, .unset, .unset, .unset, .unset] [(.int ((p0.toUInt32 >>> ((12 : Int32) &&& 31).toUInt32).toInt32)), (.int (1 : Int32))])) t
    refine XS.bipush X0.here hx rfl (hb hby at_24) ?_
    show Steps p.tables e below (s₁.setTop (mkF m 26 #[.val (.int p0), .val (.int p1), .val (.int p2), .val (.int p3), .val (.int p4), .val (.int p5), .val (.int (own_pp p0)), .val (.int (own_p2 p0)), .unset, .unset, .unset, .unset, .unset, .unset, .unset, .unset, .unset, .unset, .unset, .unset] [(.int (63 : Int32)), (.int ((p0.toUInt32 >>> ((12 : Int32) &&& 31).toUInt32).toInt32)), (.int (1 : Int32))])) t
    refine XS.iand X0.here hx rfl (hb hby at_26) rfl ?_
    show Steps p.tables e below (s₁.setTop (mkF m 27 #[.val (.int p0), .val (.int p1), .val (.int p2), .val (.int p3), .val (.int p4), .val (.int p5), .val (.int (own_pp p0)), .val (.int (own_p2 p0)), .unset, .unset, .unset, .unset, .unset, .unset, .unset, .unset, .unset, .unset, .unset, .unset] [(.int (((p0.toUInt32 >>> ((12 : Int32) &&& 31).toUInt32).toInt32) &&& (63 : Int32))), (.int (1 : Int32))])) t
    refine XS.iadd X0.here hx rfl (hb hby at_27) rfl ?_
    show Steps p.tables e below (s₁.setTop (mkF m 28 #[.val (.int p0), .val (.int p1), .val (.int p2), .val (.int p3), .val (.int p4), .val (.int p5), .val (.int (own_pp p0)), .val (.int (own_p2 p0)), .unset, .unset, .unset, .unset, .unset, .unset, .unset, .unset, .unset, .unset, .unset, .unset] [(.int (own_p3 p0))])) t
    refine XS.istore X0.here hx rfl (hb hby at_28) rfl (l' := #[.val (.int p0), .val (.int p1), .val (.int p2), .val (.int p3), .val (.int p4), .val (.int p5), .val (.int (own_pp p0)), .val (.int (own_p2 p0)), .val (.int (own_p3 p0)), .unset, .unset, .unset, .unset, .unset, .unset, .unset, .unset, .unset, .unset, .unset]) rfl ?_
    show Steps p.tables e below (s₁.setTop (mkF m 30 #[.val (.int p0), .val (.int p1), .val (.int p2), .val (.int p3), .val (.int p4), .val (.int p5), .val (.int (own_pp p0)), .val (.int (own_p2 p0)), .val (.int (own_p3 p0)), .unset, .unset, .unset, .unset, .unset, .unset, .unset, .unset, .unset, .unset, .unset] [])) t
    refine XS.iloadN X0.here hx rfl (hb hby at_30) rfl ?_
    show Steps p.tables e below (s₁.setTop (mkF m 31 #[.val (.int p0), .val (.int p1), .val (.int p2), .val (.int p3), .val (.int p4), .val (.int p5), .val (.int (own_pp p0)), .val (.int (own_p2 p0)), .val (.int (own_p3 p0)), .unset, .unset, .unset, .unset, .unset, .unset, .unset, .unset, .unset, .unset, .unset] [(.int p1)])) t
    refine X0.ldcInt hx hown (mvT hZ (own_wd hw 0 rfl)) (g := (mkF m 31 #[.val (.int p0), .val (.int p1), .val (.int p2), .val (.int p3), .val (.int p4), .val (.int p5), .val (.int (own_pp p0)), .val (.int (own_p2 p0)), .val (.int (own_p3 p0)), .unset, .unset, .unset, .unset, .unset, .unset, .unset, .unset, .unset, .unset, .unset] [(.int p1)])) rfl (hb hby at_31) _ ?_
    show Steps p.tables e below (s₁.setTop (mkF m 33 #[.val (.int p0), .val (.int p1), .val (.int p2), .val (.int p3), .val (.int p4), .val (.int p5), .val (.int (own_pp p0)), .val (.int (own_p2 p0)), .val (.int (own_p3 p0)), .unset, .unset, .unset, .unset, .unset, .unset, .unset, .unset, .unset, .unset, .unset] [(.int (65535 : Int32)), (.int p1)])) t
    refine XS.iand X0.here hx rfl (hb hby at_33) rfl ?_
    show Steps p.tables e below (s₁.setTop (mkF m 34 #[.val (.int p0), .val (.int p1), .val (.int p2), .val (.int p3), .val (.int p4), .val (.int p5), .val (.int (own_pp p0)), .val (.int (own_p2 p0)), .val (.int (own_p3 p0)), .unset, .unset, .unset, .unset, .unset, .unset, .unset, .unset, .unset, .unset, .unset] [(.int (own_q p1))])) t
    refine XS.istore X0.here hx rfl (hb hby at_34) rfl (l' := #[.val (.int p0), .val (.int p1), .val (.int p2), .val (.int p3), .val (.int p4), .val (.int p5), .val (.int (own_pp p0)), .val (.int (own_p2 p0)), .val (.int (own_p3 p0)), .val (.int (own_q p1)), .unset, .unset, .unset, .unset, .unset, .unset, .unset, .unset, .unset, .unset]) rfl ?_
    show Steps p.tables e below (s₁.setTop (mkF m 36 #[.val (.int p0), .val (.int p1), .val (.int p2), .val (.int p3), .val (.int p4), .val (.int p5), .val (.int (own_pp p0)), .val (.int (own_p2 p0)), .val (.int (own_p3 p0)), .val (.int (own_q p1)), .unset, .unset, .unset, .unset, .unset, .unset, .unset, .unset, .unset, .unset] [])) t
    refine XS.iloadN X0.here hx rfl (hb hby at_36) rfl ?_
    show Steps p.tables e below (s₁.setTop (mkF m 37 #[.val (.int p0), .val (.int p1), .val (.int p2), .val (.int p3), .val (.int p4), .val (.int p5), .val (.int (own_pp p0)), .val (.int (own_p2 p0)), .val (.int (own_p3 p0)), .val (.int (own_q p1)), .unset, .unset, .unset, .unset, .unset, .unset, .unset, .unset, .unset, .unset] [(.int p2)])) t
    refine X0.ldcInt hx hown (mvT hZ (own_wd hw 0 rfl)) (g := (mkF m 37 #[.val (.int p0), .val (.int p1), .val (.int p2), .val (.int p3), .val (.int p4), .val (.int p5), .val (.int (own_pp p0)), .val (.int (own_p2 p0)), .val (.int (own_p3 p0)), .val (.int (own_q p1)), .unset, .unset, .unset, .unset, .unset, .unset, .unset, .unset, .unset, .unset] [(.int p2)])) rfl (hb hby at_37) _ ?_
    show Steps p.tables e below (s₁.setTop (mkF m 39 #[.val (.int p0), .val (.int p1), .val (.int p2), .val (.int p3), .val (.int p4), .val (.int p5), .val (.int (own_pp p0)), .val (.int (own_p2 p0)), .val (.int (own_p3 p0)), .val (.int (own_q p1)), .unset, .unset, .unset, .unset, .unset, .unset, .unset, .unset, .unset, .unset] [(.int (65535 : Int32)), (.int p2)])) t
    refine XS.iand X0.here hx rfl (hb hby at_39) rfl ?_
    show Steps p.tables e below (s₁.setTop (mkF m 40 #[.val (.int p0), .val (.int p1), .val (.int p2), .val (.int p3), .val (.int p4), .val (.int p5), .val (.int (own_pp p0)), .val (.int (own_p2 p0)), .val (.int (own_p3 p0)), .val (.int (own_q p1)), .unset, .unset, .unset, .unset, .unset, .unset, .unset, .unset, .unset, .unset] [(.int (own_q p2))])) t
    refine XS.istore X0.here hx rfl (hb hby at_40) rfl (l' := #[.val (.int p0), .val (.int p1), .val (.int p2), .val (.int p3), .val (.int p4), .val (.int p5), .val (.int (own_pp p0)), .val (.int (own_p2 p0)), .val (.int (own_p3 p0)), .val (.int (own_q p1)), .val (.int (own_q p2)), .unset, .unset, .unset, .unset, .unset, .unset, .unset, .unset, .unset]) rfl ?_
    show Steps p.tables e below (s₁.setTop (mkF m 42 #[.val (.int p0), .val (.int p1), .val (.int p2), .val (.int p3), .val (.int p4), .val (.int p5), .val (.int (own_pp p0)), .val (.int (own_p2 p0)), .val (.int (own_p3 p0)), .val (.int (own_q p1)), .val (.int (own_q p2)), .unset, .unset, .unset, .unset, .unset, .unset, .unset, .unset, .unset] [])) t
    refine XS.iloadN X0.here hx rfl (hb hby at_42) rfl ?_
    show Steps p.tables e below (s₁.setTop (mkF m 43 #[.val (.int p0), .val (.int p1), .val (.int p2), .val (.int p3), .val (.int p4), .val (.int p5), .val (.int (own_pp p0)), .val (.int (own_p2 p0)), .val (.int (own_p3 p0)), .val (.int (own_q p1)), .val (.int (own_q p2)), .unset, .unset, .unset, .unset, .unset, .unset, .unset, .unset, .unset] [(.int p3)])) t
    refine X0.ldcInt hx hown (mvT hZ (own_wd hw 0 rfl)) (g := (mkF m 43 #[.val (.int p0), .val (.int p1), .val (.int p2), .val (.int p3), .val (.int p4), .val (.int p5), .val (.int (own_pp p0)), .val (.int (own_p2 p0)), .val (.int (own_p3 p0)), .val (.int (own_q p1)), .val (.int (own_q p2)), .unset, .unset, .unset, .unset, .unset, .unset, .unset, .unset, .unset] [(.int p3)])) rfl (hb hby at_43) _ ?_
    show Steps p.tables e below (s₁.setTop (mkF m 45 #[.val (.int p0), .val (.int p1), .val (.int p2), .val (.int p3), .val (.int p4), .val (.int p5), .val (.int (own_pp p0)), .val (.int (own_p2 p0)), .val (.int (own_p3 p0)), .val (.int (own_q p1)), .val (.int (own_q p2)), .unset, .unset, .unset, .unset, .unset, .unset, .unset, .unset, .unset] [(.int (65535 : Int32)), (.int p3)])) t
    refine XS.iand X0.here hx rfl (hb hby at_45) rfl ?_
    show Steps p.tables e below (s₁.setTop (mkF m 46 #[.val (.int p0), .val (.int p1), .val (.int p2), .val (.int p3), .val (.int p4), .val (.int p5), .val (.int (own_pp p0)), .val (.int (own_p2 p0)), .val (.int (own_p3 p0)), .val (.int (own_q p1)), .val (.int (own_q p2)), .unset, .unset, .unset, .unset, .unset, .unset, .unset, .unset, .unset] [(.int (own_q p3))])) t
    refine XS.istore X0.here hx rfl (hb hby at_46) rfl (l' := #[.val (.int p0), .val (.int p1), .val (.int p2), .val (.int p3), .val (.int p4), .val (.int p5), .val (.int (own_pp p0)), .val (.int (own_p2 p0)), .val (.int (own_p3 p0)), .val (.int (own_q p1)), .val (.int (own_q p2)), .val (.int (own_q p3)), .unset, .unset, .unset, .unset, .unset, .unset, .unset, .unset]) rfl ?_
    show Steps p.tables e below (s₁.setTop (mkF m 48 #[.val (.int p0), .val (.int p1), .val (.int p2), .val (.int p3), .val (.int p4), .val (.int p5), .val (.int (own_pp p0)), .val (.int (own_p2 p0)), .val (.int (own_p3 p0)), .val (.int (own_q p1)), .val (.int (own_q p2)), .val (.int (own_q p3)), .unset, .unset, .unset, .unset, .unset, .unset, .unset, .unset] [])) t
    refine XS.iload X0.here hx rfl (hb hby at_48) rfl ?_
    show Steps p.tables e below (s₁.setTop (mkF m 50 #[.val (.int p0), .val (.int p1), .val (.int p2), .val (.int p3), .val (.int p4), .val (.int p5), .val (.int (own_pp p0)), .val (.int (own_p2 p0)), .val (.int (own_p3 p0)), .val (.int (own_q p1)), .val (.int (own_q p2)), .val (.int (own_q p3)), .unset, .unset, .unset, .unset, .unset, .unset, .unset, .unset] [(.int p4)])) t
    refine X0.ldcInt hx hown (mvT hZ (own_wd hw 1 rfl)) (g := (mkF m 50 #[.val (.int p0), .val (.int p1), .val (.int p2), .val (.int p3), .val (.int p4), .val (.int p5), .val (.int (own_pp p0)), .val (.int (own_p2 p0)), .val (.int (own_p3 p0)), .val (.int (own_q p1)), .val (.int (own_q p2)), .val (.int (own_q p3)), .unset, .unset, .unset, .unset, .unset, .unset, .unset, .unset] [(.int p4)])) rfl (hb hby at_50) _ ?_
    show Steps p.tables e below (s₁.setTop (mkF m 52 #[.val (.int p0), .val (.int p1), .val (.int p2), .val (.int p3), .val (.int p4), .val (.int p5), .val (.int (own_pp p0)), .val (.int (own_p2 p0)), .val (.int (own_p3 p0)), .val (.int (own_q p1)), .val (.int (own_q p2)), .val (.int (own_q p3)), .unset, .unset, .unset, .unset, .unset, .unset, .unset, .unset] [(.int (1073741824 : Int32)), (.int p4)])) t
    refine XS.iand X0.here hx rfl (hb hby at_52) rfl ?_
    exact kt
  by_cases hc53 : (p4 &&& (1073741824 : Int32)) = (0 : Int32)
  · refine OGo.step (F' := s₁.setTop (mkF m 64 #[.val (.int p0), .val (.int p1), .val (.int p2), .val (.int p3), .val (.int p4), .val (.int p5), .val (.int (own_pp p0)), .val (.int (own_p2 p0)), .val (.int (own_p3 p0)), .val (.int (own_q p1)), .val (.int (own_q p2)), .val (.int (own_q p3)), .unset, .unset, .unset, .unset, .unset, .unset, .unset, .unset] [])) (fun t kt => ?_) ?_
    · show Steps p.tables e below (s₁.setTop (mkF m 53 #[.val (.int p0), .val (.int p1), .val (.int p2), .val (.int p3), .val (.int p4), .val (.int p5), .val (.int (own_pp p0)), .val (.int (own_p2 p0)), .val (.int (own_p3 p0)), .val (.int (own_q p1)), .val (.int (own_q p2)), .val (.int (own_q p3)), .unset, .unset, .unset, .unset, .unset, .unset, .unset, .unset] [(.int (p4 &&& (1073741824 : Int32)))])) t
      refine XS.ifYes X0.here hx rfl (pc0 := 53) (pc' := 64) rfl (hb hby at_53) rfl ((if0 _ _).trans (teq hc53).1) (by decide) (by decide) ?_
      exact kt
    refine OGo.step (F' := s₁.setTop (mkF m 73 #[.val (.int p0), .val (.int p1), .val (.int p2), .val (.int p3), .val (.int p4), .val (.int p5), .val (.int (own_pp p0)), .val (.int (own_p2 p0)), .val (.int (own_p3 p0)), .val (.int (own_q p1)), .val (.int (own_q p2)), .val (.int (own_q p3)), .val (.int ((1 : Int32) + (p4 &&& (127 : Int32)))), .unset, .unset, .unset, .unset, .unset, .unset, .unset] [])) (fun t kt => ?_) ?_
    · show Steps p.tables e below (s₁.setTop (mkF m 64 #[.val (.int p0), .val (.int p1), .val (.int p2), .val (.int p3), .val (.int p4), .val (.int p5), .val (.int (own_pp p0)), .val (.int (own_p2 p0)), .val (.int (own_p3 p0)), .val (.int (own_q p1)), .val (.int (own_q p2)), .val (.int (own_q p3)), .unset, .unset, .unset, .unset, .unset, .unset, .unset, .unset] [])) t
      refine XS.iconst X0.here hx rfl (hb hby at_64) ?_
      show Steps p.tables e below (s₁.setTop (mkF m 65 #[.val (.int p0), .val (.int p1), .val (.int p2), .val (.int p3), .val (.int p4), .val (.int p5), .val (.int (own_pp p0)), .val (.int (own_p2 p0)), .val (.int (own_p3 p0)), .val (.int (own_q p1)), .val (.int (own_q p2)), .val (.int (own_q p3)), .unset, .unset, .unset, .unset, .unset, .unset, .unset, .unset] [(.int (1 : Int32))])) t
      refine XS.iload X0.here hx rfl (hb hby at_65) rfl ?_
      show Steps p.tables e below (s₁.setTop (mkF m 67 #[.val (.int p0), .val (.int p1), .val (.int p2), .val (.int p3), .val (.int p4), .val (.int p5), .val (.int (own_pp p0)), .val (.int (own_p2 p0)), .val (.int (own_p3 p0)), .val (.int (own_q p1)), .val (.int (own_q p2)), .val (.int (own_q p3)), .unset, .unset, .unset, .unset, .unset, .unset, .unset, .unset] [(.int p4), (.int (1 : Int32))])) t
      refine XS.bipush X0.here hx rfl (hb hby at_67) ?_
      show Steps p.tables e below (s₁.setTop (mkF m 69 #[.val (.int p0), .val (.int p1), .val (.int p2), .val (.int p3), .val (.int p4), .val (.int p5), .val (.int (own_pp p0)), .val (.int (own_p2 p0)), .val (.int (own_p3 p0)), .val (.int (own_q p1)), .val (.int (own_q p2)), .val (.int (own_q p3)), .unset, .unset, .unset, .unset, .unset, .unset, .unset, .unset] [(.int (127 : Int32)), (.int p4), (.int (1 : Int32))])) t
      refine XS.iand X0.here hx rfl (hb hby at_69) rfl ?_
      show Steps p.tables e below (s₁.setTop (mkF m 70 #[.val (.int p0), .val (.int p1), .val (.int p2), .val (.int p3), .val (.int p4), .val (.int p5), .val (.int (own_pp p0)), .val (.int (own_p2 p0)), .val (.int (own_p3 p0)), .val (.int (own_q p1)), .val (.int (own_q p2)), .val (.int (own_q p3)), .unset, .unset, .unset, .unset, .unset, .unset, .unset, .unset] [(.int (p4 &&& (127 : Int32))), (.int (1 : Int32))])) t
      refine XS.iadd X0.here hx rfl (hb hby at_70) rfl ?_
      show Steps p.tables e below (s₁.setTop (mkF m 71 #[.val (.int p0), .val (.int p1), .val (.int p2), .val (.int p3), .val (.int p4), .val (.int p5), .val (.int (own_pp p0)), .val (.int (own_p2 p0)), .val (.int (own_p3 p0)), .val (.int (own_q p1)), .val (.int (own_q p2)), .val (.int (own_q p3)), .unset, .unset, .unset, .unset, .unset, .unset, .unset, .unset] [(.int ((1 : Int32) + (p4 &&& (127 : Int32))))])) t
      refine XS.istore X0.here hx rfl (hb hby at_71) rfl (l' := #[.val (.int p0), .val (.int p1), .val (.int p2), .val (.int p3), .val (.int p4), .val (.int p5), .val (.int (own_pp p0)), .val (.int (own_p2 p0)), .val (.int (own_p3 p0)), .val (.int (own_q p1)), .val (.int (own_q p2)), .val (.int (own_q p3)), .val (.int ((1 : Int32) + (p4 &&& (127 : Int32)))), .unset, .unset, .unset, .unset, .unset, .unset, .unset]) rfl ?_
      exact kt
    exact J73 _ (own_fA _)
  · refine OGo.step (F' := s₁.setTop (mkF m 56 #[.val (.int p0), .val (.int p1), .val (.int p2), .val (.int p3), .val (.int p4), .val (.int p5), .val (.int (own_pp p0)), .val (.int (own_p2 p0)), .val (.int (own_p3 p0)), .val (.int (own_q p1)), .val (.int (own_q p2)), .val (.int (own_q p3)), .unset, .unset, .unset, .unset, .unset, .unset, .unset, .unset] [])) (fun t kt => ?_) ?_
    · show Steps p.tables e below (s₁.setTop (mkF m 53 #[.val (.int p0), .val (.int p1), .val (.int p2), .val (.int p3), .val (.int p4), .val (.int p5), .val (.int (own_pp p0)), .val (.int (own_p2 p0)), .val (.int (own_p3 p0)), .val (.int (own_q p1)), .val (.int (own_q p2)), .val (.int (own_q p3)), .unset, .unset, .unset, .unset, .unset, .unset, .unset, .unset] [(.int (p4 &&& (1073741824 : Int32)))])) t
      refine XS.ifNo X0.here hx rfl (hb hby at_53) rfl ((if0 _ _).trans (feq hc53).1) ?_
      exact kt
    refine OGo.step (F' := s₁.setTop (mkF m 73 #[.val (.int p0), .val (.int p1), .val (.int p2), .val (.int p3), .val (.int p4), .val (.int p5), .val (.int (own_pp p0)), .val (.int (own_p2 p0)), .val (.int (own_p3 p0)), .val (.int (own_q p1)), .val (.int (own_q p2)), .val (.int (own_q p3)), .val (.int (p4 &&& (2147483647 : Int32))), .unset, .unset, .unset, .unset, .unset, .unset, .unset] [])) (fun t kt => ?_) ?_
    · show Steps p.tables e below (s₁.setTop (mkF m 56 #[.val (.int p0), .val (.int p1), .val (.int p2), .val (.int p3), .val (.int p4), .val (.int p5), .val (.int (own_pp p0)), .val (.int (own_p2 p0)), .val (.int (own_p3 p0)), .val (.int (own_q p1)), .val (.int (own_q p2)), .val (.int (own_q p3)), .unset, .unset, .unset, .unset, .unset, .unset, .unset, .unset] [])) t
      refine XS.iload X0.here hx rfl (hb hby at_56) rfl ?_
      show Steps p.tables e below (s₁.setTop (mkF m 58 #[.val (.int p0), .val (.int p1), .val (.int p2), .val (.int p3), .val (.int p4), .val (.int p5), .val (.int (own_pp p0)), .val (.int (own_p2 p0)), .val (.int (own_p3 p0)), .val (.int (own_q p1)), .val (.int (own_q p2)), .val (.int (own_q p3)), .unset, .unset, .unset, .unset, .unset, .unset, .unset, .unset] [(.int p4)])) t
      refine X0.ldcInt hx hown (mvT hZ (own_wd hw 52 rfl)) (g := (mkF m 58 #[.val (.int p0), .val (.int p1), .val (.int p2), .val (.int p3), .val (.int p4), .val (.int p5), .val (.int (own_pp p0)), .val (.int (own_p2 p0)), .val (.int (own_p3 p0)), .val (.int (own_q p1)), .val (.int (own_q p2)), .val (.int (own_q p3)), .unset, .unset, .unset, .unset, .unset, .unset, .unset, .unset] [(.int p4)])) rfl (hb hby at_58) _ ?_
      show Steps p.tables e below (s₁.setTop (mkF m 60 #[.val (.int p0), .val (.int p1), .val (.int p2), .val (.int p3), .val (.int p4), .val (.int p5), .val (.int (own_pp p0)), .val (.int (own_p2 p0)), .val (.int (own_p3 p0)), .val (.int (own_q p1)), .val (.int (own_q p2)), .val (.int (own_q p3)), .unset, .unset, .unset, .unset, .unset, .unset, .unset, .unset] [(.int (2147483647 : Int32)), (.int p4)])) t
      refine XS.iand X0.here hx rfl (hb hby at_60) rfl ?_
      show Steps p.tables e below (s₁.setTop (mkF m 61 #[.val (.int p0), .val (.int p1), .val (.int p2), .val (.int p3), .val (.int p4), .val (.int p5), .val (.int (own_pp p0)), .val (.int (own_p2 p0)), .val (.int (own_p3 p0)), .val (.int (own_q p1)), .val (.int (own_q p2)), .val (.int (own_q p3)), .unset, .unset, .unset, .unset, .unset, .unset, .unset, .unset] [(.int (p4 &&& (2147483647 : Int32)))])) t
      refine XS.goto X0.here hx rfl (pc0 := 61) (pc' := 71) rfl (hb hby at_61) (by decide) (by decide) ?_
      show Steps p.tables e below (s₁.setTop (mkF m 71 #[.val (.int p0), .val (.int p1), .val (.int p2), .val (.int p3), .val (.int p4), .val (.int p5), .val (.int (own_pp p0)), .val (.int (own_p2 p0)), .val (.int (own_p3 p0)), .val (.int (own_q p1)), .val (.int (own_q p2)), .val (.int (own_q p3)), .unset, .unset, .unset, .unset, .unset, .unset, .unset, .unset] [(.int (p4 &&& (2147483647 : Int32)))])) t
      refine XS.istore X0.here hx rfl (hb hby at_71) rfl (l' := #[.val (.int p0), .val (.int p1), .val (.int p2), .val (.int p3), .val (.int p4), .val (.int p5), .val (.int (own_pp p0)), .val (.int (own_p2 p0)), .val (.int (own_p3 p0)), .val (.int (own_q p1)), .val (.int (own_q p2)), .val (.int (own_q p3)), .val (.int (p4 &&& (2147483647 : Int32))), .unset, .unset, .unset, .unset, .unset, .unset, .unset]) rfl ?_
      exact kt
    exact J73 _ (own_fB _ hc53)
set_option maxRecDepth 65536 in
set_option maxHeartbeats 40000000 in
theorem comes_1 {Post : Tables → Env → Array Value → State → Outcome → State → Prop} (hpost : ∀ tb e args s v u, (limb_1_1.after args s (.returned v) u = true ∧ limb_1_2.after args s (.returned v) u = true ∧ True) → FrameEnd s (.returned v) u (Jvm.fieldLocs frame_1_writes args s ++ Jvm.arrayLocs frame_1_arrays args s ++ Jvm.staticLocs frame_1_statics s) 24 896 → Post tb e args s (.returned v) u) :
    ArmFor flags0 classFile x code maxLocals ret World_1 tables_1 room_1 Calls_1 rest_1 Pre_1 Post := by
  intro l hfl _ _ p e ha hc hk s m args below hf hA hF happ hP
  obtain ⟨hcalls, hrest, hpre⟩ := hP
  obtain ⟨-, -, -, hnamed, -, -, -, hat⟩ := (Spec.applies_iff hf).mp happ
  obtain ⟨hg, hn⟩ := and_e (Cond.before_iff.mp (show (Jvm.Cond.and given_1 narrow_1).before args s = true from hpre))
  obtain ⟨gc, gr0⟩ := and_e hg
  obtain ⟨ga0, gr1⟩ := and_e gr0
  obtain ⟨ga1, gr2⟩ := and_e gr1
  obtain ⟨ga2, gr3⟩ := and_e gr2
  obtain ⟨ga3, gr4⟩ := and_e gr3
  obtain ⟨ga4, gr5⟩ := and_e gr4
  have ga5 := gr5
  obtain ⟨w0, w1, w2, w3, w4, w5, rfl⟩ : ∃ w0 w1 w2 w3 w4 w5 : Value, args = #[w0, w1, w2, w3, w4, w5] := by
    have hs : args.size = 6 := by simpa [Cond.value, given_1] using gc
    obtain ⟨L⟩ := args
    match L, hs with
    | [w0, w1, w2, w3, w4, w5], _ => exact ⟨w0, w1, w2, w3, w4, w5, rfl⟩
  have hw := fun d (hd : d ∈ tables_1) => atoms_spec (ws := Jvm.Cond.code x code maxLocals ret :: tables_1) hat d (List.mem_cons_of_mem _ hd)
  have hfit : Fit s := fun {y c} hc i hi => by
    obtain ⟨ha, rfl⟩ := Array.getElem?_eq_some_iff.mp hc
    have q := List.all_eq_true.mp ((Array.all_eq_true_iff_forall_mem.mp hF) _ (Array.getElem_mem ha)) i (List.mem_range.mpr hi)
    simpa [Array.getElem?_eq_getElem hi] using q
  obtain ⟨i0, ei0⟩ := is_v ga0
  obtain rfl : w0 = (.int i0) := Option.some.inj ei0
  obtain ⟨i1, ei1⟩ := is_v ga1
  obtain rfl : w1 = (.int i1) := Option.some.inj ei1
  obtain ⟨i2, ei2⟩ := is_v ga2
  obtain rfl : w2 = (.int i2) := Option.some.inj ei2
  obtain ⟨i3, ei3⟩ := is_v ga3
  obtain rfl : w3 = (.int i3) := Option.some.inj ei3
  obtain ⟨i4, ei4⟩ := is_v ga4
  obtain rfl : w4 = (.int i4) := Option.some.inj ei4
  obtain ⟨i5, ei5⟩ := is_v ga5
  obtain rfl : w5 = (.int i5) := Option.some.inj ei5
  obtain ⟨n, o, h1, h2, h3, _, L, rfl, ⟨hv, N, -⟩, hq⟩ := rm0 l s _ hw tables_1 i0 i1 i2 i3 i4 i5 s.heap s.heap.size (Nat.le_refl _) p e ha hc hk s m _ below hf ((Spec.applies_iff_loose hf).mp happ).1 ⟨rfl, State.Warmed39.refl s, rfl⟩ trivial
  subst hv
  refine ⟨n, _, h1, h2, h3, hpost _ _ _ _ _ _ ⟨Cond.after_iff.mpr rfl, Cond.after_iff.mpr (eq_i res_at (Term.int_eval (1)) rfl), trivial⟩ ⟨hq.1, hq.2.1, (hq.2.2.sift fun y hy => Or.inr (N y hy)).mono (by decide) (by decide)⟩⟩
theorem main_1_1 : Claimed_1_1 := comes_1 fun _ _ _ _ _ _ h hF => ⟨h.1, hF⟩
theorem main_1_2 : Claimed_1_2 := comes_1 fun _ _ _ _ _ _ h hF => ⟨h.2.1, hF⟩
end Jvm.Pilot.@@N@@
namespace Jvm.Pilot.@@N@@
open Jvm Jvm.ClassFile Sem Op Lib Jvm.Free Jvm.Stand Jvm.Pilot.@@N@@.Jvm.D
/-! MADE BY PROGRAM (witnessworld.py) out of the Statement's table words and the real class files: 18 classes; the members and pool entries that the words name. The judged class is class 1, her method 2. -/
namespace start1
open Jvm.ClassFile
def u (s : String) : CpInfo := .utf8 (stringToUtf16 s)
/-- a pool by its gaps: so many unusable entries, then the entry; so many at the end -/
def gap : Nat → List CpInfo → List CpInfo
  | 0, r => r
  | n + 1, r => .unusable :: gap n r
def poolList (es : List (Nat × CpInfo)) (last : Nat) : List CpInfo := es.foldr (fun e r => gap e.1 (e.2 :: r)) (gap last [])
def pool (es : List (Nat × CpInfo)) (last : Nat) : Array CpInfo := ⟨poolList es last⟩
def fileOf (pool : Array CpInfo) (this : Nat) (attrs : Array Attribute := #[]) (ms : Array MethodInfo := #[]) (fl : Nat := 33) (sup : Nat := 0) (ifs : Array Nat := #[]) (fds : Array FieldInfo := #[]) : ClassFile where
  minorVersion := 0
  majorVersion := 65
  constantPool := pool
  accessFlags := fl
  thisClass := this
  superClass := sup
  interfaces := ifs
  fields := fds
  methods := ms
  attributes := attrs
def plain (name : String) (sup : Option ClassId) : Class where
  name := name
  kind := .ordinary
  loader := none
  accessFlags := 33
  super := sup
  interfaces := #[]
  cf := none
  fields := #[]
  methods := #[]
  instanceTypes := #[]
  staticTypes := #[]
  resolved := #[]
  callSites := []
  init := .initialized
  statics := none
  mirror := none

def pool0 : Array CpInfo := pool [(5, u "<init>"), (0, u "()V"), (1, .class_ 10), (1, u "java/lang/Object")] 113

def k0c0 : Code := { maxStack := 0, maxLocals := 1, code := object_method_1_code, exceptionTable := #[], attributes := #[] }
def k0m0 : Method := { name := "<init>", desc := "()V", sig := { parameters := [], returnType := none }, accessFlags := 1, code := some k0c0 }
/-- java/lang/Object -/
def k0 : Class := { plain "java/lang/Object" none with
  accessFlags := 33
  interfaces := #[]
  cf := some (fileOf pool0 8 #[] #[{ accessFlags := 1, nameIndex := 5, descriptorIndex := 6, attributes := #[] }] 33 0 #[] #[])
  fields := #[]
  methods := #[k0m0]
  instanceTypes := #[]
  staticTypes := #[]
  resolved := Array.replicate 124 none
  statics := none }

def pool1 : Array CpInfo := pool [(2, .class_ 4), (0, .nameAndType 5 6), (0, u "java/lang/Object"), (0, u "<init>"), (0, u "()V"), (0, .integer 65535), (0, .integer 1073741824), (0, .integer 2147483647), (0, .class_ 11), (0, u "com/example/kursor/kursor/storage/table/FreeSpace"), (0, .methodref 10 3), (0, .methodref 10 14), (0, .nameAndType 15 16), (0, u "set"), (0, u "(II)V"), (0, .methodref 10 18), (0, .nameAndType 19 20), (0, u "first"), (0, u "(II)I"), (0, .methodref 22 23), (0, .class_ 24), (0, .nameAndType 25 26), (0, u "com/example/kursor/kursor/storage/table/FreeSpaceFirstPinLaw"), (0, u "pick"), (0, u "(IZI)I"), (3, u "law"), (0, u "(IIIIII)Z")] 2

def k1m0 : Method := { name := "<init>", desc := "()V", sig := { parameters := [], returnType := none }, accessFlags := 2, code := none }
def k1c1 : Code := { maxStack := 2, maxLocals := 3, code := method_2_code, exceptionTable := #[], attributes := #[] }
def k1m1 : Method := { name := "pick", desc := "(IZI)I", sig := { parameters := [.int, .boolean, .int], returnType := some .int }, accessFlags := 10, code := some k1c1 }
def k1c2 : Code := { maxStack := 3, maxLocals := 20, code := code, exceptionTable := #[], attributes := #[] }
def k1m2 : Method := { name := "law", desc := "(IIIIII)Z", sig := { parameters := [.int, .int, .int, .int, .int, .int], returnType := some .boolean }, accessFlags := 9, code := some k1c2 }
/-- com/example/kursor/kursor/storage/table/FreeSpaceFirstPinLaw -/
def k1 : Class := { plain "com/example/kursor/kursor/storage/table/FreeSpaceFirstPinLaw" (some 0) with
  accessFlags := 49
  interfaces := #[]
  cf := some (fileOf pool1 22 #[] #[{ accessFlags := 2, nameIndex := 5, descriptorIndex := 6, attributes := #[] }, { accessFlags := 10, nameIndex := 25, descriptorIndex := 26, attributes := #[] }, { accessFlags := 9, nameIndex := 30, descriptorIndex := 31, attributes := #[] }] 49 2 #[] #[])
  fields := #[]
  methods := #[k1m0, k1m1, k1m2]
  instanceTypes := #[]
  staticTypes := #[]
  resolved := Array.replicate 34 none
  statics := none }

def pool2 : Array CpInfo := pool [(1, .methodref 2 3), (0, .class_ 4), (0, .nameAndType 5 6), (0, u "java/lang/Object"), (0, u "<init>"), (0, u "()V"), (0, .fieldref 8 9), (0, .class_ 10), (0, .nameAndType 11 12), (0, u "com/example/kursor/kursor/storage/table/FreeSpace"), (0, u "leaves"), (0, u "I"), (0, .fieldref 8 14), (0, .nameAndType 15 16), (0, u "tree"), (0, u "[C"), (0, .integer 536870912), (0, .methodref 8 19), (0, .nameAndType 20 21), (0, u "grow"), (0, u "(I)V"), (0, .methodref 23 24), (0, .class_ 25), (0, .nameAndType 26 27), (0, u "java/lang/Math"), (0, u "max"), (0, u "(II)I"), (0, .methodref 29 30), (0, .class_ 31), (0, .nameAndType 32 33), (0, u "java/lang/Integer"), (0, u "highestOneBit"), (0, u "(I)I"), (0, .methodref 35 36), (0, .class_ 37), (0, .nameAndType 38 39), (0, u "java/lang/System"), (0, u "arraycopy"), (0, u "(Ljava/lang/Object;ILjava/lang/Object;II)V"), (0, u "PAGES"), (5, u "set"), (0, u "(II)V"), (0, u "first")] 3

def k2c0 : Code := { maxStack := 2, maxLocals := 1, code := prog_211_method_1_code, exceptionTable := #[], attributes := #[] }
def k2m0 : Method := { name := "<init>", desc := "()V", sig := { parameters := [], returnType := none }, accessFlags := 0, code := some k2c0 }
def k2c1 : Code := { maxStack := 6, maxLocals := 4, code := prog_211_method_3_code, exceptionTable := #[], attributes := #[] }
def k2m1 : Method := { name := "set", desc := "(II)V", sig := { parameters := [.int, .int], returnType := none }, accessFlags := 0, code := some k2c1 }
def k2c2 : Code := { maxStack := 3, maxLocals := 4, code := prog_211_method_4_code, exceptionTable := #[], attributes := #[] }
def k2m2 : Method := { name := "first", desc := "(II)I", sig := { parameters := [.int, .int], returnType := some .int }, accessFlags := 0, code := some k2c2 }
def k2c3 : Code := { maxStack := 6, maxLocals := 5, code := prog_211_method_5_code, exceptionTable := #[], attributes := #[] }
def k2m3 : Method := { name := "grow", desc := "(I)V", sig := { parameters := [.int], returnType := none }, accessFlags := 2, code := some k2c3 }
/-- com/example/kursor/kursor/storage/table/FreeSpace -/
def k2 : Class := { plain "com/example/kursor/kursor/storage/table/FreeSpace" (some 0) with
  accessFlags := 48
  interfaces := #[]
  cf := some (fileOf pool2 8 #[] #[{ accessFlags := 0, nameIndex := 5, descriptorIndex := 6, attributes := #[] }, { accessFlags := 0, nameIndex := 46, descriptorIndex := 47, attributes := #[] }, { accessFlags := 0, nameIndex := 48, descriptorIndex := 27, attributes := #[] }, { accessFlags := 2, nameIndex := 20, descriptorIndex := 21, attributes := #[] }] 48 2 #[] #[{ accessFlags := 24, nameIndex := 40, descriptorIndex := 12, attributes := #[] }, { accessFlags := 2, nameIndex := 11, descriptorIndex := 12, attributes := #[] }, { accessFlags := 2, nameIndex := 15, descriptorIndex := 16, attributes := #[] }])
  fields := #[{ name := "PAGES", type := .int, accessFlags := 24, slot := 0, constantValue := 0 }, { name := "leaves", type := .int, accessFlags := 2, slot := 0, constantValue := 0 }, { name := "tree", type := (.array .char), accessFlags := 2, slot := 1, constantValue := 0 }]
  methods := #[k2m0, k2m1, k2m2, k2m3]
  instanceTypes := #[.int, (.array .char)]
  staticTypes := #[.int]
  resolved := Array.replicate 52 none
  statics := none }

def pool3 : Array CpInfo := pool [(1, .class_ 2), (0, u "java/io/Serializable"), (0, .class_ 4), (0, u "java/lang/Object")] 2

/-- java/io/Serializable -/
def k3 : Class := { plain "java/io/Serializable" (some 0) with
  accessFlags := 1537
  interfaces := #[]
  cf := some (fileOf pool3 1 #[] #[] 1537 3 #[] #[])
  fields := #[]
  methods := #[]
  instanceTypes := #[]
  staticTypes := #[]
  resolved := Array.replicate 7 none
  statics := none }

def pool4 : Array CpInfo := pool [(2, .class_ 4), (1, u "java/lang/Object"), (0, u "<init>"), (0, u "()V"), (1, .class_ 10), (1, u "java/lang/Number"), (2, .class_ 14), (0, u "java/io/Serializable"), (0, u "serialVersionUID"), (0, u "J")] 20

def k4m0 : Method := { name := "<init>", desc := "()V", sig := { parameters := [], returnType := none }, accessFlags := 1, code := none }
/-- java/lang/Number -/
def k4 : Class := { plain "java/lang/Number" (some 0) with
  accessFlags := 1057
  interfaces := #[3]
  cf := some (fileOf pool4 8 #[] #[{ accessFlags := 1, nameIndex := 5, descriptorIndex := 6, attributes := #[] }] 1057 2 #[13] #[{ accessFlags := 26, nameIndex := 15, descriptorIndex := 16, attributes := #[] }])
  fields := #[{ name := "serialVersionUID", type := .long, accessFlags := 26, slot := 0, constantValue := 0 }]
  methods := #[k4m0]
  instanceTypes := #[]
  staticTypes := #[.long]
  resolved := Array.replicate 37 none
  statics := none }

def pool5 : Array CpInfo := pool [(1, .class_ 2), (0, u "java/lang/Comparable"), (0, .class_ 4), (0, u "java/lang/Object")] 7

/-- java/lang/Comparable -/
def k5 : Class := { plain "java/lang/Comparable" (some 0) with
  accessFlags := 1537
  interfaces := #[]
  cf := some (fileOf pool5 1 #[] #[] 1537 3 #[] #[])
  fields := #[]
  methods := #[]
  instanceTypes := #[]
  staticTypes := #[]
  resolved := Array.replicate 12 none
  statics := none }

def pool6 : Array CpInfo := pool [(1, .class_ 2), (0, u "java/lang/constant/Constable"), (0, .class_ 4), (0, u "java/lang/Object")] 6

/-- java/lang/constant/Constable -/
def k6 : Class := { plain "java/lang/constant/Constable" (some 0) with
  accessFlags := 1537
  interfaces := #[]
  cf := some (fileOf pool6 1 #[] #[] 1537 3 #[] #[])
  fields := #[]
  methods := #[]
  instanceTypes := #[]
  staticTypes := #[]
  resolved := Array.replicate 11 none
  statics := none }

def pool7 : Array CpInfo := pool [(1, .class_ 2), (0, u "java/lang/constant/ConstantDesc"), (0, .class_ 4), (0, u "java/lang/Object")] 32

/-- java/lang/constant/ConstantDesc -/
def k7 : Class := { plain "java/lang/constant/ConstantDesc" (some 0) with
  accessFlags := 1537
  interfaces := #[]
  cf := some (fileOf pool7 1 #[] #[] 1537 3 #[] #[])
  fields := #[]
  methods := #[]
  instanceTypes := #[]
  staticTypes := #[]
  resolved := Array.replicate 37 none
  statics := none }

def pool8 : Array CpInfo := pool [(1, .class_ 2), (0, u "java/lang/Integer"), (16, u "digits"), (0, u "[C"), (30, .methodref 1 52), (0, .nameAndType 53 54), (0, u "numberOfLeadingZeros"), (0, u "(I)I"), (30, u "DigitOnes"), (0, u "[B"), (2, u "DigitTens"), (37, .integer 2147483648), (61, .class_ 190), (0, u "java/lang/Integer$IntegerCache"), (3, u "I"), (8, .class_ 204), (0, u "java/lang/Number"), (2, u "value"), (56, .integer 65536), (37, u "TYPE"), (0, u "Ljava/lang/Class;"), (0, .class_ 305), (0, u "java/lang/Comparable"), (0, .class_ 307), (0, u "java/lang/constant/Constable"), (0, .class_ 309), (0, u "java/lang/constant/ConstantDesc"), (0, u "MIN_VALUE"), (1, u "MAX_VALUE"), (3, u "SIZE"), (1, u "BYTES"), (1, u "serialVersionUID"), (0, u "J"), (81, u "highestOneBit")] 49

def k8c0 : Code := { maxStack := 3, maxLocals := 1, code := jdk_33_method_45_code, exceptionTable := #[], attributes := #[] }
def k8m0 : Method := { name := "highestOneBit", desc := "(I)I", sig := { parameters := [.int], returnType := some .int }, accessFlags := 9, code := some k8c0 }
def k8c1 : Code := { maxStack := 3, maxLocals := 2, code := jdk_33_method_47_code, exceptionTable := #[], attributes := #[] }
def k8m1 : Method := { name := "numberOfLeadingZeros", desc := "(I)I", sig := { parameters := [.int], returnType := some .int }, accessFlags := 9, code := some k8c1 }
/-- java/lang/Integer -/
def k8 : Class := { plain "java/lang/Integer" (some 4) with
  accessFlags := 49
  interfaces := #[5, 6, 7]
  cf := some (fileOf pool8 1 #[.nestMembers #[189]] #[{ accessFlags := 9, nameIndex := 403, descriptorIndex := 54, attributes := #[] }, { accessFlags := 9, nameIndex := 53, descriptorIndex := 54, attributes := #[] }] 49 203 #[304, 306, 308] #[{ accessFlags := 25, nameIndex := 310, descriptorIndex := 194, attributes := #[] }, { accessFlags := 25, nameIndex := 312, descriptorIndex := 194, attributes := #[] }, { accessFlags := 25, nameIndex := 302, descriptorIndex := 303, attributes := #[] }, { accessFlags := 24, nameIndex := 19, descriptorIndex := 20, attributes := #[] }, { accessFlags := 24, nameIndex := 89, descriptorIndex := 86, attributes := #[] }, { accessFlags := 24, nameIndex := 85, descriptorIndex := 86, attributes := #[] }, { accessFlags := 18, nameIndex := 207, descriptorIndex := 194, attributes := #[] }, { accessFlags := 25, nameIndex := 316, descriptorIndex := 194, attributes := #[] }, { accessFlags := 25, nameIndex := 318, descriptorIndex := 194, attributes := #[] }, { accessFlags := 26, nameIndex := 320, descriptorIndex := 321, attributes := #[] }])
  fields := #[{ name := "MIN_VALUE", type := .int, accessFlags := 25, slot := 0, constantValue := 0 }, { name := "MAX_VALUE", type := .int, accessFlags := 25, slot := 1, constantValue := 0 }, { name := "TYPE", type := (.object "java/lang/Class"), accessFlags := 25, slot := 2, constantValue := 0 }, { name := "digits", type := (.array .char), accessFlags := 24, slot := 3, constantValue := 0 }, { name := "DigitTens", type := (.array .byte), accessFlags := 24, slot := 4, constantValue := 0 }, { name := "DigitOnes", type := (.array .byte), accessFlags := 24, slot := 5, constantValue := 0 }, { name := "value", type := .int, accessFlags := 18, slot := 0, constantValue := 0 }, { name := "SIZE", type := .int, accessFlags := 25, slot := 6, constantValue := 0 }, { name := "BYTES", type := .int, accessFlags := 25, slot := 7, constantValue := 0 }, { name := "serialVersionUID", type := .long, accessFlags := 26, slot := 8, constantValue := 0 }]
  methods := #[k8m0, k8m1]
  instanceTypes := #[.int]
  staticTypes := #[.int, .int, (.object "java/lang/Class"), (.array .char), (.array .byte), (.array .byte), .int, .int, .long]
  resolved := Array.replicate 453 none
  statics := none }

def pool9 : Array CpInfo := pool [(2, .class_ 4), (1, u "java/lang/Object"), (0, u "<init>"), (0, u "()V"), (1, .class_ 10), (1, u "java/lang/System"), (0, u "allowSecurityManager"), (0, u "I"), (16, u "cons"), (0, u "Ljava/io/Console;"), (77, .class_ 110), (1, u "java/lang/System$CallersHolder"), (43, u "initialErrStream"), (0, u "Ljava/io/PrintStream;"), (19, u "security"), (0, u "Ljava/lang/SecurityManager;"), (31, .class_ 209), (0, u "java/lang/System$1"), (7, u "props"), (0, u "Ljava/util/Properties;"), (2, u "lineSeparator"), (0, u "Ljava/lang/String;"), (96, .class_ 321), (1, u "java/lang/System$LoggerFinder"), (5, .class_ 328), (0, u "java/lang/System$Logger"), (67, u "err"), (2, u "out"), (91, u "notSupportedJnuEncoding"), (15, u "in"), (17, u "initialIn"), (0, u "Ljava/io/InputStream;"), (35, u "bootLayer"), (0, u "Ljava/lang/ModuleLayer;"), (99, .class_ 664), (0, u "java/lang/System$2"), (9, u "NEVER"), (2, u "MAYBE"), (49, u "arraycopy"), (0, u "(Ljava/lang/Object;ILjava/lang/Object;II)V"), (72, .class_ 802), (0, u "java/lang/System$Logger$Level")] 31

def k9m0 : Method := { name := "<init>", desc := "()V", sig := { parameters := [], returnType := none }, accessFlags := 2, code := none }
def k9m1 : Method := { name := "arraycopy", desc := "(Ljava/lang/Object;ILjava/lang/Object;II)V", sig := { parameters := [(.object "java/lang/Object"), .int, (.object "java/lang/Object"), .int, .int], returnType := none }, accessFlags := 265, code := none }
/-- java/lang/System -/
def k9 : Class := { plain "java/lang/System" (some 0) with
  accessFlags := 49
  interfaces := #[]
  cf := some (fileOf pool9 8 #[.nestMembers #[319, 327, 801, 108, 663, 208]] #[{ accessFlags := 2, nameIndex := 5, descriptorIndex := 6, attributes := #[] }, { accessFlags := 265, nameIndex := 727, descriptorIndex := 728, attributes := #[] }] 49 2 #[] #[{ accessFlags := 25, nameIndex := 507, descriptorIndex := 526, attributes := #[] }, { accessFlags := 25, nameIndex := 399, descriptorIndex := 155, attributes := #[] }, { accessFlags := 25, nameIndex := 396, descriptorIndex := 155, attributes := #[] }, { accessFlags := 10, nameIndex := 525, descriptorIndex := 526, attributes := #[] }, { accessFlags := 26, nameIndex := 674, descriptorIndex := 12, attributes := #[] }, { accessFlags := 26, nameIndex := 677, descriptorIndex := 12, attributes := #[] }, { accessFlags := 10, nameIndex := 11, descriptorIndex := 12, attributes := #[] }, { accessFlags := 74, nameIndex := 175, descriptorIndex := 176, attributes := #[] }, { accessFlags := 10, nameIndex := 491, descriptorIndex := 222, attributes := #[] }, { accessFlags := 74, nameIndex := 29, descriptorIndex := 30, attributes := #[] }, { accessFlags := 74, nameIndex := 154, descriptorIndex := 155, attributes := #[] }, { accessFlags := 10, nameIndex := 217, descriptorIndex := 218, attributes := #[] }, { accessFlags := 10, nameIndex := 221, descriptorIndex := 222, attributes := #[] }, { accessFlags := 8, nameIndex := 562, descriptorIndex := 563, attributes := #[] }])
  fields := #[{ name := "in", type := (.object "java/io/InputStream"), accessFlags := 25, slot := 0, constantValue := 0 }, { name := "out", type := (.object "java/io/PrintStream"), accessFlags := 25, slot := 1, constantValue := 0 }, { name := "err", type := (.object "java/io/PrintStream"), accessFlags := 25, slot := 2, constantValue := 0 }, { name := "initialIn", type := (.object "java/io/InputStream"), accessFlags := 10, slot := 3, constantValue := 0 }, { name := "NEVER", type := .int, accessFlags := 26, slot := 4, constantValue := 0 }, { name := "MAYBE", type := .int, accessFlags := 26, slot := 5, constantValue := 0 }, { name := "allowSecurityManager", type := .int, accessFlags := 10, slot := 6, constantValue := 0 }, { name := "security", type := (.object "java/lang/SecurityManager"), accessFlags := 74, slot := 7, constantValue := 0 }, { name := "notSupportedJnuEncoding", type := (.object "java/lang/String"), accessFlags := 10, slot := 8, constantValue := 0 }, { name := "cons", type := (.object "java/io/Console"), accessFlags := 74, slot := 9, constantValue := 0 }, { name := "initialErrStream", type := (.object "java/io/PrintStream"), accessFlags := 74, slot := 10, constantValue := 0 }, { name := "props", type := (.object "java/util/Properties"), accessFlags := 10, slot := 11, constantValue := 0 }, { name := "lineSeparator", type := (.object "java/lang/String"), accessFlags := 10, slot := 12, constantValue := 0 }, { name := "bootLayer", type := (.object "java/lang/ModuleLayer"), accessFlags := 8, slot := 13, constantValue := 0 }]
  methods := #[k9m0, k9m1]
  instanceTypes := #[]
  staticTypes := #[(.object "java/io/InputStream"), (.object "java/io/PrintStream"), (.object "java/io/PrintStream"), (.object "java/io/InputStream"), .int, .int, .int, (.object "java/lang/SecurityManager"), (.object "java/lang/String"), (.object "java/io/Console"), (.object "java/io/PrintStream"), (.object "java/util/Properties"), (.object "java/lang/String"), (.object "java/lang/ModuleLayer")]
  resolved := Array.replicate 834 none
  statics := none }

def pool10 : Array CpInfo := pool [(1, .class_ 2), (0, u "java/lang/Math"), (1, .class_ 6), (1, u "java/lang/Object"), (0, u "<init>"), (0, u "()V"), (89, .class_ 100), (1, u "java/lang/Math$RandomNumberGeneratorHolder"), (71, u "negativeZeroFloatBits"), (0, u "J"), (2, u "negativeZeroDoubleBits"), (21, u "max"), (46, u "$assertionsDisabled"), (0, u "Z"), (88, u "(II)I"), (2, u "twoToTheDoubleScaleDown"), (0, u "D"), (4, u "twoToTheDoubleScaleUp"), (9, u "E"), (3, u "PI"), (2, u "TAU"), (2, u "DEGREES_TO_RADIANS"), (0, u "RADIANS_TO_DEGREES")] 94

def k10m0 : Method := { name := "<init>", desc := "()V", sig := { parameters := [], returnType := none }, accessFlags := 2, code := none }
def k10c1 : Code := { maxStack := 2, maxLocals := 2, code := jdk_29_method_65_code, exceptionTable := #[], attributes := #[] }
def k10m1 : Method := { name := "max", desc := "(II)I", sig := { parameters := [.int, .int], returnType := some .int }, accessFlags := 9, code := some k10c1 }
/-- java/lang/Math -/
def k10 : Class := { plain "java/lang/Math" (some 0) with
  accessFlags := 49
  interfaces := #[]
  cf := some (fileOf pool10 1 #[.nestMembers #[98]] #[{ accessFlags := 2, nameIndex := 7, descriptorIndex := 8, attributes := #[] }, { accessFlags := 9, nameIndex := 198, descriptorIndex := 335, attributes := #[] }] 49 4 #[] #[{ accessFlags := 25, nameIndex := 354, descriptorIndex := 339, attributes := #[] }, { accessFlags := 25, nameIndex := 358, descriptorIndex := 339, attributes := #[] }, { accessFlags := 25, nameIndex := 361, descriptorIndex := 339, attributes := #[] }, { accessFlags := 26, nameIndex := 364, descriptorIndex := 339, attributes := #[] }, { accessFlags := 26, nameIndex := 365, descriptorIndex := 339, attributes := #[] }, { accessFlags := 26, nameIndex := 172, descriptorIndex := 173, attributes := #[] }, { accessFlags := 26, nameIndex := 176, descriptorIndex := 173, attributes := #[] }, { accessFlags := 8, nameIndex := 344, descriptorIndex := 339, attributes := #[] }, { accessFlags := 8, nameIndex := 338, descriptorIndex := 339, attributes := #[] }, { accessFlags := 4120, nameIndex := 245, descriptorIndex := 246, attributes := #[] }])
  fields := #[{ name := "E", type := .double, accessFlags := 25, slot := 0, constantValue := 0 }, { name := "PI", type := .double, accessFlags := 25, slot := 1, constantValue := 0 }, { name := "TAU", type := .double, accessFlags := 25, slot := 2, constantValue := 0 }, { name := "DEGREES_TO_RADIANS", type := .double, accessFlags := 26, slot := 3, constantValue := 0 }, { name := "RADIANS_TO_DEGREES", type := .double, accessFlags := 26, slot := 4, constantValue := 0 }, { name := "negativeZeroFloatBits", type := .long, accessFlags := 26, slot := 5, constantValue := 0 }, { name := "negativeZeroDoubleBits", type := .long, accessFlags := 26, slot := 6, constantValue := 0 }, { name := "twoToTheDoubleScaleUp", type := .double, accessFlags := 8, slot := 7, constantValue := 0 }, { name := "twoToTheDoubleScaleDown", type := .double, accessFlags := 8, slot := 8, constantValue := 0 }, { name := "$assertionsDisabled", type := .boolean, accessFlags := 4120, slot := 9, constantValue := 0 }]
  methods := #[k10m0, k10m1]
  instanceTypes := #[]
  staticTypes := #[.double, .double, .double, .double, .double, .long, .long, .double, .double, .boolean]
  resolved := Array.replicate 460 none
  statics := none }

def pool11 : Array CpInfo := pool [(1, u "java/lang/Cloneable"), (0, .class_ 1), (0, u "java/lang/Object"), (0, .class_ 3)] 3

/-- java/lang/Cloneable -/
def k11 : Class := { plain "java/lang/Cloneable" (some 0) with
  accessFlags := 1537
  interfaces := #[]
  cf := some (fileOf pool11 2 #[] #[] 1537 4 #[] #[])
  fields := #[]
  methods := #[]
  instanceTypes := #[]
  staticTypes := #[]
  resolved := Array.replicate 8 none
  statics := none }

/-- the primitive byte -/
def k12 : Class := { plain "byte" none with kind := .primitive 'B', accessFlags := 0x411 }
/-- [B -/
def k13 : Class := { plain "[B" (some 0) with kind := .array 12 .byte, interfaces := #[11, 3], accessFlags := 1041 }

/-- the primitive char -/
def k14 : Class := { plain "char" none with kind := .primitive 'C', accessFlags := 0x411 }
/-- [C -/
def k15 : Class := { plain "[C" (some 0) with kind := .array 14 .char, interfaces := #[11, 3], accessFlags := 1041 }

/-- the primitive int -/
def k16 : Class := { plain "int" none with kind := .primitive 'I', accessFlags := 0x411 }
/-- [I -/
def k17 : Class := { plain "[I" (some 0) with kind := .array 16 .int, interfaces := #[11, 3], accessFlags := 1041 }

def heap : Heap := #[]
def classes : Array Class := #[k0, k1, k2, k3, k4, k5, k6, k7, k8, k9, k10, k11, k12, k13, k14, k15, k16, k17]
def interned : List (Array UInt16 × Addr) := []
def slotsUsed : Nat := 0
def theMethod : MethodId := ⟨1, 2⟩
def args0 : Array Value := #[.int 5, .int 7, .int 1, .int 2, .int 3, .int 4]
def aboutOver (below : List Frame) : State where
  vm := { classes := classes, interned := interned.toArray }
  heap := heap
  slotsUsed := slotsUsed
  threads := #[{ frames := .invoking theMethod args0 :: below }]
def below0 : List Frame := [.native { method := ⟨0, 0⟩, args := #[] }]
def about1 : State := aboutOver below0
def p0 : Program := .bare "" "" ""
def e0 : Env := launch0.env 0 0 0
theorem w_frames : about1.frames = Frame.invoking theMethod args0 :: below0 := rfl
set_option maxRecDepth 65536 in
theorem w_args : argsFit about1.vm theMethod args0 = true := by decide +kernel
set_option maxRecDepth 65536 in
theorem w_heap : heapFits about1 = true := by decide +kernel
set_option maxRecDepth 65536 in
theorem w_runnable : about1.curStatus? = some .runnable := by decide +kernel
set_option maxRecDepth 65536 in
theorem w_alone : about1.alone = true := by decide +kernel
set_option maxRecDepth 65536 in
theorem w_named : about1.methodNamed? x = some theMethod := by decide +kernel
set_option maxRecDepth 65536 in
theorem w_hears : about1.hears theMethod below0 = true := by decide +kernel
set_option maxRecDepth 65536 in
theorem w_ripe : about1.ripe theMethod args0 below0 = true := by decide +kernel
theorem w_running : about1.status = .running := rfl
set_option maxRecDepth 65536 in
theorem w_room : about1.hasRoom e0.platform room_1 = true :=
  launch0.hasRoom_least _ room_1 (by decide +kernel) (by decide +kernel) (by decide +kernel) (by decide +kernel) (by decide +kernel) (by decide +kernel)
theorem allAtoms_all (ts : List Jvm.Cond) (a : Array Jvm.Value) (st : Jvm.State) : (allAtoms ts).before a st = ts.all (fun c => c.before a st) := by
  induction ts with
  | nil => rfl
  | cons c t ih =>
    show (Jvm.Cond.and c (allAtoms t)).before a st = _
    rw [Jvm.Cond.before_and, ih, List.all_cons]
def words1 : List Jvm.Cond := Jvm.Cond.code x code maxLocals ret :: tables_1
/-- a 'code' word, met by the world's own term for the bytes: nothing is compared byte by byte -/
theorem code_word {y : MethodName} {bytes : ByteArray} {mx : Nat} {rt : Option FieldType} {a : Array Value} {s : State} {m : MethodId} {meth : Method} {c : Code} (h1 : s.methodNamed? y = some m) (h2 : s.vm.method? m = some meth) (h3 : meth.code = some c) (h4 : c.code = bytes)
    (h5 : (c.maxLocals == mx && c.exceptionTable.isEmpty && decide (c.maxStack ≤ mostOperands) && decide (meth.sig.returnType = rt) && !meth.locks && decide (parseMethodDescriptor y.desc = some meth.sig)) = true) : (Jvm.Cond.code y bytes mx rt).before a s = true := by
  simp only [Bool.and_eq_true, beq_iff_eq, Bool.not_eq_true', decide_eq_true_eq] at h5
  obtain ⟨⟨⟨⟨⟨g1, g2⟩, g3⟩, g4⟩, g5⟩, g6⟩ := h5
  simp [Cond.before, Cond.holds, Cond.value, h1, h2, h3, h4, g1, g2, g3, g4, g5, g6]
def isCode : Jvm.Cond → Bool
  | .code _ _ _ _ => true
  | _ => false
theorem all_split {L : List Jvm.Cond} {P : Jvm.Cond → Bool} (h1 : L.all (fun c => isCode c || P c) = true) (h2 : ∀ c ∈ L.filter isCode, P c = true) : L.all P = true := by
  refine List.all_eq_true.mpr fun c hc => ?_
  have h := List.all_eq_true.mp h1 c hc
  rcases Bool.eq_false_or_eq_true (isCode c) with hi | hi
  · exact h2 c (List.mem_filter.mpr ⟨hc, hi⟩)
  · simpa [hi] using h
set_option maxRecDepth 65536 in
theorem w_c0 : (Jvm.Cond.code x code maxLocals ret).before args0 about1 = true := code_word (m := ⟨1, 2⟩) (meth := k1m2) (c := k1c2) (by decide +kernel) rfl rfl rfl (by decide +kernel)
set_option maxRecDepth 65536 in
theorem w_c1 : (Jvm.Cond.code ({ cls := "com/example/kursor/kursor/storage/table/FreeSpace", name := "<init>", desc := "()V" } : Jvm.MethodName) prog_211_method_1_code (1 : Nat) (Option.none : Option Jvm.ClassFile.FieldType)).before args0 about1 = true := code_word (m := ⟨2, 0⟩) (meth := k2m0) (c := k2c0) (by decide +kernel) rfl rfl rfl (by decide +kernel)
set_option maxRecDepth 65536 in
theorem w_c2 : (Jvm.Cond.code ({ cls := "java/lang/Object", name := "<init>", desc := "()V" } : Jvm.MethodName) object_method_1_code (1 : Nat) (Option.none : Option Jvm.ClassFile.FieldType)).before args0 about1 = true := code_word (m := ⟨0, 0⟩) (meth := k0m0) (c := k0c0) (by decide +kernel) rfl rfl rfl (by decide +kernel)
set_option maxRecDepth 65536 in
theorem w_c3 : (Jvm.Cond.code ({ cls := "com/example/kursor/kursor/storage/table/FreeSpace", name := "set", desc := "(II)V" } : Jvm.MethodName) prog_211_method_3_code (4 : Nat) (Option.none : Option Jvm.ClassFile.FieldType)).before args0 about1 = true := code_word (m := ⟨2, 1⟩) (meth := k2m1) (c := k2c1) (by decide +kernel) rfl rfl rfl (by decide +kernel)
set_option maxRecDepth 65536 in
theorem w_c4 : (Jvm.Cond.code ({ cls := "com/example/kursor/kursor/storage/table/FreeSpace", name := "grow", desc := "(I)V" } : Jvm.MethodName) prog_211_method_5_code (5 : Nat) (Option.none : Option Jvm.ClassFile.FieldType)).before args0 about1 = true := code_word (m := ⟨2, 3⟩) (meth := k2m3) (c := k2c3) (by decide +kernel) rfl rfl rfl (by decide +kernel)
set_option maxRecDepth 65536 in
theorem w_c5 : (Jvm.Cond.code ({ cls := "java/lang/Integer", name := "highestOneBit", desc := "(I)I" } : Jvm.MethodName) jdk_33_method_45_code (1 : Nat) (Option.some Jvm.ClassFile.FieldType.int)).before args0 about1 = true := code_word (m := ⟨8, 0⟩) (meth := k8m0) (c := k8c0) (by decide +kernel) rfl rfl rfl (by decide +kernel)
set_option maxRecDepth 65536 in
theorem w_c6 : (Jvm.Cond.code ({ cls := "java/lang/Integer", name := "numberOfLeadingZeros", desc := "(I)I" } : Jvm.MethodName) jdk_33_method_47_code (2 : Nat) (Option.some Jvm.ClassFile.FieldType.int)).before args0 about1 = true := code_word (m := ⟨8, 1⟩) (meth := k8m1) (c := k8c1) (by decide +kernel) rfl rfl rfl (by decide +kernel)
set_option maxRecDepth 65536 in
theorem w_c7 : (Jvm.Cond.code ({ cls := "java/lang/Math", name := "max", desc := "(II)I" } : Jvm.MethodName) jdk_29_method_65_code (2 : Nat) (Option.some Jvm.ClassFile.FieldType.int)).before args0 about1 = true := code_word (m := ⟨10, 1⟩) (meth := k10m1) (c := k10c1) (by decide +kernel) rfl rfl rfl (by decide +kernel)
set_option maxRecDepth 65536 in
theorem w_c8 : (Jvm.Cond.code ({ cls := "com/example/kursor/kursor/storage/table/FreeSpace", name := "first", desc := "(II)I" } : Jvm.MethodName) prog_211_method_4_code (4 : Nat) (Option.some Jvm.ClassFile.FieldType.int)).before args0 about1 = true := code_word (m := ⟨2, 2⟩) (meth := k2m2) (c := k2c2) (by decide +kernel) rfl rfl rfl (by decide +kernel)
set_option maxRecDepth 65536 in
theorem w_c9 : (Jvm.Cond.code ({ cls := "com/example/kursor/kursor/storage/table/FreeSpaceFirstPinLaw", name := "pick", desc := "(IZI)I" } : Jvm.MethodName) method_2_code (3 : Nat) (Option.some Jvm.ClassFile.FieldType.int)).before args0 about1 = true := code_word (m := ⟨1, 1⟩) (meth := k1m1) (c := k1c1) (by decide +kernel) rfl rfl rfl (by decide +kernel)
def codes1 : List Jvm.Cond := [Jvm.Cond.code x code maxLocals ret, Jvm.Cond.code ({ cls := "com/example/kursor/kursor/storage/table/FreeSpace", name := "<init>", desc := "()V" } : Jvm.MethodName) prog_211_method_1_code (1 : Nat) (Option.none : Option Jvm.ClassFile.FieldType), Jvm.Cond.code ({ cls := "java/lang/Object", name := "<init>", desc := "()V" } : Jvm.MethodName) object_method_1_code (1 : Nat) (Option.none : Option Jvm.ClassFile.FieldType), Jvm.Cond.code ({ cls := "com/example/kursor/kursor/storage/table/FreeSpace", name := "set", desc := "(II)V" } : Jvm.MethodName) prog_211_method_3_code (4 : Nat) (Option.none : Option Jvm.ClassFile.FieldType), Jvm.Cond.code ({ cls := "com/example/kursor/kursor/storage/table/FreeSpace", name := "grow", desc := "(I)V" } : Jvm.MethodName) prog_211_method_5_code (5 : Nat) (Option.none : Option Jvm.ClassFile.FieldType), Jvm.Cond.code ({ cls := "java/lang/Integer", name := "highestOneBit", desc := "(I)I" } : Jvm.MethodName) jdk_33_method_45_code (1 : Nat) (Option.some Jvm.ClassFile.FieldType.int), Jvm.Cond.code ({ cls := "java/lang/Integer", name := "numberOfLeadingZeros", desc := "(I)I" } : Jvm.MethodName) jdk_33_method_47_code (2 : Nat) (Option.some Jvm.ClassFile.FieldType.int), Jvm.Cond.code ({ cls := "java/lang/Math", name := "max", desc := "(II)I" } : Jvm.MethodName) jdk_29_method_65_code (2 : Nat) (Option.some Jvm.ClassFile.FieldType.int), Jvm.Cond.code ({ cls := "com/example/kursor/kursor/storage/table/FreeSpace", name := "first", desc := "(II)I" } : Jvm.MethodName) prog_211_method_4_code (4 : Nat) (Option.some Jvm.ClassFile.FieldType.int), Jvm.Cond.code ({ cls := "com/example/kursor/kursor/storage/table/FreeSpaceFirstPinLaw", name := "pick", desc := "(IZI)I" } : Jvm.MethodName) method_2_code (3 : Nat) (Option.some Jvm.ClassFile.FieldType.int)]
set_option maxRecDepth 65536 in
theorem codes_eq : words1.filter isCode = codes1 := rfl
theorem w_codes : ∀ c ∈ words1.filter isCode, c.before args0 about1 = true := by
  rw [codes_eq]
  intro c hc
  simp only [codes1, List.mem_cons, List.not_mem_nil, or_false] at hc
  rcases hc with rfl | rfl | rfl | rfl | rfl | rfl | rfl | rfl | rfl | rfl
  · exact w_c0
  · exact w_c1
  · exact w_c2
  · exact w_c3
  · exact w_c4
  · exact w_c5
  · exact w_c6
  · exact w_c7
  · exact w_c8
  · exact w_c9
set_option maxRecDepth 65536 in
theorem w_t1 : (words1.take 24).all (fun c => isCode c || c.before args0 about1) = true := by decide +kernel
set_option maxRecDepth 65536 in
theorem w_t2 : ((words1.drop 24).take 24).all (fun c => isCode c || c.before args0 about1) = true := by decide +kernel
set_option maxRecDepth 65536 in
theorem w_t3 : ((words1.drop 24).drop 24).all (fun c => isCode c || c.before args0 about1) = true := by decide +kernel
theorem w_tables : (allAtoms (Jvm.Cond.code x code maxLocals ret :: tables_1)).before args0 about1 = true := by
  rw [allAtoms_all]
  show words1.all (fun c => c.before args0 about1) = true
  refine all_split ?_ w_codes
  rw [← List.take_append_drop 24 words1, List.all_append, w_t1, ← List.take_append_drop 24 (words1.drop 24), List.all_append, w_t2, w_t3]
  rfl
set_option maxRecDepth 65536 in
theorem w_case : (Jvm.Cond.and given_1 narrow_1).before args0 about1 = true := by decide +kernel
theorem w_applies : (headSpec (Jvm.Cond.code x code maxLocals ret :: tables_1) room_1).applies x e0.platform about1 = true :=
  (Spec.applies_iff w_frames).mpr ⟨w_running, w_runnable, w_alone, w_named, w_hears, w_ripe, w_room, w_tables⟩
theorem atStart : AtStart classFile x code maxLocals ret World_1 tables_1 room_1 Calls_1 rest_1 Pre_1 launch0 p0 e0 about1 theMethod args0 below0 :=
  ⟨lists_1, trivial, launch0.admits_env _ _ _, launch0.least_env, fairChoices_fair.cas, fairChoices_fair.clock, w_frames, w_args, w_heap, w_applies, trivial, trivial, w_case⟩
end start1
theorem witness_1 : WitnessClaimed_1 := ⟨start1.p0, start1.e0, start1.about1, start1.theMethod, start1.args0, start1.below0, start1.atStart⟩
end Jvm.Pilot.@@N@@
