import JvmDerived
import JvmDerived.Pilot.@@N@@Statement
import JvmDerived.Pilot.@@N@@Code
set_option linter.unusedVariables false
set_option linter.unusedSimpArgs false
namespace Jvm.Pilot.@@N@@
open Jvm Jvm.ClassFile Sem Op Lib Jvm.Free Jvm.Stand Jvm.LawKit Jvm.RoadKit Bundle Jvm.Pilot.@@N@@.Jvm.D
section OwnKit
variable {p : Program} {l : Launch} {e : Env} {R : Room} {s : State} {m : MethodId} {args : Array Value} {below : List Frame} {meth : Method} {c : Code} {T : State} {locs : List Loc} {cells slots : Nat} {Z : State} {a0 : Array Value} {h : Heap} {Q : Option Value → Heap → List Loc → Prop} {kc ks : Nat}
/-- from the state F the run comes to its return, with what Q says -/
def OGo (p : Program) (e : Env) (below : List Frame) (s : State) (Q : Option Value → Heap → List Loc → Prop) (kc ks : Nat) (F : State) : Prop :=
  ∃ (s₂ : State) (o : Outcome), Steps p.tables e below F s₂ ∧ s₂.status = .running ∧ Ended s₂ below o ∧ ∃ v L, o = .returned v ∧ Q v s₂.heap L ∧ FrameEnd s o s₂ L kc ks
theorem OGo.step {F F' : State} (k : ∀ t, Steps p.tables e below F' t → Steps p.tables e below F t) (g : OGo p e below s Q kc ks F') : OGo p e below s Q kc ks F := by
  obtain ⟨s₂, o, h, r⟩ := g
  exact ⟨s₂, o, k _ h, r⟩
theorem OGo.retOut (X : Stand p l e R s m args below meth c T locs cells slots) (hx : p.tables.exec = Jvm.exec) (hlk : meth.locks = false) {pc : Nat} {Ls : Array Slot} {w : Value} {t : FieldType} {i : Instr} {rest : List Value} (hret : meth.sig.returnType = some t) (hn : narrow t w = w)
    (hi : (i = .ireturn ∧ (t = .int ∨ t = .boolean ∨ t = .byte ∨ t = .char ∨ t = .short) ∧ ∃ z, w = .int z) ∨ (i = .lreturn ∧ t = .long ∧ ∃ z, w = .long z) ∨ (i = .dreturn ∧ t = .double ∧ ∃ z, w = .double z) ∨ (i = .freturn ∧ t = .float ∧ ∃ z, w = .float z) ∨ (i = .areturn ∧ t.isReference = true ∧ w.isRef = true))
    (hd : decode c.code pc = .ok (i, 1)) (hQ : Q (some w) T.heap locs) (hc : cells ≤ kc) (hs : slots ≤ ks) : OGo p e below s Q kc ks (T.setTop (mkF m pc Ls (w :: rest))) := by
  obtain ⟨fs, hr, hrun, hended, hW, hsame⟩ := X.leave (v := some w) (fun h => by rw [hret] at h; cases h) hlk
  exact ⟨_, _, Jvm.RoadKit.retOut X hx hret hn hi hd hr, hrun, hended, _, _, rfl, hQ, ⟨_, rfl⟩, hW, hsame.mono hc hs⟩
theorem OGo.retI (X : Stand p l e R s m args below meth c T locs cells slots) (hx : p.tables.exec = Jvm.exec) (hlk : meth.locks = false) {pc : Nat} {Ls : Array Slot} {z : Int32} {rest : List Value} (hret : meth.sig.returnType = some .int) (hd : decode c.code pc = .ok (.ireturn, 1)) (hQ : Q (some (.int z)) T.heap locs) (hc : cells ≤ kc) (hs : slots ≤ ks) :
    OGo p e below s Q kc ks (T.setTop (mkF m pc Ls (.int z :: rest))) := OGo.retOut X hx hlk hret rfl (Or.inl ⟨rfl, Or.inl rfl, _, rfl⟩) hd hQ hc hs
theorem OGo.retJ (X : Stand p l e R s m args below meth c T locs cells slots) (hx : p.tables.exec = Jvm.exec) (hlk : meth.locks = false) {pc : Nat} {Ls : Array Slot} {z : Int64} {rest : List Value} (hret : meth.sig.returnType = some .long) (hd : decode c.code pc = .ok (.lreturn, 1)) (hQ : Q (some (.long z)) T.heap locs) (hc : cells ≤ kc) (hs : slots ≤ ks) :
    OGo p e below s Q kc ks (T.setTop (mkF m pc Ls (.long z :: rest))) := OGo.retOut X hx hlk hret rfl (Or.inr (Or.inl ⟨rfl, rfl, _, rfl⟩)) hd hQ hc hs
theorem OGo.retA (X : Stand p l e R s m args below meth c T locs cells slots) (hx : p.tables.exec = Jvm.exec) (hlk : meth.locks = false) {pc : Nat} {Ls : Array Slot} {w : Value} {t : FieldType} {rest : List Value} (hret : meth.sig.returnType = some t) (ht : t.isReference = true) (hw : w.isRef = true) (hn : narrow t w = w) (hd : decode c.code pc = .ok (.areturn, 1)) (hQ : Q (some w) T.heap locs) (hc : cells ≤ kc) (hs : slots ≤ ks) :
    OGo p e below s Q kc ks (T.setTop (mkF m pc Ls (w :: rest))) := OGo.retOut X hx hlk hret hn (Or.inr (Or.inr (Or.inr (Or.inr ⟨rfl, ht, hw⟩)))) hd hQ hc hs
theorem OGo.retZ (X : Stand p l e R s m args below meth c T locs cells slots) (hx : p.tables.exec = Jvm.exec) (hlk : meth.locks = false) {pc : Nat} {Ls : Array Slot} {z z' : Int32} {t : FieldType} {rest : List Value} (hret : meth.sig.returnType = some t) (ht : t = .boolean ∨ t = .byte ∨ t = .char ∨ t = .short) (hd : decode c.code pc = .ok (.ireturn, 1)) (hz : nar t z = z') (hQ : Q (some (.int z')) T.heap locs) (hc : cells ≤ kc) (hs : slots ≤ ks) :
    OGo p e below s Q kc ks (T.setTop (mkF m pc Ls (.int z :: rest))) := by
  subst hz
  obtain ⟨fs, hr, hrun, hended, hW, hsame⟩ := X.leave (v := some (.int (nar t z))) (fun h => by rw [hret] at h; cases h) hlk
  exact ⟨_, _, Jvm.RoadKit.retN X hx hret ht hd hr, hrun, hended, _, _, rfl, hQ, ⟨_, rfl⟩, hW, hsame.mono hc hs⟩
theorem OGo.retV (X : Stand p l e R s m args below meth c T locs cells slots) (hx : p.tables.exec = Jvm.exec) (hlk : meth.locks = false) {pc : Nat} {Ls : Array Slot} (hret : meth.sig.returnType = none) (hd : decode c.code pc = .ok (.return_, 1)) (hQ : Q none T.heap locs) (hc : cells ≤ kc) (hs : slots ≤ ks) :
    OGo p e below s Q kc ks (T.setTop (mkF m pc Ls [])) := by
  obtain ⟨fs, hr, hrun, hended, hW, hsame⟩ := X.leave (v := none) (fun _ => rfl) hlk
  exact ⟨_, _, X.returnOut hx hret hd hr, hrun, hended, _, _, rfl, hQ, ⟨_, rfl⟩, hW, hsame.mono hc hs⟩
/-- a body's contract -/
abbrev OCtr (l : Launch) (Z : State) (y : MethodName) (bytes : ByteArray) (maxL : Nat) (ret : Option FieldType) (ws : List Jvm.Cond) (rm : Room) (as' : Array Value) (h0 : Heap) (Q : Option Value → Heap → List Loc → Prop) : Prop :=
  MetFree l y (head1 (Jvm.Cond.code y bytes maxL ret :: ws) rm) (fun a U => a = as' ∧ Z.Warmed39 U.vm ∧ U.heap = h0) (fun _ _ _ _ _ => True) (fun _ U o U' => ∃ v L, o = .returned v ∧ Q v U'.heap L ∧ FrameEnd U o U' L rm.cells rm.slots)
theorem OCtr.of {y : MethodName} {bytes : ByteArray} {maxL : Nat} {ret : Option FieldType} {ws : List Jvm.Cond} {rm : Room} {as' : Array Value} (hp : plainFor y = true)
    (k : ∀ (p : Program) (e : Env) (s : State) (m : MethodId) (below : List Frame) (meth : Method) (c : Code) (s₁ : State), Stand p l e rm s m as' below meth c s₁ [] 0 0 → p.tables.exec = Jvm.exec → meth.locks = false → Z.Warmed39 s.vm → s.vm.findClass y.cls = some m.cls → meth.name = y.name → c.code = bytes → c.maxLocals = maxL → meth.sig.returnType = ret → s₁.heap = h →
      OGo p e below s Q rm.cells rm.slots (s₁.setTop (entryFrame m as' maxL))) : OCtr l Z y bytes maxL ret ws rm as' h Q := by
  refine MetFree.of_bodySF hp hisR ?_
  intro p e s m args below meth c s₁ Bd hml0 hP hK
  obtain ⟨rfl, hZ, hh⟩ := hP
  exact k p e s m below meth c s₁ (Stand.of_body Bd) Bd.exec Bd.notSynchronized hZ (findClass_of_methodNamed Bd.named) (name_of_methodNamed Bd.named Bd.method).1 Bd.bytes hml0 Bd.returns (by rw [← hh, Bd.state]; rfl)
/-- it returns w, and the heap is as it was -/
def OPure (w : Option Value) (h0 : Heap) (n0 : Nat) : Option Value → Heap → List Loc → Prop := fun v h L => v = w ∧ Fr n0 L ∧ h = h0
theorem OGo.callS (X : Stand p l e R s m args below meth c T locs cells slots) (hx : p.tables.exec = Jvm.exec) (hZ : Z.Warmed39 s.vm) {own : String} {index : Nat} {y : MethodName} {bytes : ByteArray} {maxL : Nat} {ret : Option FieldType} (hown : s.vm.findClass own = some m.cls)
    (wl : (Jvm.Cond.methodLink own index y).before a0 Z = true) (wst : (Jvm.Cond.static y).before a0 Z = true) (wi : (Jvm.Cond.initialized y.cls).before a0 Z = true) (wc : (Jvm.Cond.code y bytes maxL ret).before a0 Z = true) (hy : y.cls ≠ "java/lang/invoke/MethodHandle" ∧ y.cls ≠ "java/lang/invoke/VarHandle")
    {rm : Room} {as' : Array Value} {Q' : Option Value → Heap → List Loc → Prop} (hM : OCtr l Z y bytes maxL ret [] rm as' h Q') {W : Nat} (hf : rm.frames + 1 ≤ R.frames) (hl : W + (maxL + 11) + rm.locals ≤ R.locals)
    {g : JFrame} (hg : g.method = m) (hsize : g.locals.size = c.maxLocals) {argsL rest : List Value} (hlen : ∀ sig, parseMethodDescriptor y.desc = some sig → argsL.length = sig.parameters.length) (hstack : g.stack = argsL.reverse ++ rest) (hW : 2 * g.monitorRoom + (rest.map fun v => v.category).sum ≤ W) (hdg : decode c.code g.pc = .ok (.invokestatic index, 3))
    (ha : argsL.toArray = as') (e0 : T.heap = h) (hc : cells + rm.cells ≤ R.cells) (hs : slots + rm.slots ≤ R.slots)
    (k : ∀ (v : Option Value) (T' : State) (L' : List Loc), Stand p l e R s m args below meth c T' (locs ++ L') (cells + rm.cells) (slots + rm.slots) → Q' v T'.heap L' → OGo p e below s Q kc ks (T'.setTop { g with pc := g.pc + 3, stack := v.toList ++ rest })) : OGo p e below s Q kc ks (T.setTop g) := by
  obtain ⟨v, _, ⟨T', L', k', n'⟩, -, X', ⟨Lc, hQ, l', y', z'⟩, st⟩ := Jvm.LawKit.callS X hx hown (mvT hZ wl) (mvT hZ wst) (mvT hZ wi) (mvT hZ wc) hy (backOf (W := W) hM hZ wc wi hf hl) hg hsize hlen hstack hW hdg (fun _ _ => ⟨ha, e0, hc, hs⟩)
  dsimp only [Pt.U, Pt.locs, Pt.cells, Pt.slots] at X' l' y' z' st hQ
  subst l' y' z'
  exact OGo.step st (k v T' Lc X' hQ)
theorem OGo.callV (X : Stand p l e R s m args below meth c T locs cells slots) (hx : p.tables.exec = Jvm.exec) (hZ : Z.Warmed39 s.vm) {own C : String} {index : Nat} {y z : MethodName} {bytes : ByteArray} {maxL : Nat} {ret : Option FieldType} (hown : s.vm.findClass own = some m.cls)
    (wl : (Jvm.Cond.methodLink own index y).before a0 Z = true) (wd : (Jvm.Cond.declares y).before a0 Z = true) (hnf : NotFace s y) (wsel : (Jvm.Cond.selects C y z).before a0 Z = true) (win : (Jvm.Cond.instanceMethod z).before a0 Z = true) (wi : (Jvm.Cond.initialized z.cls).before a0 Z = true) (wc : (Jvm.Cond.code z bytes maxL ret).before a0 Z = true) (hy : y.cls ≠ "java/lang/invoke/MethodHandle" ∧ y.cls ≠ "java/lang/invoke/VarHandle")
    {rm : Room} {as' : Array Value} {Q' : Option Value → Heap → List Loc → Prop} (hM : OCtr l Z z bytes maxL ret [] rm as' h Q') {W : Nat} (hf : rm.frames + 1 ≤ R.frames) (hl : W + (maxL + 11) + rm.locals ≤ R.locals) {b : Addr} (E : Exa Z h b C)
    {g : JFrame} (hg : g.method = m) (hsize : g.locals.size = c.maxLocals) {argsL rest : List Value} (hlen : ∀ sig, parseMethodDescriptor y.desc = some sig → argsL.length = sig.parameters.length) (hstack : g.stack = argsL.reverse ++ .ref b :: rest) (hW : 2 * g.monitorRoom + (rest.map fun v => v.category).sum ≤ W) (hdg : decode c.code g.pc = .ok (.invokevirtual index, 3))
    (ha : (.ref b :: argsL).toArray = as') (e0 : T.heap = h) (hc : cells + rm.cells ≤ R.cells) (hs : slots + rm.slots ≤ R.slots)
    (k : ∀ (v : Option Value) (T' : State) (L' : List Loc), Stand p l e R s m args below meth c T' (locs ++ L') (cells + rm.cells) (slots + rm.slots) → Q' v T'.heap L' → OGo p e below s Q kc ks (T'.setTop { g with pc := g.pc + 3, stack := v.toList ++ rest })) : OGo p e below s Q kc ks (T.setTop g) := by
  obtain ⟨cq, kq, q1, q2, q3⟩ := isOf hZ e0 E
  obtain ⟨v, _, ⟨T', L', k', n'⟩, -, X', ⟨Lc, hQ, l', y', z'⟩, st⟩ := X.virtualBack hx hown (mvT hZ wl) (mvT hZ wd) hnf (mvT hZ wsel) (mvT hZ win) hy (backOf (W := W) hM hZ wc wi hf hl) q1 q3 hg hsize (Steps.refl _) hlen hstack hW hdg (fun _ _ => ⟨ha, e0, hc, hs⟩)
  dsimp only [Pt.U, Pt.locs, Pt.cells, Pt.slots] at X' l' y' z' st hQ
  subst l' y' z'
  exact OGo.step (fun t q => st.trans q) (k v T' Lc X' hQ)
theorem OGo.callC (X : Stand p l e R s m args below meth c T locs cells slots) (hx : p.tables.exec = Jvm.exec) (hZ : Z.Warmed39 s.vm) {own : String} {index : Nat} {y : MethodName} {bytes : ByteArray} {maxL : Nat} (hy1 : y.name = "<init>") (hown : s.vm.findClass own = some m.cls)
    (wl : (Jvm.Cond.methodLink own index y).before a0 Z = true) (win : (Jvm.Cond.instanceMethod y).before a0 Z = true) (wi : (Jvm.Cond.initialized y.cls).before a0 Z = true) (wc : (Jvm.Cond.code y bytes maxL none).before a0 Z = true) (hy : y.cls ≠ "java/lang/invoke/MethodHandle" ∧ y.cls ≠ "java/lang/invoke/VarHandle")
    {rm : Room} {as' : Array Value} {Q' : Option Value → Heap → List Loc → Prop} (hM : OCtr l Z y bytes maxL none [] rm as' h Q') {W : Nat} (hf : rm.frames + 1 ≤ R.frames) (hl : W + (maxL + 11) + rm.locals ≤ R.locals) {b : Addr}
    {g : JFrame} (hg : g.method = m) (hsize : g.locals.size = c.maxLocals) {argsL rest : List Value} (hlen : ∀ sig, parseMethodDescriptor y.desc = some sig → argsL.length = sig.parameters.length) (hstack : g.stack = argsL.reverse ++ .ref b :: rest) (hW : 2 * g.monitorRoom + (rest.map fun v => v.category).sum ≤ W) (hdg : decode c.code g.pc = .ok (.invokespecial index, 3))
    (ha : (.ref b :: argsL).toArray = as') (e0 : T.heap = h) (hc : cells + rm.cells ≤ R.cells) (hs : slots + rm.slots ≤ R.slots)
    (k : ∀ (v : Option Value) (T' : State) (L' : List Loc), Stand p l e R s m args below meth c T' (locs ++ L') (cells + rm.cells) (slots + rm.slots) → Q' v T'.heap L' → OGo p e below s Q kc ks (T'.setTop { g with pc := g.pc + 3, stack := v.toList ++ rest })) : OGo p e below s Q kc ks (T.setTop g) := by
  obtain ⟨v, _, ⟨T', L', k', n'⟩, -, X', ⟨Lc, hQ, l', y', z'⟩, st⟩ := X.specialBack hx hy1 hown (mvT hZ wl) (mvT hZ win) (mvT hZ wc) hy (backOf (W := W) hM hZ wc wi hf hl) hg hsize (Steps.refl _) hlen hstack hW hdg (fun _ _ => ⟨ha, e0, hc, hs⟩)
  dsimp only [Pt.U, Pt.locs, Pt.cells, Pt.slots] at X' l' y' z' st hQ
  subst l' y' z'
  exact OGo.step (fun t q => st.trans q) (k v T' Lc X' hQ)
theorem own_wd (hw : ∀ d ∈ tables_1, d.before a0 Z = true) (i : Nat) {d : Jvm.Cond} (q : tables_1[i]? = some d) : d.before a0 Z = true := hw _ (List.mem_of_getElem? q)
theorem own_narc (x : Int32) : nar .char (x.toUInt32.toUInt16.toUInt32.toInt32) = x.toUInt32.toUInt16.toUInt32.toInt32 := by
  show x.toUInt32.toUInt16.toUInt32.toInt32.toUInt32.toUInt16.toUInt32.toInt32 = _
  simp only [UInt32.toUInt32_toInt32, UInt16.toUInt16_toUInt32]
theorem own_obj {a : Addr} {C : String} (F : Exa Z h a C) : ∃ cell : Cell, h[a]? = some cell ∧ cell.vm.isStatics = false := by
  obtain ⟨cell, _, h1, -, -, h4, -⟩ := F; exact ⟨cell, h1, h4⟩
theorem own_stakeep {h' : Heap} {ws : List Addr} {C n d : String} {v : Value} (F : Sta Z h C n d v) (K : Keep h h' ws) (q : ∀ x ∈ ws, ∃ cell : Cell, h[x]? = some cell ∧ cell.vm.isStatics = false) : Sta Z h' C n d v := by
  obtain ⟨cf, i, k, f, st, cell, h1, h2, h3, h4, h5, h6, h7⟩ := F
  refine ⟨cf, i, k, f, st, cell, h1, h2, h3, h4, K.2.1 _ _ h5 fun hm => ?_, h6, h7⟩
  obtain ⟨c', g1, g2⟩ := q _ hm
  cases g1.symm.trans h5
  rw [h6] at g2; cases g2
end OwnKit
section OwnWide
variable {p : Program} {l : Launch} {e : Env} {R : Room} {s s0 : State} {m : MethodId} {args : Array Value} {below : List Frame} {meth : Method} {c : Code} {T : State} {locs : List Loc} {cells slots : Nat} {Z : State} {a0 : Array Value} {h h0 : Heap} {Q : Option Value → Heap → List Loc → Prop} {kc ks : Nat} {EL : List (String × Nat)} {vm vm₁ : Vm}
/-- from the state F the run comes to its return, with what Q says; Strings may have been interned meanwhile -/
def OGW (p : Program) (e : Env) (below : List Frame) (s : State) (Z : State) (EL : List (String × Nat)) (h0 : Heap) (Q : Option Value → Heap → List Loc → Prop) (kc ks : Nat) (F : State) : Prop :=
  ∃ (s₂ : State) (o : Outcome), Steps p.tables e below F s₂ ∧ s₂.status = .running ∧ Ended s₂ below o ∧ ∃ v L, o = .returned v ∧ Q v s₂.heap L ∧ CHr Z EL s.vm h0 s₂.vm s₂.heap ∧ ReturnedEndW s o s₂ L kc ks
theorem OGW.step {F F' : State} (k : ∀ t, Steps p.tables e below F' t → Steps p.tables e below F t) (g : OGW p e below s0 Z EL h0 Q kc ks F') : OGW p e below s0 Z EL h0 Q kc ks F := by
  obtain ⟨s₂, o, q, r⟩ := g
  exact ⟨s₂, o, k _ q, r⟩
theorem OGW.ret (X : Stand p l e R (s.setVm vm₁) m args below meth c T locs cells slots) (hlk : meth.locks = false) {n : Nat} (hS : s.Since vm₁ n) (hk : n ≤ h.size) (hZ : Z.Warmed39 vm₁) (hEL : EW Z a0 EL) (CR : CHr Z EL s.vm h0 vm₁ h) (e1 : T.heap = h) {v : Option Value} (hv : meth.sig.returnType = none → v = none) {F : State}
    (hst : ∀ fs, (∀ (f : JFrame) (acts : List Action), f.method = m → f.locked = none → f.entered = [] → (doReturn e (T.setTop f) acts v).1 = T.setFrames fs) → Steps p.tables e below F (T.setFrames fs)) (hQ : Q v T.heap locs) (hc : cells ≤ kc) (hs : slots ≤ ks) : OGW p e below s Z EL h0 Q kc ks F := by
  subst e1
  obtain ⟨fs, hr, hrun, hended, hE⟩ := X.leaveW hS hk hv hlk
  have q : CHr Z EL s.vm h0 T.vm T.heap := CR.trans (CHv.at X hZ hEL CR.1)
  exact ⟨_, _, hst fs hr, hrun, hended, v, locs, rfl, hQ, q, hE.1, hE.2.1, hE.2.2.1, hE.2.2.2.mono hc hs⟩
theorem OGW.retOut (X : Stand p l e R (s.setVm vm₁) m args below meth c T locs cells slots) (hx : p.tables.exec = Jvm.exec) (hlk : meth.locks = false) {n : Nat} (hS : s.Since vm₁ n) (hk : n ≤ h.size) (hZ : Z.Warmed39 vm₁) (hEL : EW Z a0 EL) (CR : CHr Z EL s.vm h0 vm₁ h) (e1 : T.heap = h) {pc : Nat} {Ls : Array Slot} {w : Value} {t : FieldType} {i : Instr} {rest : List Value} (hret : meth.sig.returnType = some t) (hn : narrow t w = w)
    (hi : (i = .ireturn ∧ (t = .int ∨ t = .boolean ∨ t = .byte ∨ t = .char ∨ t = .short) ∧ ∃ z, w = .int z) ∨ (i = .lreturn ∧ t = .long ∧ ∃ z, w = .long z) ∨ (i = .dreturn ∧ t = .double ∧ ∃ z, w = .double z) ∨ (i = .freturn ∧ t = .float ∧ ∃ z, w = .float z) ∨ (i = .areturn ∧ t.isReference = true ∧ w.isRef = true))
    (hd : decode c.code pc = .ok (i, 1)) (hQ : Q (some w) T.heap locs) (hc : cells ≤ kc) (hs : slots ≤ ks) : OGW p e below s Z EL h0 Q kc ks (T.setTop (mkF m pc Ls (w :: rest))) :=
  OGW.ret X hlk hS hk hZ hEL CR e1 (fun q => by rw [hret] at q; cases q) (fun fs hr => Jvm.RoadKit.retOut X hx hret hn hi hd hr) hQ hc hs
theorem OGW.retI (X : Stand p l e R (s.setVm vm₁) m args below meth c T locs cells slots) (hx : p.tables.exec = Jvm.exec) (hlk : meth.locks = false) {n : Nat} (hS : s.Since vm₁ n) (hk : n ≤ h.size) (hZ : Z.Warmed39 vm₁) (hEL : EW Z a0 EL) (CR : CHr Z EL s.vm h0 vm₁ h) (e1 : T.heap = h) {pc : Nat} {Ls : Array Slot} {z : Int32} {rest : List Value} (hret : meth.sig.returnType = some .int) (hd : decode c.code pc = .ok (.ireturn, 1)) (hQ : Q (some (.int z)) T.heap locs) (hc : cells ≤ kc) (hs : slots ≤ ks) :
    OGW p e below s Z EL h0 Q kc ks (T.setTop (mkF m pc Ls (.int z :: rest))) := OGW.retOut X hx hlk hS hk hZ hEL CR e1 hret rfl (Or.inl ⟨rfl, Or.inl rfl, _, rfl⟩) hd hQ hc hs
theorem OGW.retA (X : Stand p l e R (s.setVm vm₁) m args below meth c T locs cells slots) (hx : p.tables.exec = Jvm.exec) (hlk : meth.locks = false) {n : Nat} (hS : s.Since vm₁ n) (hk : n ≤ h.size) (hZ : Z.Warmed39 vm₁) (hEL : EW Z a0 EL) (CR : CHr Z EL s.vm h0 vm₁ h) (e1 : T.heap = h) {pc : Nat} {Ls : Array Slot} {w : Value} {t : FieldType} {rest : List Value} (hret : meth.sig.returnType = some t) (ht : t.isReference = true) (hw : w.isRef = true) (hn : narrow t w = w) (hd : decode c.code pc = .ok (.areturn, 1)) (hQ : Q (some w) T.heap locs) (hc : cells ≤ kc) (hs : slots ≤ ks) :
    OGW p e below s Z EL h0 Q kc ks (T.setTop (mkF m pc Ls (w :: rest))) := OGW.retOut X hx hlk hS hk hZ hEL CR e1 hret hn (Or.inr (Or.inr (Or.inr (Or.inr ⟨rfl, ht, hw⟩)))) hd hQ hc hs
theorem OGW.retZ (X : Stand p l e R (s.setVm vm₁) m args below meth c T locs cells slots) (hx : p.tables.exec = Jvm.exec) (hlk : meth.locks = false) {n : Nat} (hS : s.Since vm₁ n) (hk : n ≤ h.size) (hZ : Z.Warmed39 vm₁) (hEL : EW Z a0 EL) (CR : CHr Z EL s.vm h0 vm₁ h) (e1 : T.heap = h) {pc : Nat} {Ls : Array Slot} {z z' : Int32} {t : FieldType} {rest : List Value} (hret : meth.sig.returnType = some t) (ht : t = .boolean ∨ t = .byte ∨ t = .char ∨ t = .short) (hd : decode c.code pc = .ok (.ireturn, 1)) (hz : nar t z = z') (hQ : Q (some (.int z')) T.heap locs) (hc : cells ≤ kc) (hs : slots ≤ ks) :
    OGW p e below s Z EL h0 Q kc ks (T.setTop (mkF m pc Ls (.int z :: rest))) := by
  subst hz
  exact OGW.ret X hlk hS hk hZ hEL CR e1 (fun q => by rw [hret] at q; cases q) (fun fs hr => Jvm.RoadKit.retN X hx hret ht hd hr) hQ hc hs
theorem OGW.retV (X : Stand p l e R (s.setVm vm₁) m args below meth c T locs cells slots) (hx : p.tables.exec = Jvm.exec) (hlk : meth.locks = false) {n : Nat} (hS : s.Since vm₁ n) (hk : n ≤ h.size) (hZ : Z.Warmed39 vm₁) (hEL : EW Z a0 EL) (CR : CHr Z EL s.vm h0 vm₁ h) (e1 : T.heap = h) {pc : Nat} {Ls : Array Slot} (hret : meth.sig.returnType = none) (hd : decode c.code pc = .ok (.return_, 1)) (hQ : Q none T.heap locs) (hc : cells ≤ kc) (hs : slots ≤ ks) :
    OGW p e below s Z EL h0 Q kc ks (T.setTop (mkF m pc Ls [])) := OGW.ret X hlk hS hk hZ hEL CR e1 (fun _ => rfl) (fun fs hr => X.returnOut hx hret hd hr) hQ hc hs
/-- a body's contract, where Strings may be interned -/
abbrev OCtrW (l : Launch) (Z : State) (EL : List (String × Nat)) (y : MethodName) (bytes : ByteArray) (maxL : Nat) (ret : Option FieldType) (ws : List Jvm.Cond) (rm : Room) (as' : Array Value) (h0 : Heap) (Q : Option Value → Heap → List Loc → Prop) : Prop :=
  MetFree l y (head1 (Jvm.Cond.code y bytes maxL ret :: ws) rm) (fun a U => a = as' ∧ Z.Warmed39 U.vm ∧ U.heap = h0 ∧ CHv Z EL U.vm h0) (fun _ _ _ _ _ => True) (fun _ U o U' => ∃ v L, o = .returned v ∧ Q v U'.heap L ∧ CHr Z EL U.vm U.heap U'.vm U'.heap ∧ ReturnedEndW U o U' L rm.cells rm.slots)
theorem own_since (s : State) (n : Nat) : s.Since s.vm n := (State.WarmedH.refl s).since n
theorem OCtrW.of {y : MethodName} {bytes : ByteArray} {maxL : Nat} {ret : Option FieldType} {ws : List Jvm.Cond} {rm : Room} {as' : Array Value} (hp : plainFor y = true)
    (k : ∀ (p : Program) (e : Env) (s : State) (m : MethodId) (below : List Frame) (meth : Method) (c : Code) (s₁ : State), Stand p l e rm (s.setVm s.vm) m as' below meth c s₁ [] 0 0 → p.tables.exec = Jvm.exec → meth.locks = false → Z.Warmed39 s.vm → s.vm.findClass y.cls = some m.cls → meth.name = y.name → c.code = bytes → c.maxLocals = maxL → meth.sig.returnType = ret → s₁.heap = h → s.Since s.vm h.size → CHr Z EL s.vm h s.vm h →
      OGW p e below s Z EL h Q rm.cells rm.slots (s₁.setTop (entryFrame m as' maxL))) : OCtrW l Z EL y bytes maxL ret ws rm as' h Q := by
  refine MetFree.of_bodySF hp hisR ?_
  intro p e s m args below meth c s₁ Bd hml0 hP hK
  obtain ⟨rfl, hZ, hh, hC⟩ := hP
  obtain ⟨s₂, o, h1, h2, h3, v, L, h4, h5, h6, h7⟩ := k p e s m below meth c s₁ (Stand.of_body Bd) Bd.exec Bd.notSynchronized hZ (findClass_of_methodNamed Bd.named) (name_of_methodNamed Bd.named Bd.method).1 Bd.bytes hml0 Bd.returns (by rw [← hh, Bd.state]; rfl) (own_since s h.size) (CHr.refl hC)
  exact ⟨s₂, o, h1, h2, h3, v, L, h4, h5, by rw [hh]; exact h6, h7⟩
theorem OGW.wcallS (X : Stand p l e R (s.setVm vm₁) m args below meth c T locs cells slots) (hx : p.tables.exec = Jvm.exec) (hZ : Z.Warmed39 vm₁) {n : Nat} (hS : s.Since vm₁ n) (hk : n ≤ h.size) (hEL : EW Z a0 EL) (H : CHv Z EL vm₁ h) {own : String} {index : Nat} {y : MethodName} {bytes : ByteArray} {maxL : Nat} {ret : Option FieldType} (hown : vm₁.findClass own = some m.cls) (wl : (Jvm.Cond.methodLink own index y).before a0 Z = true) (wst : (Jvm.Cond.static y).before a0 Z = true) (wi : (Jvm.Cond.initialized y.cls).before a0 Z = true) (wc : (Jvm.Cond.code y bytes maxL ret).before a0 Z = true) (hy : y.cls ≠ "java/lang/invoke/MethodHandle" ∧ y.cls ≠ "java/lang/invoke/VarHandle")
    {rm : Room} {as' : Array Value} {Q' : Option Value → Heap → List Loc → Prop} (hM : OCtrW l Z EL y bytes maxL ret [] rm as' h Q') {W : Nat} (hf : rm.frames + 1 ≤ R.frames) (hl : W + (maxL + 11) + rm.locals ≤ R.locals) 
    {g : JFrame} (hg : g.method = m) (hsize : g.locals.size = c.maxLocals) {argsL rest : List Value} (hlen : ∀ sig, parseMethodDescriptor y.desc = some sig → argsL.length = sig.parameters.length) (hstack : g.stack = argsL.reverse ++ rest) (hW : 2 * g.monitorRoom + (rest.map fun v => v.category).sum ≤ W) (hdg : decode c.code g.pc = .ok (.invokestatic index, 3))
    (ha : argsL.toArray = as') (e0 : T.heap = h) (hc : cells + rm.cells ≤ R.cells) (hs : slots + rm.slots ≤ R.slots)
    (k : ∀ (v : Option Value) (T' : State) (L' : List Loc), Stand p l e R (s.setVm T'.vm) m args below meth c T' (locs ++ L') (cells + rm.cells) (slots + rm.slots) → s.Since T'.vm T'.heap.size → Z.Warmed39 T'.vm → T'.vm.findClass own = some m.cls → CHr Z EL vm₁ h T'.vm T'.heap → Q' v T'.heap L' → OGW p e below s0 Z EL h0 Q kc ks (T'.setTop { g with pc := g.pc + 3, stack := v.toList ++ rest })) : OGW p e below s0 Z EL h0 Q kc ks (T.setTop g) := by
  obtain ⟨v, _, ⟨T', L', k', n'⟩, -, X', hS', hgr, ⟨Lc, hQ, l', y', z', hC⟩, st⟩ := callSS X hx hown (mvT (s := s.setVm vm₁) hZ wl) (mvT (s := s.setVm vm₁) hZ wst) (mvT (s := s.setVm vm₁) hZ wi) (mvT (s := s.setVm vm₁) hZ wc) hy (backOfSH (s := s) (W := W) hM hZ wc wi hf hl hEL H) hg hsize hlen hstack hW hdg (fun _ _ => ⟨ha, e0, hc, hs⟩)
  dsimp only [Pt.U, Pt.locs, Pt.cells, Pt.slots] at X' l' y' z' st hQ hS' hgr hC
  subst l' y' z'
  exact OGW.step (fun t q => st.trans q) (k v T' Lc X' (hS.trans hS' (Nat.le_trans hk (by rw [← e0]; exact hgr))) (State.Warmed39.trans (t := s.setVm vm₁) hZ hS'.1) (by rw [hS'.1.alike.findClass]; exact hown) hC hQ)
theorem OGW.wcallC (X : Stand p l e R (s.setVm vm₁) m args below meth c T locs cells slots) (hx : p.tables.exec = Jvm.exec) (hZ : Z.Warmed39 vm₁) {n : Nat} (hS : s.Since vm₁ n) (hk : n ≤ h.size) (hEL : EW Z a0 EL) (H : CHv Z EL vm₁ h) {own : String} {index : Nat} {y : MethodName} {bytes : ByteArray} {maxL : Nat} (hy1 : y.name = "<init>") (hown : vm₁.findClass own = some m.cls) (wl : (Jvm.Cond.methodLink own index y).before a0 Z = true) (win : (Jvm.Cond.instanceMethod y).before a0 Z = true) (wi : (Jvm.Cond.initialized y.cls).before a0 Z = true) (wc : (Jvm.Cond.code y bytes maxL none).before a0 Z = true) (hy : y.cls ≠ "java/lang/invoke/MethodHandle" ∧ y.cls ≠ "java/lang/invoke/VarHandle")
    {rm : Room} {as' : Array Value} {Q' : Option Value → Heap → List Loc → Prop} (hM : OCtrW l Z EL y bytes maxL none [] rm as' h Q') {W : Nat} (hf : rm.frames + 1 ≤ R.frames) (hl : W + (maxL + 11) + rm.locals ≤ R.locals) {b : Addr}
    {g : JFrame} (hg : g.method = m) (hsize : g.locals.size = c.maxLocals) {argsL rest : List Value} (hlen : ∀ sig, parseMethodDescriptor y.desc = some sig → argsL.length = sig.parameters.length) (hstack : g.stack = argsL.reverse ++ .ref b :: rest) (hW : 2 * g.monitorRoom + (rest.map fun v => v.category).sum ≤ W) (hdg : decode c.code g.pc = .ok (.invokespecial index, 3))
    (ha : (.ref b :: argsL).toArray = as') (e0 : T.heap = h) (hc : cells + rm.cells ≤ R.cells) (hs : slots + rm.slots ≤ R.slots)
    (k : ∀ (v : Option Value) (T' : State) (L' : List Loc), Stand p l e R (s.setVm T'.vm) m args below meth c T' (locs ++ L') (cells + rm.cells) (slots + rm.slots) → s.Since T'.vm T'.heap.size → Z.Warmed39 T'.vm → T'.vm.findClass own = some m.cls → CHr Z EL vm₁ h T'.vm T'.heap → Q' v T'.heap L' → OGW p e below s0 Z EL h0 Q kc ks (T'.setTop { g with pc := g.pc + 3, stack := v.toList ++ rest })) : OGW p e below s0 Z EL h0 Q kc ks (T.setTop g) := by
  obtain ⟨v, _, ⟨T', L', k', n'⟩, -, X', hS', hgr, ⟨Lc, hQ, l', y', z', hC⟩, st⟩ := X.specialBackS hx hy1 hown (mvT (s := s.setVm vm₁) hZ wl) (mvT (s := s.setVm vm₁) hZ win) (mvT (s := s.setVm vm₁) hZ wc) hy (backOfSH (s := s) (W := W) hM hZ wc wi hf hl hEL H) hg hsize (Steps.refl _) hlen hstack hW hdg (fun _ _ => ⟨ha, e0, hc, hs⟩)
  dsimp only [Pt.U, Pt.locs, Pt.cells, Pt.slots] at X' l' y' z' st hQ hS' hgr hC
  subst l' y' z'
  exact OGW.step (fun t q => st.trans q) (k v T' Lc X' (hS.trans hS' (Nat.le_trans hk (by rw [← e0]; exact hgr))) (State.Warmed39.trans (t := s.setVm vm₁) hZ hS'.1) (by rw [hS'.1.alike.findClass]; exact hown) hC hQ)
theorem OGW.callS (X : Stand p l e R s m args below meth c T locs cells slots) (hx : p.tables.exec = Jvm.exec) (hZ : Z.Warmed39 s.vm) {own : String} {index : Nat} {y : MethodName} {bytes : ByteArray} {maxL : Nat} {ret : Option FieldType} (hown : s.vm.findClass own = some m.cls)
    (wl : (Jvm.Cond.methodLink own index y).before a0 Z = true) (wst : (Jvm.Cond.static y).before a0 Z = true) (wi : (Jvm.Cond.initialized y.cls).before a0 Z = true) (wc : (Jvm.Cond.code y bytes maxL ret).before a0 Z = true) (hy : y.cls ≠ "java/lang/invoke/MethodHandle" ∧ y.cls ≠ "java/lang/invoke/VarHandle")
    {rm : Room} {as' : Array Value} {Q' : Option Value → Heap → List Loc → Prop} (hM : OCtr l Z y bytes maxL ret [] rm as' h Q') {W : Nat} (hf : rm.frames + 1 ≤ R.frames) (hl : W + (maxL + 11) + rm.locals ≤ R.locals)
    {g : JFrame} (hg : g.method = m) (hsize : g.locals.size = c.maxLocals) {argsL rest : List Value} (hlen : ∀ sig, parseMethodDescriptor y.desc = some sig → argsL.length = sig.parameters.length) (hstack : g.stack = argsL.reverse ++ rest) (hW : 2 * g.monitorRoom + (rest.map fun v => v.category).sum ≤ W) (hdg : decode c.code g.pc = .ok (.invokestatic index, 3))
    (ha : argsL.toArray = as') (e0 : T.heap = h) (hc : cells + rm.cells ≤ R.cells) (hs : slots + rm.slots ≤ R.slots)
    (k : ∀ (v : Option Value) (T' : State) (L' : List Loc), Stand p l e R s m args below meth c T' (locs ++ L') (cells + rm.cells) (slots + rm.slots) → Q' v T'.heap L' → OGW p e below s0 Z EL h0 Q kc ks (T'.setTop { g with pc := g.pc + 3, stack := v.toList ++ rest })) : OGW p e below s0 Z EL h0 Q kc ks (T.setTop g) := by
  obtain ⟨v, _, ⟨T', L', k', n'⟩, -, X', ⟨Lc, hQ, l', y', z'⟩, st⟩ := Jvm.LawKit.callS X hx hown (mvT hZ wl) (mvT hZ wst) (mvT hZ wi) (mvT hZ wc) hy (backOf (W := W) hM hZ wc wi hf hl) hg hsize hlen hstack hW hdg (fun _ _ => ⟨ha, e0, hc, hs⟩)
  dsimp only [Pt.U, Pt.locs, Pt.cells, Pt.slots] at X' l' y' z' st hQ
  subst l' y' z'
  exact OGW.step st (k v T' Lc X' hQ)
theorem OGW.callV (X : Stand p l e R s m args below meth c T locs cells slots) (hx : p.tables.exec = Jvm.exec) (hZ : Z.Warmed39 s.vm) {own C : String} {index : Nat} {y z : MethodName} {bytes : ByteArray} {maxL : Nat} {ret : Option FieldType} (hown : s.vm.findClass own = some m.cls)
    (wl : (Jvm.Cond.methodLink own index y).before a0 Z = true) (wd : (Jvm.Cond.declares y).before a0 Z = true) (hnf : NotFace s y) (wsel : (Jvm.Cond.selects C y z).before a0 Z = true) (win : (Jvm.Cond.instanceMethod z).before a0 Z = true) (wi : (Jvm.Cond.initialized z.cls).before a0 Z = true) (wc : (Jvm.Cond.code z bytes maxL ret).before a0 Z = true) (hy : y.cls ≠ "java/lang/invoke/MethodHandle" ∧ y.cls ≠ "java/lang/invoke/VarHandle")
    {rm : Room} {as' : Array Value} {Q' : Option Value → Heap → List Loc → Prop} (hM : OCtr l Z z bytes maxL ret [] rm as' h Q') {W : Nat} (hf : rm.frames + 1 ≤ R.frames) (hl : W + (maxL + 11) + rm.locals ≤ R.locals) {b : Addr} (E : Exa Z h b C)
    {g : JFrame} (hg : g.method = m) (hsize : g.locals.size = c.maxLocals) {argsL rest : List Value} (hlen : ∀ sig, parseMethodDescriptor y.desc = some sig → argsL.length = sig.parameters.length) (hstack : g.stack = argsL.reverse ++ .ref b :: rest) (hW : 2 * g.monitorRoom + (rest.map fun v => v.category).sum ≤ W) (hdg : decode c.code g.pc = .ok (.invokevirtual index, 3))
    (ha : (.ref b :: argsL).toArray = as') (e0 : T.heap = h) (hc : cells + rm.cells ≤ R.cells) (hs : slots + rm.slots ≤ R.slots)
    (k : ∀ (v : Option Value) (T' : State) (L' : List Loc), Stand p l e R s m args below meth c T' (locs ++ L') (cells + rm.cells) (slots + rm.slots) → Q' v T'.heap L' → OGW p e below s0 Z EL h0 Q kc ks (T'.setTop { g with pc := g.pc + 3, stack := v.toList ++ rest })) : OGW p e below s0 Z EL h0 Q kc ks (T.setTop g) := by
  obtain ⟨cq, kq, q1, q2, q3⟩ := isOf hZ e0 E
  obtain ⟨v, _, ⟨T', L', k', n'⟩, -, X', ⟨Lc, hQ, l', y', z'⟩, st⟩ := X.virtualBack hx hown (mvT hZ wl) (mvT hZ wd) hnf (mvT hZ wsel) (mvT hZ win) hy (backOf (W := W) hM hZ wc wi hf hl) q1 q3 hg hsize (Steps.refl _) hlen hstack hW hdg (fun _ _ => ⟨ha, e0, hc, hs⟩)
  dsimp only [Pt.U, Pt.locs, Pt.cells, Pt.slots] at X' l' y' z' st hQ
  subst l' y' z'
  exact OGW.step (fun t q => st.trans q) (k v T' Lc X' hQ)
theorem OGW.callC (X : Stand p l e R s m args below meth c T locs cells slots) (hx : p.tables.exec = Jvm.exec) (hZ : Z.Warmed39 s.vm) {own : String} {index : Nat} {y : MethodName} {bytes : ByteArray} {maxL : Nat} (hy1 : y.name = "<init>") (hown : s.vm.findClass own = some m.cls)
    (wl : (Jvm.Cond.methodLink own index y).before a0 Z = true) (win : (Jvm.Cond.instanceMethod y).before a0 Z = true) (wi : (Jvm.Cond.initialized y.cls).before a0 Z = true) (wc : (Jvm.Cond.code y bytes maxL none).before a0 Z = true) (hy : y.cls ≠ "java/lang/invoke/MethodHandle" ∧ y.cls ≠ "java/lang/invoke/VarHandle")
    {rm : Room} {as' : Array Value} {Q' : Option Value → Heap → List Loc → Prop} (hM : OCtr l Z y bytes maxL none [] rm as' h Q') {W : Nat} (hf : rm.frames + 1 ≤ R.frames) (hl : W + (maxL + 11) + rm.locals ≤ R.locals) {b : Addr}
    {g : JFrame} (hg : g.method = m) (hsize : g.locals.size = c.maxLocals) {argsL rest : List Value} (hlen : ∀ sig, parseMethodDescriptor y.desc = some sig → argsL.length = sig.parameters.length) (hstack : g.stack = argsL.reverse ++ .ref b :: rest) (hW : 2 * g.monitorRoom + (rest.map fun v => v.category).sum ≤ W) (hdg : decode c.code g.pc = .ok (.invokespecial index, 3))
    (ha : (.ref b :: argsL).toArray = as') (e0 : T.heap = h) (hc : cells + rm.cells ≤ R.cells) (hs : slots + rm.slots ≤ R.slots)
    (k : ∀ (v : Option Value) (T' : State) (L' : List Loc), Stand p l e R s m args below meth c T' (locs ++ L') (cells + rm.cells) (slots + rm.slots) → Q' v T'.heap L' → OGW p e below s0 Z EL h0 Q kc ks (T'.setTop { g with pc := g.pc + 3, stack := v.toList ++ rest })) : OGW p e below s0 Z EL h0 Q kc ks (T.setTop g) := by
  obtain ⟨v, _, ⟨T', L', k', n'⟩, -, X', ⟨Lc, hQ, l', y', z'⟩, st⟩ := X.specialBack hx hy1 hown (mvT hZ wl) (mvT hZ win) (mvT hZ wc) hy (backOf (W := W) hM hZ wc wi hf hl) hg hsize (Steps.refl _) hlen hstack hW hdg (fun _ _ => ⟨ha, e0, hc, hs⟩)
  dsimp only [Pt.U, Pt.locs, Pt.cells, Pt.slots] at X' l' y' z' st hQ
  subst l' y' z'
  exact OGW.step (fun t q => st.trans q) (k v T' Lc X' hQ)
theorem own_safe_null {x : Addr} (hal : Z.vm.Alike vm) (E : Exa Z h x "java/lang/String") (F : Fld Z h x "java/lang/String" "value" "[B" .null) : Safe Z EL vm h x := fun B => by
  obtain ⟨pp, -, u, a, -, q, -, S, rfl | rfl⟩ := B
  · obtain ⟨cell, cf, k, i, f, h1, h2, h3, h4, h5, h6, h7⟩ := F
    cases (show h[q.sa]? = some q.sC from S.ha).symm.trans h1
    obtain ⟨cS, ⟨⟨-, -, -, ⟨c', k', i', g1, g2⟩, -, -, -, g7, -⟩, -, -⟩, -⟩ := S
    obtain ⟨k'', w, -⟩ := State.fieldFound?_setVm (s := Z) hal h2
    have w' : (Wst Z vm h).fieldFound? "java/lang/String" "value" "[B" = some (cf, k'', i, f) := w
    have e := g1.symm.trans w'
    simp only [Option.some.injEq, Prod.mk.injEq] at e
    rw [e.2.2.2, h7] at g7
    cases g7
  · obtain ⟨cell, k, e1, e2, e3, -, -⟩ := E
    cases (show h[q.sd]? = some q.SA from S.hd).symm.trans e1
    obtain ⟨cS, -, -, f, -⟩ := S
    have f' : Z.vm.findClass "[B" = some q.SA.cls := by rw [← hal.findClass]; exact f
    exact ids_ne e2 f' (by decide) rfl
end OwnWide
theorem own_EL {az : Array Value} {Z : State} (hw : ∀ d ∈ tables_1, d.before az Z = true) : EW Z az consts_1 := (EW.cons (own_wd hw 51 rfl) (by decide) EW.nil)
theorem own_atoms {az : Array Value} {Z : State} (hw : ∀ d ∈ tables_1, d.before az Z = true) : ∀ a ∈ Bundle.stringAtoms, a.before az Z = true := by
  intro a ha
  simp only [Bundle.stringAtoms, List.mem_cons, List.not_mem_nil, or_false] at ha
  rcases ha with rfl | rfl | rfl | rfl | rfl | rfl | rfl
  · exact (own_wd hw 10 rfl)
  · exact (own_wd hw 9 rfl)
  · exact (own_wd hw 27 rfl)
  · exact (own_wd hw 37 rfl)
  · exact (own_wd hw 35 rfl)
  · exact (own_wd hw 52 rfl)
  · exact (own_wd hw 53 rfl)
theorem own_nz {args : Array Value} {Z : State} {t : Term} {x : Int32} (ev : t.eval args Z none [] Z = some (.int x)) (q : (Jvm.Cond.not (Jvm.Cond.eq t (Term.int (0 : Int32)))).before args Z = true) : ¬ (x = (0 : Int32)) := by
  have e2 : (Term.int (0 : Int32)).eval args Z none [] Z = some (.int 0) := rfl
  rw [Cond.before_iff] at q
  simp only [Cond.value, ev, e2] at q
  intro h; subst h; simp at q
/-- the byte of a char below 256 -/
def own_by (x : Int32) : Int32 := nar .byte (x.toInt8.toInt32)
/-- a byte[] with these bytes -/
def OBs (Z : State) (h : Heap) (t : Addr) (bs : List Int32) : Prop := ∃ k, Arv Z h t k .byte (Int32.ofNat bs.length) (bs.map Value.int) (.int (0 : Int32))
theorem OBs.lt {Z : State} {h : Heap} {t : Addr} {b : List Int32} (F : OBs Z h t b) : t < h.size := by obtain ⟨k, V⟩ := F; exact V.lt
theorem OBs.ext {Z : State} {h h' : Heap} {t : Addr} {b : List Int32} (F : OBs Z h t b) (E : Ext h h') : OBs Z h' t b := by obtain ⟨k, V⟩ := F; exact ⟨k, V.ext E⟩
theorem OBs.other {Z : State} {h h' : Heap} {t a : Addr} {b : List Int32} {sl : Nat} {v : Value} (F : OBs Z h t b) (W : Wr h h' a sl v) (q : t ≠ a) : OBs Z h' t b := by obtain ⟨k, V⟩ := F; exact ⟨k, V.other W q⟩
theorem OBs.keep {Z : State} {h h' : Heap} {t : Addr} {b : List Int32} {ws : List Addr} (F : OBs Z h t b) (K : Keep h h' ws) (n : t ∉ ws) : OBs Z h' t b := by obtain ⟨k, V⟩ := F; exact ⟨k, V.keep K n⟩
def own_eqb (xs ys : List Int32) : Int32 := if xs = ys then 1 else 0
theorem own_ofn (n : Nat) (h : n ≤ 3) : (Int32.ofNat n).toInt = n ∧ ¬ (Int32.ofNat n < 0) ∧ (Int32.ofNat n).toNatClampNeg = n := by
  match n, h with
  | 0, _ => decide
  | 1, _ => decide
  | 2, _ => decide
  | 3, _ => decide
theorem own_lt3 {i : Int32} {n : Nat} (hn : n ≤ 3) (h0 : ¬ i < 0) : (i < Int32.ofNat n ↔ i.toNatClampNeg < n) := by
  have := own_ofn n hn
  simp only [Int32.lt_iff_toInt_lt, Int32.toNatClampNeg, Int32.reduceToInt, this.1] at *; omega
theorem own_inc {i : Int32} {n : Nat} (hn : n ≤ 3) (h0 : ¬ i < 0) (h : i < Int32.ofNat n) : ¬ (i + (1 : Int32)) < 0 ∧ (i + (1 : Int32)).toNatClampNeg = i.toNatClampNeg + 1 := by
  have c1 := c_iadd i (1 : Int32); have q := own_ofn n hn
  have l2 := (i + (1 : Int32)).toInt_lt; have l3 := (i + (1 : Int32)).le_toInt
  simp only [Int32.lt_iff_toInt_lt, Int32.toNatClampNeg, Int32.reduceToInt, q.1] at *; omega
theorem own_getv (xs : List Int32) (i : Nat) : (xs.map Value.int).getD i (.int 0) = .int (xs.getD i 0) := by
  simp only [List.getD_eq_getElem?_getD, List.getElem?_map]
  cases xs[i]? <;> rfl
theorem own_c255 (x : Int32) : ¬ ((255 : Int32) < nar .char ((x &&& (255 : Int32)).toUInt32.toUInt16.toUInt32.toInt32)) := by
  show ¬ ((255 : Int32) < (x &&& (255 : Int32)).toUInt32.toUInt16.toUInt32.toInt32.toUInt32.toUInt16.toUInt32.toInt32)
  have h := c_and x (255 : Int32) (by decide)
  generalize x &&& (255 : Int32) = y at *
  have a1 := c_i2c y; have a2 := c_i2c (y.toUInt32.toUInt16.toUInt32.toInt32)
  rw [Int32.lt_iff_toInt_lt]; simp only [Int32.reduceToInt] at *; omega
/-! body 12: java/lang/StringLatin1.equals:([B[B)Z -/
theorem d12_0 : decode jdk_43_method_13_code 0 = .ok (.aload_n 0, 1) := by decide +kernel
theorem d12_1 : decode jdk_43_method_13_code 1 = .ok (.arraylength, 1) := by decide +kernel
theorem d12_2 : decode jdk_43_method_13_code 2 = .ok (.aload_n 1, 1) := by decide +kernel
theorem d12_3 : decode jdk_43_method_13_code 3 = .ok (.arraylength, 1) := by decide +kernel
theorem d12_4 : decode jdk_43_method_13_code 4 = .ok (.if_icmp .ne 30, 3) := by decide +kernel
theorem d12_7 : decode jdk_43_method_13_code 7 = .ok (.iconst 0, 1) := by decide +kernel
theorem d12_8 : decode jdk_43_method_13_code 8 = .ok (.istore_n 2, 1) := by decide +kernel
theorem d12_9 : decode jdk_43_method_13_code 9 = .ok (.iload_n 2, 1) := by decide +kernel
theorem d12_10 : decode jdk_43_method_13_code 10 = .ok (.aload_n 0, 1) := by decide +kernel
theorem d12_11 : decode jdk_43_method_13_code 11 = .ok (.arraylength, 1) := by decide +kernel
theorem d12_12 : decode jdk_43_method_13_code 12 = .ok (.if_icmp .ge 20, 3) := by decide +kernel
theorem d12_15 : decode jdk_43_method_13_code 15 = .ok (.aload_n 0, 1) := by decide +kernel
theorem d12_16 : decode jdk_43_method_13_code 16 = .ok (.iload_n 2, 1) := by decide +kernel
theorem d12_17 : decode jdk_43_method_13_code 17 = .ok (.baload, 1) := by decide +kernel
theorem d12_18 : decode jdk_43_method_13_code 18 = .ok (.aload_n 1, 1) := by decide +kernel
theorem d12_19 : decode jdk_43_method_13_code 19 = .ok (.iload_n 2, 1) := by decide +kernel
theorem d12_20 : decode jdk_43_method_13_code 20 = .ok (.baload, 1) := by decide +kernel
theorem d12_21 : decode jdk_43_method_13_code 21 = .ok (.if_icmp .eq 5, 3) := by decide +kernel
theorem d12_24 : decode jdk_43_method_13_code 24 = .ok (.iconst 0, 1) := by decide +kernel
theorem d12_25 : decode jdk_43_method_13_code 25 = .ok (.ireturn, 1) := by decide +kernel
theorem d12_26 : decode jdk_43_method_13_code 26 = .ok (.iinc 2 1, 3) := by decide +kernel
theorem d12_29 : decode jdk_43_method_13_code 29 = .ok (.goto (-20), 3) := by decide +kernel
theorem d12_32 : decode jdk_43_method_13_code 32 = .ok (.iconst 1, 1) := by decide +kernel
theorem d12_33 : decode jdk_43_method_13_code 33 = .ok (.ireturn, 1) := by decide +kernel
theorem d12_34 : decode jdk_43_method_13_code 34 = .ok (.iconst 0, 1) := by decide +kernel
theorem d12_35 : decode jdk_43_method_13_code 35 = .ok (.ireturn, 1) := by decide +kernel
theorem pn_12 : plainName "java/lang/StringLatin1" = true := by first | (simp [plainName, overriddenIn]; done) | decide +kernel
theorem ef_12 (m : MethodId) (x0 : Addr) (x1 : Addr) : entryFrame m #[(.ref x0), (.ref x1)] 3 = mkF m 0 #[.val (.ref x0), .val (.ref x1), .unset] [] := by first | (simp [entryFrame, mkF, argsToLocals, Value.category]; done) | rfl
set_option maxRecDepth 65536 in
set_option maxHeartbeats 40000000 in
theorem rm12 (l : Launch) (Z : State) (az : Array Value) (hw : ∀ d ∈ tables_1, d.before az Z = true) (ws : List Jvm.Cond) (a0 : Addr) (a1 : Addr) (xs : List Int32) (ys : List Int32) (h0 : Heap) (n0 : Nat) (Z0 : n0 ≤ h0.size) (O_a0 : OBs Z h0 a0 xs) (O_a1 : OBs Z h0 a1 ys) (hlx : xs.length ≤ 3) (hly : ys.length ≤ 3) :
    OCtr l Z (⟨"java/lang/StringLatin1", "equals", "([B[B)Z"⟩ : MethodName) jdk_43_method_13_code 3 (some .boolean) ws ({ frames := 0, cells := 0, slots := 0, locals := 0 } : Room) #[(.ref a0), (.ref a1)] h0 (OPure (some (.int (own_eqb xs ys))) h0 n0) := by
  refine OCtr.of (plainFor_of_name pn_12) ?_
  intro p e s m below meth c s₁ X0 hx hlk hZ hown0 hnm hby hml0 hret e0
  have hown : s.vm.findClass "java/lang/StringLatin1" = some m.cls := hown0
  have hml : c.maxLocals = 3 := hml0
  have N0 := Fr.nil n0
  refine OGo.step (fun t k => castTop (ef_12 m a0 a1) k) ?_
  obtain ⟨k0, V00⟩ := O_a0
  obtain ⟨k1, V01⟩ := O_a1
  have lp : ∀ (rx ry : List Int32) (T0 : State) (locs : List Loc) (i : Int32), Stand p l e ({ frames := 0, cells := 0, slots := 0, locals := 0 } : Room) s m #[(.ref a0), (.ref a1)] below meth c T0 locs 0 0 → T0.heap = h0 → Fr n0 locs → ¬ i < 0 → rx.length = ry.length → i.toNatClampNeg + rx.length = xs.length → xs.length = ys.length → xs.drop i.toNatClampNeg = rx → ys.drop i.toNatClampNeg = ry → own_eqb xs ys = own_eqb rx ry → OGo p e below s (OPure (some (.int (own_eqb xs ys))) h0 n0) ({ frames := 0, cells := 0, slots := 0, locals := 0 } : Room).cells ({ frames := 0, cells := 0, slots := 0, locals := 0 } : Room).slots (T0.setTop (mkF m 9 #[.val (.ref a0), .val (.ref a1), .val (.int i)] [])) := by
    intro rx
    induction rx with
    | nil =>
      intro ry T0 locs i Xl el Nl hi hl hk hxy hd hd' he
      have hlt : ¬ (i < (Int32.ofNat xs.length)) := by rw [own_lt3 hlx hi]; simp only [List.length_nil] at hk; omega
      have hr : ry = [] := List.eq_nil_of_length_eq_zero (by rw [← hl]; rfl)
      subst hr
      refine OGo.step (F' := T0.setTop (mkF m 11 #[.val (.ref a0), .val (.ref a1), .val (.int i)] [(.ref a0), (.int i)])) (fun t kt => ?_) ?_
      · show Steps p.tables e below (T0.setTop (mkF m 9 #[.val (.ref a0), .val (.ref a1), .val (.int i)] [])) t
        refine XS.iloadN Xl.here hx rfl (hb hby d12_9) rfl ?_
        show Steps p.tables e below (T0.setTop (mkF m 10 #[.val (.ref a0), .val (.ref a1), .val (.int i)] [(.int i)])) t
        refine XS.aloadN Xl.here hx rfl (hb hby d12_10) rfl rfl ?_
        exact kt
      obtain ⟨cl1, Ar1, q1, S1, N1a, H1, G1⟩ := id (V00)
      refine OGo.step (F' := T0.setTop (mkF m 12 #[.val (.ref a0), .val (.ref a1), .val (.int i)] [(.int (Int32.ofNat xs.length)), (.int i)])) (fun t kt => ?_) ?_
      · show Steps p.tables e below (T0.setTop (mkF m 11 #[.val (.ref a0), .val (.ref a1), .val (.int i)] [(.ref a0), (.int i)])) t
        refine Xl.arraylength hx (by rw [el]; exact Ar1.1) (State.isArrayOf_alike hZ.alike Ar1.2.1) (g := (mkF m 11 #[.val (.ref a0), .val (.ref a1), .val (.int i)] [(.ref a0), (.int i)])) rfl rfl (hb hby d12_11) _ ?_
        rw [len_of S1 N1a]
        exact kt
      refine OGo.step (F' := T0.setTop (mkF m 33 #[.val (.ref a0), .val (.ref a1), .val (.int i)] [(.int (1 : Int32))])) (fun t kt => ?_) ?_
      · show Steps p.tables e below (T0.setTop (mkF m 12 #[.val (.ref a0), .val (.ref a1), .val (.int i)] [(.int (Int32.ofNat xs.length)), (.int i)])) t
        refine XS.icmpYes Xl.here hx rfl (pc0 := 12) (pc' := 32) rfl (hb hby d12_12) rfl (flt hlt).2.1 (by decide) (by decide) ?_
        show Steps p.tables e below (T0.setTop (mkF m 32 #[.val (.ref a0), .val (.ref a1), .val (.int i)] [])) t
        refine XS.iconst Xl.here hx rfl (hb hby d12_32) ?_
        exact kt
      refine OGo.retZ Xl hx hlk (t := .boolean) (z' := (1 : Int32)) hret (by simp) (hb hby d12_33) rfl ?_ (by decide) (by decide)
      exact ⟨(by rw [he]; rfl), Nl, el⟩
    | cons x rx ih =>
      intro ry T0 locs i Xl el Nl hi hl hk hxy hd hd' he
      match ry, hl with
      | y :: ry, hl =>
        have hlt : i < (Int32.ofNat xs.length) := by rw [own_lt3 hlx hi]; simp only [List.length_cons] at hk; omega
        have hlty : i < (Int32.ofNat ys.length) := by rw [← hxy]; exact hlt
        have hx0 : xs.getD i.toNatClampNeg 0 = x := by rw [List.getD_eq_getElem?_getD, ← List.head?_drop, hd]; rfl
        have hy0 : ys.getD i.toNatClampNeg 0 = y := by rw [List.getD_eq_getElem?_getD, ← List.head?_drop, hd']; rfl
        obtain ⟨hi2, hs2⟩ := own_inc hlx hi hlt
        have hd2 : xs.drop (i + (1 : Int32)).toNatClampNeg = rx := by rw [hs2, ← List.drop_drop, hd]; rfl
        have hd2' : ys.drop (i + (1 : Int32)).toNatClampNeg = ry := by rw [hs2, ← List.drop_drop, hd']; rfl
        have hk2 : (i + (1 : Int32)).toNatClampNeg + rx.length = xs.length := by rw [hs2]; simp only [List.length_cons] at hk; omega
        have hl2 : rx.length = ry.length := by simpa using hl
        refine OGo.step (F' := T0.setTop (mkF m 11 #[.val (.ref a0), .val (.ref a1), .val (.int i)] [(.ref a0), (.int i)])) (fun t kt => ?_) ?_
        · show Steps p.tables e below (T0.setTop (mkF m 9 #[.val (.ref a0), .val (.ref a1), .val (.int i)] [])) t
          refine XS.iloadN Xl.here hx rfl (hb hby d12_9) rfl ?_
          show Steps p.tables e below (T0.setTop (mkF m 10 #[.val (.ref a0), .val (.ref a1), .val (.int i)] [(.int i)])) t
          refine XS.aloadN Xl.here hx rfl (hb hby d12_10) rfl rfl ?_
          exact kt
        obtain ⟨cl2, Ar2, q2, S2, N2a, H2, G2⟩ := id (V00)
        refine OGo.step (F' := T0.setTop (mkF m 12 #[.val (.ref a0), .val (.ref a1), .val (.int i)] [(.int (Int32.ofNat xs.length)), (.int i)])) (fun t kt => ?_) ?_
        · show Steps p.tables e below (T0.setTop (mkF m 11 #[.val (.ref a0), .val (.ref a1), .val (.int i)] [(.ref a0), (.int i)])) t
          refine Xl.arraylength hx (by rw [el]; exact Ar2.1) (State.isArrayOf_alike hZ.alike Ar2.2.1) (g := (mkF m 11 #[.val (.ref a0), .val (.ref a1), .val (.int i)] [(.ref a0), (.int i)])) rfl rfl (hb hby d12_11) _ ?_
          rw [len_of S2 N2a]
          exact kt
        refine OGo.step (F' := T0.setTop (mkF m 17 #[.val (.ref a0), .val (.ref a1), .val (.int i)] [(.int i), (.ref a0)])) (fun t kt => ?_) ?_
        · show Steps p.tables e below (T0.setTop (mkF m 12 #[.val (.ref a0), .val (.ref a1), .val (.int i)] [(.int (Int32.ofNat xs.length)), (.int i)])) t
          refine XS.icmpNo Xl.here hx rfl (hb hby d12_12) rfl (tlt hlt).2.1 ?_
          show Steps p.tables e below (T0.setTop (mkF m 15 #[.val (.ref a0), .val (.ref a1), .val (.int i)] [])) t
          refine XS.aloadN Xl.here hx rfl (hb hby d12_15) rfl rfl ?_
          show Steps p.tables e below (T0.setTop (mkF m 16 #[.val (.ref a0), .val (.ref a1), .val (.int i)] [(.ref a0)])) t
          refine XS.iloadN Xl.here hx rfl (hb hby d12_16) rfl ?_
          exact kt
        obtain ⟨cl3, Ar3, q3, S3, N3a, H3, G3⟩ := id (V00)
        have hin3 : ¬ (i < 0 ∨ cl3.slots.size ≤ (i).toNatClampNeg) := inb_of S3 ⟨hi, hlt⟩
        have hat3 : cl3.slots[(i).toNatClampNeg]? = some (.int x) := H3.at hin3 (by rw [own_getv, hx0])
        refine OGo.step (F' := T0.setTop (mkF m 18 #[.val (.ref a0), .val (.ref a1), .val (.int i)] [(.int x)])) (fun t kt => ?_) ?_
        · show Steps p.tables e below (T0.setTop (mkF m 17 #[.val (.ref a0), .val (.ref a1), .val (.int i)] [(.int i), (.ref a0)])) t
          refine Xl.baloadBytes hx (j := i) (v := (.int x)) (by rw [el]; exact Ar3.1) (State.isArrayOf_alike hZ.alike Ar3.2.1) Ar3.2.2 hin3 hat3 (g := (mkF m 17 #[.val (.ref a0), .val (.ref a1), .val (.int i)] [(.int i), (.ref a0)])) rfl rfl (hb hby d12_17) _ ?_
          exact kt
        refine OGo.step (F' := T0.setTop (mkF m 20 #[.val (.ref a0), .val (.ref a1), .val (.int i)] [(.int i), (.ref a1), (.int x)])) (fun t kt => ?_) ?_
        · show Steps p.tables e below (T0.setTop (mkF m 18 #[.val (.ref a0), .val (.ref a1), .val (.int i)] [(.int x)])) t
          refine XS.aloadN Xl.here hx rfl (hb hby d12_18) rfl rfl ?_
          show Steps p.tables e below (T0.setTop (mkF m 19 #[.val (.ref a0), .val (.ref a1), .val (.int i)] [(.ref a1), (.int x)])) t
          refine XS.iloadN Xl.here hx rfl (hb hby d12_19) rfl ?_
          exact kt
        obtain ⟨cl4, Ar4, q4, S4, N4a, H4, G4⟩ := id (V01)
        have hin4 : ¬ (i < 0 ∨ cl4.slots.size ≤ (i).toNatClampNeg) := inb_of S4 ⟨hi, hlty⟩
        have hat4 : cl4.slots[(i).toNatClampNeg]? = some (.int y) := H4.at hin4 (by rw [own_getv, hy0])
        refine OGo.step (F' := T0.setTop (mkF m 21 #[.val (.ref a0), .val (.ref a1), .val (.int i)] [(.int y), (.int x)])) (fun t kt => ?_) ?_
        · show Steps p.tables e below (T0.setTop (mkF m 20 #[.val (.ref a0), .val (.ref a1), .val (.int i)] [(.int i), (.ref a1), (.int x)])) t
          refine Xl.baloadBytes hx (j := i) (v := (.int y)) (by rw [el]; exact Ar4.1) (State.isArrayOf_alike hZ.alike Ar4.2.1) Ar4.2.2 hin4 hat4 (g := (mkF m 20 #[.val (.ref a0), .val (.ref a1), .val (.int i)] [(.int i), (.ref a1), (.int x)])) rfl rfl (hb hby d12_20) _ ?_
          exact kt
        by_cases hc21 : x = y
        · refine OGo.step (F' := T0.setTop (mkF m 26 #[.val (.ref a0), .val (.ref a1), .val (.int i)] [])) (fun t kt => ?_) ?_
          · show Steps p.tables e below (T0.setTop (mkF m 21 #[.val (.ref a0), .val (.ref a1), .val (.int i)] [(.int y), (.int x)])) t
            refine XS.icmpYes Xl.here hx rfl (pc0 := 21) (pc' := 26) rfl (hb hby d12_21) rfl (teq hc21).1 (by decide) (by decide) ?_
            exact kt
          refine OGo.step (F' := T0.setTop (mkF m 9 #[.val (.ref a0), .val (.ref a1), .val (.int (i + (1 : Int32)))] [])) (fun t kt => ?_) ?_
          · show Steps p.tables e below (T0.setTop (mkF m 26 #[.val (.ref a0), .val (.ref a1), .val (.int i)] [])) t
            refine XS.iinc Xl.here hx rfl (hb hby d12_26) rfl (l' := #[.val (.ref a0), .val (.ref a1), .val (.int (i + (1 : Int32)))]) rfl ?_
            show Steps p.tables e below (T0.setTop (mkF m 29 #[.val (.ref a0), .val (.ref a1), .val (.int (i + (1 : Int32)))] [])) t
            refine XS.goto Xl.here hx rfl (pc0 := 29) (pc' := 9) rfl (hb hby d12_29) (by decide) (by decide) ?_
            exact kt
          exact ih ry T0 _ (i + (1 : Int32)) Xl el Nl hi2 hl2 hk2 hxy hd2 hd2' (he.trans (by rw [own_eqb, own_eqb, hc21]; simp))
        · refine OGo.step (F' := T0.setTop (mkF m 24 #[.val (.ref a0), .val (.ref a1), .val (.int i)] [])) (fun t kt => ?_) ?_
          · show Steps p.tables e below (T0.setTop (mkF m 21 #[.val (.ref a0), .val (.ref a1), .val (.int i)] [(.int y), (.int x)])) t
            refine XS.icmpNo Xl.here hx rfl (hb hby d12_21) rfl (feq hc21).1 ?_
            exact kt
          refine OGo.step (F' := T0.setTop (mkF m 25 #[.val (.ref a0), .val (.ref a1), .val (.int i)] [(.int (0 : Int32))])) (fun t kt => ?_) ?_
          · show Steps p.tables e below (T0.setTop (mkF m 24 #[.val (.ref a0), .val (.ref a1), .val (.int i)] [])) t
            refine XS.iconst Xl.here hx rfl (hb hby d12_24) ?_
            exact kt
          refine OGo.retZ Xl hx hlk (t := .boolean) (z' := (0 : Int32)) hret (by simp) (hb hby d12_25) rfl ?_ (by decide) (by decide)
          exact ⟨(by rw [he, own_eqb, if_neg (fun q => hc21 (List.cons.inj q).1)]), Nl, el⟩
  refine OGo.step (F' := s₁.setTop (mkF m 1 #[.val (.ref a0), .val (.ref a1), .unset] [(.ref a0)])) (fun t kt => ?_) ?_
  · show Steps p.tables e below (s₁.setTop (mkF m 0 #[.val (.ref a0), .val (.ref a1), .unset] [])) t
    refine XS.aloadN X0.here hx rfl (hb hby d12_0) rfl rfl ?_
    exact kt
  obtain ⟨cl5, Ar5, q5, S5, N5a, H5, G5⟩ := id (V00)
  refine OGo.step (F' := s₁.setTop (mkF m 2 #[.val (.ref a0), .val (.ref a1), .unset] [(.int (Int32.ofNat xs.length))])) (fun t kt => ?_) ?_
  · show Steps p.tables e below (s₁.setTop (mkF m 1 #[.val (.ref a0), .val (.ref a1), .unset] [(.ref a0)])) t
    refine X0.arraylength hx (by rw [e0]; exact Ar5.1) (State.isArrayOf_alike hZ.alike Ar5.2.1) (g := (mkF m 1 #[.val (.ref a0), .val (.ref a1), .unset] [(.ref a0)])) rfl rfl (hb hby d12_1) _ ?_
    rw [len_of S5 N5a]
    exact kt
  refine OGo.step (F' := s₁.setTop (mkF m 3 #[.val (.ref a0), .val (.ref a1), .unset] [(.ref a1), (.int (Int32.ofNat xs.length))])) (fun t kt => ?_) ?_
  · show Steps p.tables e below (s₁.setTop (mkF m 2 #[.val (.ref a0), .val (.ref a1), .unset] [(.int (Int32.ofNat xs.length))])) t
    refine XS.aloadN X0.here hx rfl (hb hby d12_2) rfl rfl ?_
    exact kt
  obtain ⟨cl6, Ar6, q6, S6, N6a, H6, G6⟩ := id (V01)
  refine OGo.step (F' := s₁.setTop (mkF m 4 #[.val (.ref a0), .val (.ref a1), .unset] [(.int (Int32.ofNat ys.length)), (.int (Int32.ofNat xs.length))])) (fun t kt => ?_) ?_
  · show Steps p.tables e below (s₁.setTop (mkF m 3 #[.val (.ref a0), .val (.ref a1), .unset] [(.ref a1), (.int (Int32.ofNat xs.length))])) t
    refine X0.arraylength hx (by rw [e0]; exact Ar6.1) (State.isArrayOf_alike hZ.alike Ar6.2.1) (g := (mkF m 3 #[.val (.ref a0), .val (.ref a1), .unset] [(.ref a1), (.int (Int32.ofNat xs.length))])) rfl rfl (hb hby d12_3) _ ?_
    rw [len_of S6 N6a]
    exact kt
  by_cases hc4 : (Int32.ofNat xs.length) = (Int32.ofNat ys.length)
  · refine OGo.step (F' := s₁.setTop (mkF m 7 #[.val (.ref a0), .val (.ref a1), .unset] [])) (fun t kt => ?_) ?_
    · show Steps p.tables e below (s₁.setTop (mkF m 4 #[.val (.ref a0), .val (.ref a1), .unset] [(.int (Int32.ofNat ys.length)), (.int (Int32.ofNat xs.length))])) t
      refine XS.icmpNo X0.here hx rfl (hb hby d12_4) rfl (teq hc4).2 ?_
      exact kt
    have hlen : xs.length = ys.length := by have a := (own_ofn _ hlx).1; have b := (own_ofn _ hly).1; rw [hc4] at a; omega
    refine OGo.step (F' := s₁.setTop (mkF m 9 #[.val (.ref a0), .val (.ref a1), .val (.int (0 : Int32))] [])) (fun t kt => ?_) ?_
    · show Steps p.tables e below (s₁.setTop (mkF m 7 #[.val (.ref a0), .val (.ref a1), .unset] [])) t
      refine XS.iconst X0.here hx rfl (hb hby d12_7) ?_
      show Steps p.tables e below (s₁.setTop (mkF m 8 #[.val (.ref a0), .val (.ref a1), .unset] [(.int (0 : Int32))])) t
      refine XS.istoreN X0.here hx rfl (hb hby d12_8) rfl (l' := #[.val (.ref a0), .val (.ref a1), .val (.int (0 : Int32))]) rfl ?_
      exact kt
    exact lp xs ys s₁ _ (0 : Int32) X0 e0 N0 (by decide) hlen (by rw [show (0 : Int32).toNatClampNeg = 0 from rfl]; omega) hlen rfl rfl rfl
  · refine OGo.step (F' := s₁.setTop (mkF m 34 #[.val (.ref a0), .val (.ref a1), .unset] [])) (fun t kt => ?_) ?_
    · show Steps p.tables e below (s₁.setTop (mkF m 4 #[.val (.ref a0), .val (.ref a1), .unset] [(.int (Int32.ofNat ys.length)), (.int (Int32.ofNat xs.length))])) t
      refine XS.icmpYes X0.here hx rfl (pc0 := 4) (pc' := 34) rfl (hb hby d12_4) rfl (feq hc4).2 (by decide) (by decide) ?_
      exact kt
    refine OGo.step (F' := s₁.setTop (mkF m 35 #[.val (.ref a0), .val (.ref a1), .unset] [(.int (0 : Int32))])) (fun t kt => ?_) ?_
    · show Steps p.tables e below (s₁.setTop (mkF m 34 #[.val (.ref a0), .val (.ref a1), .unset] [])) t
      refine XS.iconst X0.here hx rfl (hb hby d12_34) ?_
      exact kt
    refine OGo.retZ X0 hx hlk (t := .boolean) (z' := (0 : Int32)) hret (by simp) (hb hby d12_35) rfl ?_ (by decide) (by decide)
    exact ⟨(by rw [own_eqb, if_neg (fun q => hc4 (by rw [q]))]), N0, e0⟩
theorem fb12 (xs ys : List Int32) : nar .boolean (own_eqb xs ys) = own_eqb xs ys := by unfold own_eqb; split <;> rfl
/-! body 11: java/lang/String.equals:(Ljava/lang/Object;)Z -/
theorem d11_0 : decode jdk_42_method_66_code 0 = .ok (.aload_n 0, 1) := by decide +kernel
theorem d11_1 : decode jdk_42_method_66_code 1 = .ok (.aload_n 1, 1) := by decide +kernel
theorem d11_2 : decode jdk_42_method_66_code 2 = .ok (.if_acmp .ne 5, 3) := by decide +kernel
theorem d11_5 : decode jdk_42_method_66_code 5 = .ok (.iconst 1, 1) := by decide +kernel
theorem d11_6 : decode jdk_42_method_66_code 6 = .ok (.ireturn, 1) := by decide +kernel
theorem d11_7 : decode jdk_42_method_66_code 7 = .ok (.aload_n 1, 1) := by decide +kernel
theorem d11_8 : decode jdk_42_method_66_code 8 = .ok (.instanceof 10, 3) := by decide +kernel
theorem d11_11 : decode jdk_42_method_66_code 11 = .ok (.ifCond .eq 43, 3) := by decide +kernel
theorem d11_14 : decode jdk_42_method_66_code 14 = .ok (.aload_n 1, 1) := by decide +kernel
theorem d11_15 : decode jdk_42_method_66_code 15 = .ok (.checkcast 10, 3) := by decide +kernel
theorem d11_18 : decode jdk_42_method_66_code 18 = .ok (.astore_n 2, 1) := by decide +kernel
theorem d11_19 : decode jdk_42_method_66_code 19 = .ok (.getstatic 38, 3) := by decide +kernel
theorem d11_22 : decode jdk_42_method_66_code 22 = .ok (.ifCond .eq 14, 3) := by decide +kernel
theorem d11_25 : decode jdk_42_method_66_code 25 = .ok (.aload_n 0, 1) := by decide +kernel
theorem d11_26 : decode jdk_42_method_66_code 26 = .ok (.getfield 15, 3) := by decide +kernel
theorem d11_29 : decode jdk_42_method_66_code 29 = .ok (.aload_n 2, 1) := by decide +kernel
theorem d11_30 : decode jdk_42_method_66_code 30 = .ok (.getfield 15, 3) := by decide +kernel
theorem d11_33 : decode jdk_42_method_66_code 33 = .ok (.if_icmp .ne 21, 3) := by decide +kernel
theorem d11_36 : decode jdk_42_method_66_code 36 = .ok (.aload_n 0, 1) := by decide +kernel
theorem d11_37 : decode jdk_42_method_66_code 37 = .ok (.getfield 9, 3) := by decide +kernel
theorem d11_40 : decode jdk_42_method_66_code 40 = .ok (.aload_n 2, 1) := by decide +kernel
theorem d11_41 : decode jdk_42_method_66_code 41 = .ok (.getfield 9, 3) := by decide +kernel
theorem d11_44 : decode jdk_42_method_66_code 44 = .ok (.invokestatic 541, 3) := by decide +kernel
theorem d11_47 : decode jdk_42_method_66_code 47 = .ok (.ifCond .eq 7, 3) := by decide +kernel
theorem d11_50 : decode jdk_42_method_66_code 50 = .ok (.iconst 1, 1) := by decide +kernel
theorem d11_51 : decode jdk_42_method_66_code 51 = .ok (.goto 4, 3) := by decide +kernel
theorem d11_54 : decode jdk_42_method_66_code 54 = .ok (.iconst 0, 1) := by decide +kernel
theorem d11_55 : decode jdk_42_method_66_code 55 = .ok (.ireturn, 1) := by decide +kernel
theorem pn_11 : plainName "java/lang/String" = true := by first | (simp [plainName, overriddenIn]; done) | decide +kernel
theorem pd_11_0 : parseMethodDescriptor "([B[B)Z" = some ⟨[(.array .byte), (.array .byte)], some .boolean⟩ := by decide +kernel
theorem ef_11 (m : MethodId) (x0 : Addr) (x1 : Addr) : entryFrame m #[(.ref x0), (.ref x1)] 3 = mkF m 0 #[.val (.ref x0), .val (.ref x1), .unset] [] := by first | (simp [entryFrame, mkF, argsToLocals, Value.category]; done) | rfl
def f11 (a0 : Addr) (a1 : Addr) (xs : List Int32) (ys : List Int32) : Int32 :=
  if a0 = a1 then (1 : Int32)
  else if (own_eqb xs ys) = (0 : Int32) then (0 : Int32)
    else (1 : Int32)
theorem fb11 (a0 : Addr) (a1 : Addr) (xs : List Int32) (ys : List Int32) : nar .boolean (f11 a0 a1 xs ys) = (f11 a0 a1 xs ys) := by
  unfold f11
  repeat' split
  all_goals first | rfl | decide
set_option maxRecDepth 65536 in
set_option maxHeartbeats 40000000 in
theorem rm11 (l : Launch) (Z : State) (az : Array Value) (hw : ∀ d ∈ tables_1, d.before az Z = true) (ws : List Jvm.Cond) (a0 : Addr) (a1 : Addr) (t0 : Addr) (t1 : Addr) (xs : List Int32) (ys : List Int32) (w_COMPACT_STRINGS : Int32) (h0 : Heap) (n0 : Nat) (Z0 : n0 ≤ h0.size) (E_a1 : Exa Z h0 a1 "java/lang/String") (F_value_a0 : Fld Z h0 a0 "java/lang/String" "value" "[B" (.ref t0)) (F_value_a1 : Fld Z h0 a1 "java/lang/String" "value" "[B" (.ref t1)) (F_coder_a0 : Fld Z h0 a0 "java/lang/String" "coder" "B" (.int (0 : Int32))) (F_coder_a1 : Fld Z h0 a1 "java/lang/String" "coder" "B" (.int (0 : Int32))) (O_t0 : OBs Z h0 t0 xs) (O_t1 : OBs Z h0 t1 ys) (hlx : xs.length ≤ 3) (hly : ys.length ≤ 3) (hC : ¬ (w_COMPACT_STRINGS = (0 : Int32))) (S_String_COMPACT_STRINGS : Sta Z h0 "java/lang/String" "COMPACT_STRINGS" "Z" (.int w_COMPACT_STRINGS)) :
    OCtr l Z (⟨"java/lang/String", "equals", "(Ljava/lang/Object;)Z"⟩ : MethodName) jdk_42_method_66_code 3 (some .boolean) ws ({ frames := 1, cells := 0, slots := 0, locals := 14 } : Room) #[(.ref a0), (.ref a1)] h0 (OPure (some (.int (f11 a0 a1 xs ys))) h0 n0) := by
  refine OCtr.of (plainFor_of_name pn_11) ?_
  intro p e s m below meth c s₁ X0 hx hlk hZ hown0 hnm hby hml0 hret e0
  have hown : s.vm.findClass "java/lang/String" = some m.cls := hown0
  have hml : c.maxLocals = 3 := hml0
  have N0 := Fr.nil n0
  refine OGo.step (fun t k => castTop (ef_11 m a0 a1) k) ?_
  refine OGo.step (F' := s₁.setTop (mkF m 2 #[.val (.ref a0), .val (.ref a1), .unset] [(.ref a1), (.ref a0)])) (fun t kt => ?_) ?_
  · show Steps p.tables e below (s₁.setTop (mkF m 0 #[.val (.ref a0), .val (.ref a1), .unset] [])) t
    refine XS.aloadN X0.here hx rfl (hb hby d11_0) rfl rfl ?_
    show Steps p.tables e below (s₁.setTop (mkF m 1 #[.val (.ref a0), .val (.ref a1), .unset] [(.ref a0)])) t
    refine XS.aloadN X0.here hx rfl (hb hby d11_1) rfl rfl ?_
    exact kt
  by_cases hc2 : a0 = a1
  · refine OGo.step (F' := s₁.setTop (mkF m 5 #[.val (.ref a0), .val (.ref a1), .unset] [])) (fun t kt => ?_) ?_
    · show Steps p.tables e below (s₁.setTop (mkF m 2 #[.val (.ref a0), .val (.ref a1), .unset] [(.ref a1), (.ref a0)])) t
      refine Jvm.RoadKit.acmp (g := (mkF m 2 #[.val (.ref a0), .val (.ref a1), .unset] [(.ref a1), (.ref a0)])) X0 hx rfl rfl rfl (pc0 := 2) (pc' := 5) (same := true) rfl (hb hby d11_2) rfl (decide_eq_true (congrArg Value.ref hc2)) (by decide) (by decide) ?_
      exact kt
    refine OGo.step (F' := s₁.setTop (mkF m 6 #[.val (.ref a0), .val (.ref a1), .unset] [(.int (1 : Int32))])) (fun t kt => ?_) ?_
    · show Steps p.tables e below (s₁.setTop (mkF m 5 #[.val (.ref a0), .val (.ref a1), .unset] [])) t
      refine XS.iconst X0.here hx rfl (hb hby d11_5) ?_
      exact kt
    refine OGo.retZ X0 hx hlk (t := .boolean) (z' := (1 : Int32)) hret (by simp) (hb hby d11_6) rfl ?_ (by decide) (by decide)
    exact ⟨(by rw [f11, if_pos hc2]), N0, e0⟩
  · refine OGo.step (F' := s₁.setTop (mkF m 7 #[.val (.ref a0), .val (.ref a1), .unset] [])) (fun t kt => ?_) ?_
    · show Steps p.tables e below (s₁.setTop (mkF m 2 #[.val (.ref a0), .val (.ref a1), .unset] [(.ref a1), (.ref a0)])) t
      refine Jvm.RoadKit.acmp (g := (mkF m 2 #[.val (.ref a0), .val (.ref a1), .unset] [(.ref a1), (.ref a0)])) X0 hx rfl rfl rfl (pc0 := 2) (pc' := 7) (same := false) rfl (hb hby d11_2) rfl (decide_eq_false fun q => hc2 (Value.ref.inj q)) (by decide) (by decide) ?_
      exact kt
    refine OGo.step (F' := s₁.setTop (mkF m 8 #[.val (.ref a0), .val (.ref a1), .unset] [(.ref a1)])) (fun t kt => ?_) ?_
    · show Steps p.tables e below (s₁.setTop (mkF m 7 #[.val (.ref a0), .val (.ref a1), .unset] [])) t
      refine XS.aloadN X0.here hx rfl (hb hby d11_7) rfl rfl ?_
      exact kt
    obtain ⟨T1, X1, e1, st1⟩ := instY X0 hx hZ hown (own_wd hw 64 rfl) e0 (Ins.self E_a1) (g := (mkF m 8 #[.val (.ref a0), .val (.ref a1), .unset] [(.ref a1)])) rfl rfl (hb hby d11_8)
    refine OGo.step st1 ?_
    show OGo _ _ _ _ _ _ _ (T1.setTop (mkF m 11 #[.val (.ref a0), .val (.ref a1), .unset] [(.int (1 : Int32))]))
    refine OGo.step (F' := T1.setTop (mkF m 15 #[.val (.ref a0), .val (.ref a1), .unset] [(.ref a1)])) (fun t kt => ?_) ?_
    · show Steps p.tables e below (T1.setTop (mkF m 11 #[.val (.ref a0), .val (.ref a1), .unset] [(.int (1 : Int32))])) t
      refine XS.ifNo X1.here hx rfl (hb hby d11_11) rfl ((if0 _ _).trans (feq (by decide : ¬ ((1 : Int32) = (0 : Int32)))).1) ?_
      show Steps p.tables e below (T1.setTop (mkF m 14 #[.val (.ref a0), .val (.ref a1), .unset] [])) t
      refine XS.aloadN X1.here hx rfl (hb hby d11_14) rfl rfl ?_
      exact kt
    obtain ⟨T2, X2, e2, st2⟩ := castY X1 hx hZ hown (own_wd hw 64 rfl) e1 (Ins.self E_a1) (g := (mkF m 15 #[.val (.ref a0), .val (.ref a1), .unset] [(.ref a1)])) rfl rfl (hb hby d11_15)
    refine OGo.step st2 ?_
    show OGo _ _ _ _ _ _ _ (T2.setTop (mkF m 18 #[.val (.ref a0), .val (.ref a1), .unset] [(.ref a1)]))
    refine OGo.step (F' := T2.setTop (mkF m 19 #[.val (.ref a0), .val (.ref a1), .val (.ref a1)] [])) (fun t kt => ?_) ?_
    · show Steps p.tables e below (T2.setTop (mkF m 18 #[.val (.ref a0), .val (.ref a1), .unset] [(.ref a1)])) t
      refine XS.astoreN X2.here hx rfl (hb hby d11_18) rfl rfl (l' := #[.val (.ref a0), .val (.ref a1), .val (.ref a1)]) rfl ?_
      exact kt
    obtain ⟨T3, X3, e3, st3⟩ := getS2 X2 hx hZ hown (host := "") (Or.inl (own_wd hw 22 rfl)) Via.refl e2 S_String_COMPACT_STRINGS (g := (mkF m 19 #[.val (.ref a0), .val (.ref a1), .val (.ref a1)] [])) rfl (hb hby d11_19)
    refine OGo.step st3 ?_
    show OGo _ _ _ _ _ _ _ (T3.setTop (mkF m 22 #[.val (.ref a0), .val (.ref a1), .val (.ref a1)] [(.int w_COMPACT_STRINGS)]))
    refine OGo.step (F' := T3.setTop (mkF m 26 #[.val (.ref a0), .val (.ref a1), .val (.ref a1)] [(.ref a0)])) (fun t kt => ?_) ?_
    · show Steps p.tables e below (T3.setTop (mkF m 22 #[.val (.ref a0), .val (.ref a1), .val (.ref a1)] [(.int w_COMPACT_STRINGS)])) t
      refine XS.ifNo X3.here hx rfl (hb hby d11_22) rfl ((if0 _ _).trans (feq hC).1) ?_
      show Steps p.tables e below (T3.setTop (mkF m 25 #[.val (.ref a0), .val (.ref a1), .val (.ref a1)] [])) t
      refine XS.aloadN X3.here hx rfl (hb hby d11_25) rfl rfl ?_
      exact kt
    obtain ⟨T4, X4, e4, st4⟩ := getF X3 hx hZ hown (host := "") (Or.inl (own_wd hw 34 rfl)) Via.refl e3 F_coder_a0 (g := (mkF m 26 #[.val (.ref a0), .val (.ref a1), .val (.ref a1)] [(.ref a0)])) rfl rfl (hb hby d11_26)
    refine OGo.step st4 ?_
    show OGo _ _ _ _ _ _ _ (T4.setTop (mkF m 29 #[.val (.ref a0), .val (.ref a1), .val (.ref a1)] [(.int (0 : Int32))]))
    refine OGo.step (F' := T4.setTop (mkF m 30 #[.val (.ref a0), .val (.ref a1), .val (.ref a1)] [(.ref a1), (.int (0 : Int32))])) (fun t kt => ?_) ?_
    · show Steps p.tables e below (T4.setTop (mkF m 29 #[.val (.ref a0), .val (.ref a1), .val (.ref a1)] [(.int (0 : Int32))])) t
      refine XS.aloadN X4.here hx rfl (hb hby d11_29) rfl rfl ?_
      exact kt
    obtain ⟨T5, X5, e5, st5⟩ := getF X4 hx hZ hown (host := "") (Or.inl (own_wd hw 34 rfl)) Via.refl e4 F_coder_a1 (g := (mkF m 30 #[.val (.ref a0), .val (.ref a1), .val (.ref a1)] [(.ref a1), (.int (0 : Int32))])) rfl rfl (hb hby d11_30)
    refine OGo.step st5 ?_
    show OGo _ _ _ _ _ _ _ (T5.setTop (mkF m 33 #[.val (.ref a0), .val (.ref a1), .val (.ref a1)] [(.int (0 : Int32)), (.int (0 : Int32))]))
    refine OGo.step (F' := T5.setTop (mkF m 37 #[.val (.ref a0), .val (.ref a1), .val (.ref a1)] [(.ref a0)])) (fun t kt => ?_) ?_
    · show Steps p.tables e below (T5.setTop (mkF m 33 #[.val (.ref a0), .val (.ref a1), .val (.ref a1)] [(.int (0 : Int32)), (.int (0 : Int32))])) t
      refine XS.icmpNo X5.here hx rfl (hb hby d11_33) rfl (teq (by decide : (0 : Int32) = (0 : Int32))).2 ?_
      show Steps p.tables e below (T5.setTop (mkF m 36 #[.val (.ref a0), .val (.ref a1), .val (.ref a1)] [])) t
      refine XS.aloadN X5.here hx rfl (hb hby d11_36) rfl rfl ?_
      exact kt
    obtain ⟨T6, X6, e6, st6⟩ := getF X5 hx hZ hown (host := "") (Or.inl (own_wd hw 36 rfl)) Via.refl e5 F_value_a0 (g := (mkF m 37 #[.val (.ref a0), .val (.ref a1), .val (.ref a1)] [(.ref a0)])) rfl rfl (hb hby d11_37)
    refine OGo.step st6 ?_
    show OGo _ _ _ _ _ _ _ (T6.setTop (mkF m 40 #[.val (.ref a0), .val (.ref a1), .val (.ref a1)] [(.ref t0)]))
    refine OGo.step (F' := T6.setTop (mkF m 41 #[.val (.ref a0), .val (.ref a1), .val (.ref a1)] [(.ref a1), (.ref t0)])) (fun t kt => ?_) ?_
    · show Steps p.tables e below (T6.setTop (mkF m 40 #[.val (.ref a0), .val (.ref a1), .val (.ref a1)] [(.ref t0)])) t
      refine XS.aloadN X6.here hx rfl (hb hby d11_40) rfl rfl ?_
      exact kt
    obtain ⟨T7, X7, e7, st7⟩ := getF X6 hx hZ hown (host := "") (Or.inl (own_wd hw 36 rfl)) Via.refl e6 F_value_a1 (g := (mkF m 41 #[.val (.ref a0), .val (.ref a1), .val (.ref a1)] [(.ref a1), (.ref t0)])) rfl rfl (hb hby d11_41)
    refine OGo.step st7 ?_
    show OGo _ _ _ _ _ _ _ (T7.setTop (mkF m 44 #[.val (.ref a0), .val (.ref a1), .val (.ref a1)] [(.ref t1), (.ref t0)]))
    refine OGo.callS X7 hx hZ (y := (⟨"java/lang/StringLatin1", "equals", "([B[B)Z"⟩ : MethodName)) hown (own_wd hw 65 rfl) (own_wd hw 66 rfl) (own_wd hw 67 rfl) (own_wd hw 68 rfl) (by decide) (rm12 l Z az hw [] t0 t1 xs ys h0 n0 Z0 O_t0 O_t1 hlx hly) (W := 0) (by decide) (by decide) (g := (mkF m 44 #[.val (.ref a0), .val (.ref a1), .val (.ref a1)] [(.ref t1), (.ref t0)])) rfl (by rw [hml]; rfl) (argsL := [(.ref t0), (.ref t1)]) (rest := []) (lenOf pd_11_0 rfl) rfl (by show 2 * 0 + _ ≤ _; exact Nat.le_of_eq rfl) (hb hby d11_44) rfl e7 (by decide) (by decide) ?_
    rintro _ T8 L8 X8 ⟨rfl, Nq8, e8⟩
    have N8 := Fr.app N0 Nq8
    show OGo _ _ _ _ _ _ _ (T8.setTop (mkF m 47 #[.val (.ref a0), .val (.ref a1), .val (.ref a1)] [(.int (own_eqb xs ys))]))
    by_cases hc47 : (own_eqb xs ys) = (0 : Int32)
    · refine OGo.step (F' := T8.setTop (mkF m 54 #[.val (.ref a0), .val (.ref a1), .val (.ref a1)] [])) (fun t kt => ?_) ?_
      · show Steps p.tables e below (T8.setTop (mkF m 47 #[.val (.ref a0), .val (.ref a1), .val (.ref a1)] [(.int (own_eqb xs ys))])) t
        refine XS.ifYes X8.here hx rfl (pc0 := 47) (pc' := 54) rfl (hb hby d11_47) rfl ((if0 _ _).trans (teq hc47).1) (by decide) (by decide) ?_
        exact kt
      refine OGo.step (F' := T8.setTop (mkF m 55 #[.val (.ref a0), .val (.ref a1), .val (.ref a1)] [(.int (0 : Int32))])) (fun t kt => ?_) ?_
      · show Steps p.tables e below (T8.setTop (mkF m 54 #[.val (.ref a0), .val (.ref a1), .val (.ref a1)] [])) t
        refine XS.iconst X8.here hx rfl (hb hby d11_54) ?_
        exact kt
      refine OGo.retZ X8 hx hlk (t := .boolean) (z' := (0 : Int32)) hret (by simp) (hb hby d11_55) rfl ?_ (by decide) (by decide)
      exact ⟨(by rw [f11, if_neg hc2, if_pos hc47]), N8, e8⟩
    · refine OGo.step (F' := T8.setTop (mkF m 50 #[.val (.ref a0), .val (.ref a1), .val (.ref a1)] [])) (fun t kt => ?_) ?_
      · show Steps p.tables e below (T8.setTop (mkF m 47 #[.val (.ref a0), .val (.ref a1), .val (.ref a1)] [(.int (own_eqb xs ys))])) t
        refine XS.ifNo X8.here hx rfl (hb hby d11_47) rfl ((if0 _ _).trans (feq hc47).1) ?_
        exact kt
      refine OGo.step (F' := T8.setTop (mkF m 55 #[.val (.ref a0), .val (.ref a1), .val (.ref a1)] [(.int (1 : Int32))])) (fun t kt => ?_) ?_
      · show Steps p.tables e below (T8.setTop (mkF m 50 #[.val (.ref a0), .val (.ref a1), .val (.ref a1)] [])) t
        refine XS.iconst X8.here hx rfl (hb hby d11_50) ?_
        show Steps p.tables e below (T8.setTop (mkF m 51 #[.val (.ref a0), .val (.ref a1), .val (.ref a1)] [(.int (1 : Int32))])) t
        refine XS.goto X8.here hx rfl (pc0 := 51) (pc' := 55) rfl (hb hby d11_51) (by decide) (by decide) ?_
        exact kt
      refine OGo.retZ X8 hx hlk (t := .boolean) (z' := (1 : Int32)) hret (by simp) (hb hby d11_55) rfl ?_ (by decide) (by decide)
      exact ⟨(by rw [f11, if_neg hc2, if_neg hc47]), N8, e8⟩
theorem own_f8 (a b : Addr) (xs : List Int32) : f11 a b xs xs = (1 : Int32) := by unfold f11 own_eqb; simp
/-! body 7: java/lang/StringUTF16.coderFromArrayLen:([BI)B -/
theorem d7_0 : decode jdk_52_method_15_code 0 = .ok (.iload_n 1, 1) := by decide +kernel
theorem d7_1 : decode jdk_52_method_15_code 1 = .ok (.aload_n 0, 1) := by decide +kernel
theorem d7_2 : decode jdk_52_method_15_code 2 = .ok (.arraylength, 1) := by decide +kernel
theorem d7_3 : decode jdk_52_method_15_code 3 = .ok (.isub, 1) := by decide +kernel
theorem d7_4 : decode jdk_52_method_15_code 4 = .ok (.bipush 31, 2) := by decide +kernel
theorem d7_6 : decode jdk_52_method_15_code 6 = .ok (.iushr, 1) := by decide +kernel
theorem d7_7 : decode jdk_52_method_15_code 7 = .ok (.i2b, 1) := by decide +kernel
theorem d7_8 : decode jdk_52_method_15_code 8 = .ok (.ireturn, 1) := by decide +kernel
theorem pn_7 : plainName "java/lang/StringUTF16" = true := by first | (simp [plainName, overriddenIn]; done) | decide +kernel
theorem ef_7 (m : MethodId) (x0 : Addr) (x1 : Int32) : entryFrame m #[(.ref x0), (.int x1)] 2 = mkF m 0 #[.val (.ref x0), .val (.int x1)] [] := by first | (simp [entryFrame, mkF, argsToLocals, Value.category]; done) | rfl
def f7 (p1 : Int32) (bs : List Int32) : Int32 :=
  (nar .byte ((((p1 - (Int32.ofNat bs.length)).toUInt32 >>> ((31 : Int32) &&& 31).toUInt32).toInt32).toInt8.toInt32))
set_option maxRecDepth 65536 in
set_option maxHeartbeats 40000000 in
theorem rm7 (l : Launch) (Z : State) (az : Array Value) (hw : ∀ d ∈ tables_1, d.before az Z = true) (ws : List Jvm.Cond) (a0 : Addr) (p1 : Int32) (bs : List Int32) (h0 : Heap) (n0 : Nat) (Z0 : n0 ≤ h0.size) (O_a0 : OBs Z h0 a0 bs) :
    OCtr l Z (⟨"java/lang/StringUTF16", "coderFromArrayLen", "([BI)B"⟩ : MethodName) jdk_52_method_15_code 2 (some .byte) ws ({ frames := 0, cells := 0, slots := 0, locals := 0 } : Room) #[(.ref a0), (.int p1)] h0 (OPure (some (.int (f7 p1 bs))) h0 n0) := by
  refine OCtr.of (plainFor_of_name pn_7) ?_
  intro p e s m below meth c s₁ X0 hx hlk hZ hown0 hnm hby hml0 hret e0
  have hown : s.vm.findClass "java/lang/StringUTF16" = some m.cls := hown0
  have hml : c.maxLocals = 2 := hml0
  have N0 := Fr.nil n0
  refine OGo.step (fun t k => castTop (ef_7 m a0 p1) k) ?_
  obtain ⟨k0, V00⟩ := O_a0
  refine OGo.step (F' := s₁.setTop (mkF m 2 #[.val (.ref a0), .val (.int p1)] [(.ref a0), (.int p1)])) (fun t kt => ?_) ?_
  · show Steps p.tables e below (s₁.setTop (mkF m 0 #[.val (.ref a0), .val (.int p1)] [])) t
    refine XS.iloadN X0.here hx rfl (hb hby d7_0) rfl ?_
    show Steps p.tables e below (s₁.setTop (mkF m 1 #[.val (.ref a0), .val (.int p1)] [(.int p1)])) t
    refine XS.aloadN X0.here hx rfl (hb hby d7_1) rfl rfl ?_
    exact kt
  obtain ⟨cl1, Ar1, q1, S1, N1a, H1, G1⟩ := id (V00)
  refine OGo.step (F' := s₁.setTop (mkF m 3 #[.val (.ref a0), .val (.int p1)] [(.int (Int32.ofNat bs.length)), (.int p1)])) (fun t kt => ?_) ?_
  · show Steps p.tables e below (s₁.setTop (mkF m 2 #[.val (.ref a0), .val (.int p1)] [(.ref a0), (.int p1)])) t
    refine X0.arraylength hx (by rw [e0]; exact Ar1.1) (State.isArrayOf_alike hZ.alike Ar1.2.1) (g := (mkF m 2 #[.val (.ref a0), .val (.int p1)] [(.ref a0), (.int p1)])) rfl rfl (hb hby d7_2) _ ?_
    rw [len_of S1 N1a]
    exact kt
  refine OGo.step (F' := s₁.setTop (mkF m 8 #[.val (.ref a0), .val (.int p1)] [(.int ((((p1 - (Int32.ofNat bs.length)).toUInt32 >>> ((31 : Int32) &&& 31).toUInt32).toInt32).toInt8.toInt32))])) (fun t kt => ?_) ?_
  · show Steps p.tables e below (s₁.setTop (mkF m 3 #[.val (.ref a0), .val (.int p1)] [(.int (Int32.ofNat bs.length)), (.int p1)])) t
    refine XS.isub X0.here hx rfl (hb hby d7_3) rfl ?_
    show Steps p.tables e below (s₁.setTop (mkF m 4 #[.val (.ref a0), .val (.int p1)] [(.int (p1 - (Int32.ofNat bs.length)))])) t
    refine XS.bipush X0.here hx rfl (hb hby d7_4) ?_
    show Steps p.tables e below (s₁.setTop (mkF m 6 #[.val (.ref a0), .val (.int p1)] [(.int (31 : Int32)), (.int (p1 - (Int32.ofNat bs.length)))])) t
    refine XS.iushr X0.here hx rfl (hb hby d7_6) rfl ?_
    show Steps p.tables e below (s₁.setTop (mkF m 7 #[.val (.ref a0), .val (.int p1)] [(.int (((p1 - (Int32.ofNat bs.length)).toUInt32 >>> ((31 : Int32) &&& 31).toUInt32).toInt32))])) t
    refine XS.i2b X0.here hx rfl (hb hby d7_7) rfl ?_
    exact kt
  refine OGo.retZ X0 hx hlk (t := .byte) (z' := (nar .byte ((((p1 - (Int32.ofNat bs.length)).toUInt32 >>> ((31 : Int32) &&& 31).toUInt32).toInt32).toInt8.toInt32))) hret (by simp) (hb hby d7_8) rfl ?_ (by decide) (by decide)
  exact ⟨(by rw [f7]), N0, e0⟩
/-! body 6: java/lang/StringUTF16.compress:([CI[BII)I -/
theorem d6_0 : decode jdk_52_method_21_code 0 = .ok (.iconst 0, 1) := by decide +kernel
theorem d6_1 : decode jdk_52_method_21_code 1 = .ok (.istore 5, 2) := by decide +kernel
theorem d6_3 : decode jdk_52_method_21_code 3 = .ok (.iload 5, 2) := by decide +kernel
theorem d6_5 : decode jdk_52_method_21_code 5 = .ok (.iload 4, 2) := by decide +kernel
theorem d6_7 : decode jdk_52_method_21_code 7 = .ok (.if_icmp .ge 37, 3) := by decide +kernel
theorem d6_10 : decode jdk_52_method_21_code 10 = .ok (.aload_n 0, 1) := by decide +kernel
theorem d6_11 : decode jdk_52_method_21_code 11 = .ok (.iload_n 1, 1) := by decide +kernel
theorem d6_12 : decode jdk_52_method_21_code 12 = .ok (.caload, 1) := by decide +kernel
theorem d6_13 : decode jdk_52_method_21_code 13 = .ok (.istore 6, 2) := by decide +kernel
theorem d6_15 : decode jdk_52_method_21_code 15 = .ok (.iload 6, 2) := by decide +kernel
theorem d6_17 : decode jdk_52_method_21_code 17 = .ok (.sipush 255, 3) := by decide +kernel
theorem d6_20 : decode jdk_52_method_21_code 20 = .ok (.if_icmp .le 6, 3) := by decide +kernel
theorem d6_26 : decode jdk_52_method_21_code 26 = .ok (.aload_n 2, 1) := by decide +kernel
theorem d6_27 : decode jdk_52_method_21_code 27 = .ok (.iload_n 3, 1) := by decide +kernel
theorem d6_28 : decode jdk_52_method_21_code 28 = .ok (.iload 6, 2) := by decide +kernel
theorem d6_30 : decode jdk_52_method_21_code 30 = .ok (.i2b, 1) := by decide +kernel
theorem d6_31 : decode jdk_52_method_21_code 31 = .ok (.bastore, 1) := by decide +kernel
theorem d6_32 : decode jdk_52_method_21_code 32 = .ok (.iinc 1 1, 3) := by decide +kernel
theorem d6_35 : decode jdk_52_method_21_code 35 = .ok (.iinc 3 1, 3) := by decide +kernel
theorem d6_38 : decode jdk_52_method_21_code 38 = .ok (.iinc 5 1, 3) := by decide +kernel
theorem d6_41 : decode jdk_52_method_21_code 41 = .ok (.goto (-38), 3) := by decide +kernel
theorem d6_44 : decode jdk_52_method_21_code 44 = .ok (.iload 4, 2) := by decide +kernel
theorem d6_46 : decode jdk_52_method_21_code 46 = .ok (.ireturn, 1) := by decide +kernel
theorem pn_6 : plainName "java/lang/StringUTF16" = true := by first | (simp [plainName, overriddenIn]; done) | decide +kernel
theorem ef_6_1 (m : MethodId) (x0 : Addr) (x2 : Addr) : entryFrame m #[(.ref x0), (.int (0 : Int32)), (.ref x2), (.int (0 : Int32)), (.int (1 : Int32))] 7 = mkF m 0 #[.val (.ref x0), .val (.int (0 : Int32)), .val (.ref x2), .val (.int (0 : Int32)), .val (.int (1 : Int32)), .unset, .unset] [] := by first | (simp [entryFrame, mkF, argsToLocals, Value.category]; done) | rfl
def f6_1  : Int32 :=
  (1 : Int32)
def Q6_1 (Z : State) (a0 : Addr) (a2 : Addr) (kc : ClassId) (kb : ClassId) (c0 : Int32) (h0 : Heap) (n0 : Nat) (v : Option Value) (h : Heap) (L : List Loc) : Prop := v = some (.int f6_1) ∧ Fr n0 L ∧ Keep h0 h [a2] ∧ Arv Z h a2 kb .byte (1 : Int32) [(.int (own_by c0))] (.int (0 : Int32))
set_option maxRecDepth 65536 in
set_option maxHeartbeats 40000000 in
theorem rm6_1 (l : Launch) (Z : State) (az : Array Value) (hw : ∀ d ∈ tables_1, d.before az Z = true) (ws : List Jvm.Cond) (a0 : Addr) (a2 : Addr) (kc : ClassId) (kb : ClassId) (c0 : Int32) (h0 : Heap) (n0 : Nat) (Z0 : n0 ≤ h0.size) (Vc_a0 : Arv Z h0 a0 kc .char (1 : Int32) [(.int c0)] (.int (0 : Int32))) (Vb_a2 : Arv Z h0 a2 kb .byte (1 : Int32) [(.int (0 : Int32))] (.int (0 : Int32))) (hne : a0 ≠ a2) (h255_0 : ¬ ((255 : Int32) < c0)) (gn_a2 : n0 ≤ a2) :
    OCtr l Z (⟨"java/lang/StringUTF16", "compress", "([CI[BII)I"⟩ : MethodName) jdk_52_method_21_code 7 (some .int) ws ({ frames := 0, cells := 0, slots := 0, locals := 0 } : Room) #[(.ref a0), (.int (0 : Int32)), (.ref a2), (.int (0 : Int32)), (.int (1 : Int32))] h0 (Q6_1 Z a0 a2 kc kb c0 h0 n0) := by
  refine OCtr.of (plainFor_of_name pn_6) ?_
  intro p e s m below meth c s₁ X0 hx hlk hZ hown0 hnm hby hml0 hret e0
  have hown : s.vm.findClass "java/lang/StringUTF16" = some m.cls := hown0
  have hml : c.maxLocals = 7 := hml0
  have N0 := Fr.nil n0
  refine OGo.step (fun t k => castTop (ef_6_1 m a0 a2) k) ?_
  refine OGo.step (F' := s₁.setTop (mkF m 12 #[.val (.ref a0), .val (.int (0 : Int32)), .val (.ref a2), .val (.int (0 : Int32)), .val (.int (1 : Int32)), .val (.int (0 : Int32)), .unset] [(.int (0 : Int32)), (.ref a0)])) (fun t kt => ?_) ?_
  · show Steps p.tables e below (s₁.setTop (mkF m 0 #[.val (.ref a0), .val (.int (0 : Int32)), .val (.ref a2), .val (.int (0 : Int32)), .val (.int (1 : Int32)), .unset, .unset] [])) t
    refine XS.iconst X0.here hx rfl (hb hby d6_0) ?_
    show Steps p.tables e below (s₁.setTop (mkF m 1 #[.val (.ref a0), .val (.int (0 : Int32)), .val (.ref a2), .val (.int (0 : Int32)), .val (.int (1 : Int32)), .unset, .unset] [(.int (0 : Int32))])) t
    refine XS.istore X0.here hx rfl (hb hby d6_1) rfl (l' := #[.val (.ref a0), .val (.int (0 : Int32)), .val (.ref a2), .val (.int (0 : Int32)), .val (.int (1 : Int32)), .val (.int (0 : Int32)), .unset]) rfl ?_
    show Steps p.tables e below (s₁.setTop (mkF m 3 #[.val (.ref a0), .val (.int (0 : Int32)), .val (.ref a2), .val (.int (0 : Int32)), .val (.int (1 : Int32)), .val (.int (0 : Int32)), .unset] [])) t
    refine XS.iload X0.here hx rfl (hb hby d6_3) rfl ?_
    show Steps p.tables e below (s₁.setTop (mkF m 5 #[.val (.ref a0), .val (.int (0 : Int32)), .val (.ref a2), .val (.int (0 : Int32)), .val (.int (1 : Int32)), .val (.int (0 : Int32)), .unset] [(.int (0 : Int32))])) t
    refine XS.iload X0.here hx rfl (hb hby d6_5) rfl ?_
    show Steps p.tables e below (s₁.setTop (mkF m 7 #[.val (.ref a0), .val (.int (0 : Int32)), .val (.ref a2), .val (.int (0 : Int32)), .val (.int (1 : Int32)), .val (.int (0 : Int32)), .unset] [(.int (1 : Int32)), (.int (0 : Int32))])) t
    refine XS.icmpNo X0.here hx rfl (hb hby d6_7) rfl (tlt (by decide : (0 : Int32) < (1 : Int32))).2.1 ?_
    show Steps p.tables e below (s₁.setTop (mkF m 10 #[.val (.ref a0), .val (.int (0 : Int32)), .val (.ref a2), .val (.int (0 : Int32)), .val (.int (1 : Int32)), .val (.int (0 : Int32)), .unset] [])) t
    refine XS.aloadN X0.here hx rfl (hb hby d6_10) rfl rfl ?_
    show Steps p.tables e below (s₁.setTop (mkF m 11 #[.val (.ref a0), .val (.int (0 : Int32)), .val (.ref a2), .val (.int (0 : Int32)), .val (.int (1 : Int32)), .val (.int (0 : Int32)), .unset] [(.ref a0)])) t
    refine XS.iloadN X0.here hx rfl (hb hby d6_11) rfl ?_
    exact kt
  obtain ⟨cl1, Ar1, q1, S1, N1a, H1, G1⟩ := id (Vc_a0)
  have hin1 : ¬ ((0 : Int32) < 0 ∨ cl1.slots.size ≤ ((0 : Int32)).toNatClampNeg) := inb_of S1 ⟨by decide, by decide⟩
  have hat1 : cl1.slots[((0 : Int32)).toNatClampNeg]? = some (.int c0) := H1.at hin1 rfl
  refine OGo.step (F' := s₁.setTop (mkF m 13 #[.val (.ref a0), .val (.int (0 : Int32)), .val (.ref a2), .val (.int (0 : Int32)), .val (.int (1 : Int32)), .val (.int (0 : Int32)), .unset] [(.int c0)])) (fun t kt => ?_) ?_
  · show Steps p.tables e below (s₁.setTop (mkF m 12 #[.val (.ref a0), .val (.int (0 : Int32)), .val (.ref a2), .val (.int (0 : Int32)), .val (.int (1 : Int32)), .val (.int (0 : Int32)), .unset] [(.int (0 : Int32)), (.ref a0)])) t
    refine X0.caload hx (j := (0 : Int32)) (v := (.int c0)) (by rw [e0]; exact Ar1.1) (State.isArrayOf_alike hZ.alike Ar1.2.1) Ar1.2.2 hin1 hat1 (g := (mkF m 12 #[.val (.ref a0), .val (.int (0 : Int32)), .val (.ref a2), .val (.int (0 : Int32)), .val (.int (1 : Int32)), .val (.int (0 : Int32)), .unset] [(.int (0 : Int32)), (.ref a0)])) rfl rfl (hb hby d6_12) _ ?_
    exact kt
  refine OGo.step (F' := s₁.setTop (mkF m 31 #[.val (.ref a0), .val (.int (0 : Int32)), .val (.ref a2), .val (.int (0 : Int32)), .val (.int (1 : Int32)), .val (.int (0 : Int32)), .val (.int c0)] [(.int (c0.toInt8.toInt32)), (.int (0 : Int32)), (.ref a2)])) (fun t kt => ?_) ?_
  · show Steps p.tables e below (s₁.setTop (mkF m 13 #[.val (.ref a0), .val (.int (0 : Int32)), .val (.ref a2), .val (.int (0 : Int32)), .val (.int (1 : Int32)), .val (.int (0 : Int32)), .unset] [(.int c0)])) t
    refine XS.istore X0.here hx rfl (hb hby d6_13) rfl (l' := #[.val (.ref a0), .val (.int (0 : Int32)), .val (.ref a2), .val (.int (0 : Int32)), .val (.int (1 : Int32)), .val (.int (0 : Int32)), .val (.int c0)]) rfl ?_
    show Steps p.tables e below (s₁.setTop (mkF m 15 #[.val (.ref a0), .val (.int (0 : Int32)), .val (.ref a2), .val (.int (0 : Int32)), .val (.int (1 : Int32)), .val (.int (0 : Int32)), .val (.int c0)] [])) t
    refine XS.iload X0.here hx rfl (hb hby d6_15) rfl ?_
    show Steps p.tables e below (s₁.setTop (mkF m 17 #[.val (.ref a0), .val (.int (0 : Int32)), .val (.ref a2), .val (.int (0 : Int32)), .val (.int (1 : Int32)), .val (.int (0 : Int32)), .val (.int c0)] [(.int c0)])) t
    refine XS.sipush X0.here hx rfl (hb hby d6_17) ?_
    show Steps p.tables e below (s₁.setTop (mkF m 20 #[.val (.ref a0), .val (.int (0 : Int32)), .val (.ref a2), .val (.int (0 : Int32)), .val (.int (1 : Int32)), .val (.int (0 : Int32)), .val (.int c0)] [(.int (255 : Int32)), (.int c0)])) t
    refine XS.icmpYes X0.here hx rfl (pc0 := 20) (pc' := 26) rfl (hb hby d6_20) rfl (flt h255_0).2.2.2 (by decide) (by decide) ?_
    show Steps p.tables e below (s₁.setTop (mkF m 26 #[.val (.ref a0), .val (.int (0 : Int32)), .val (.ref a2), .val (.int (0 : Int32)), .val (.int (1 : Int32)), .val (.int (0 : Int32)), .val (.int c0)] [])) t
    refine XS.aloadN X0.here hx rfl (hb hby d6_26) rfl rfl ?_
    show Steps p.tables e below (s₁.setTop (mkF m 27 #[.val (.ref a0), .val (.int (0 : Int32)), .val (.ref a2), .val (.int (0 : Int32)), .val (.int (1 : Int32)), .val (.int (0 : Int32)), .val (.int c0)] [(.ref a2)])) t
    refine XS.iloadN X0.here hx rfl (hb hby d6_27) rfl ?_
    show Steps p.tables e below (s₁.setTop (mkF m 28 #[.val (.ref a0), .val (.int (0 : Int32)), .val (.ref a2), .val (.int (0 : Int32)), .val (.int (1 : Int32)), .val (.int (0 : Int32)), .val (.int c0)] [(.int (0 : Int32)), (.ref a2)])) t
    refine XS.iload X0.here hx rfl (hb hby d6_28) rfl ?_
    show Steps p.tables e below (s₁.setTop (mkF m 30 #[.val (.ref a0), .val (.int (0 : Int32)), .val (.ref a2), .val (.int (0 : Int32)), .val (.int (1 : Int32)), .val (.int (0 : Int32)), .val (.int c0)] [(.int c0), (.int (0 : Int32)), (.ref a2)])) t
    refine XS.i2b X0.here hx rfl (hb hby d6_30) rfl ?_
    exact kt
  obtain ⟨cl2, Ar2, q2, S2, N2a, H2, G2⟩ := id (Vb_a2)
  have hin2 : ¬ ((0 : Int32) < 0 ∨ cl2.slots.size ≤ ((0 : Int32)).toNatClampNeg) := inb_of S2 ⟨by decide, by decide⟩
  obtain ⟨T2, h2, X2, e2, W2, st2⟩ := stB X0 hx hZ e0 Ar2 (j := (0 : Int32)) hin2 (g := (mkF m 31 #[.val (.ref a0), .val (.int (0 : Int32)), .val (.ref a2), .val (.int (0 : Int32)), .val (.int (1 : Int32)), .val (.int (0 : Int32)), .val (.int c0)] [(.int (c0.toInt8.toInt32)), (.int (0 : Int32)), (.ref a2)])) rfl rfl (hb hby d6_31)
  have V2 : Arv Z h2 a2 kb .byte (1 : Int32) [(.int (own_by c0))] (.int (0 : Int32)) := Arv.set Ar2 q2 S2 N2a H2 G2 (fits_nar_byte _) W2 0 rfl (Nat.le_of_ble_eq_true rfl)
  have KC2 : Keep h0 h2 [a2] := (Keep.refl h0 [a2]).wr W2 (Or.inl (List.mem_of_getElem? (i := 0) rfl))
  have N2 := Fr.snoc X2 N0 gn_a2
  refine OGo.step st2 ?_
  show OGo _ _ _ _ _ _ _ (T2.setTop (mkF m 32 #[.val (.ref a0), .val (.int (0 : Int32)), .val (.ref a2), .val (.int (0 : Int32)), .val (.int (1 : Int32)), .val (.int (0 : Int32)), .val (.int c0)] []))
  refine OGo.step (F' := T2.setTop (mkF m 46 #[.val (.ref a0), .val (.int (1 : Int32)), .val (.ref a2), .val (.int (1 : Int32)), .val (.int (1 : Int32)), .val (.int (1 : Int32)), .val (.int c0)] [(.int (1 : Int32))])) (fun t kt => ?_) ?_
  · show Steps p.tables e below (T2.setTop (mkF m 32 #[.val (.ref a0), .val (.int (0 : Int32)), .val (.ref a2), .val (.int (0 : Int32)), .val (.int (1 : Int32)), .val (.int (0 : Int32)), .val (.int c0)] [])) t
    refine XS.iinc X2.here hx rfl (hb hby d6_32) rfl (l' := #[.val (.ref a0), .val (.int (1 : Int32)), .val (.ref a2), .val (.int (0 : Int32)), .val (.int (1 : Int32)), .val (.int (0 : Int32)), .val (.int c0)]) rfl ?_
    show Steps p.tables e below (T2.setTop (mkF m 35 #[.val (.ref a0), .val (.int (1 : Int32)), .val (.ref a2), .val (.int (0 : Int32)), .val (.int (1 : Int32)), .val (.int (0 : Int32)), .val (.int c0)] [])) t
    refine XS.iinc X2.here hx rfl (hb hby d6_35) rfl (l' := #[.val (.ref a0), .val (.int (1 : Int32)), .val (.ref a2), .val (.int (1 : Int32)), .val (.int (1 : Int32)), .val (.int (0 : Int32)), .val (.int c0)]) rfl ?_
    show Steps p.tables e below (T2.setTop (mkF m 38 #[.val (.ref a0), .val (.int (1 : Int32)), .val (.ref a2), .val (.int (1 : Int32)), .val (.int (1 : Int32)), .val (.int (0 : Int32)), .val (.int c0)] [])) t
    refine XS.iinc X2.here hx rfl (hb hby d6_38) rfl (l' := #[.val (.ref a0), .val (.int (1 : Int32)), .val (.ref a2), .val (.int (1 : Int32)), .val (.int (1 : Int32)), .val (.int (1 : Int32)), .val (.int c0)]) rfl ?_
    show Steps p.tables e below (T2.setTop (mkF m 41 #[.val (.ref a0), .val (.int (1 : Int32)), .val (.ref a2), .val (.int (1 : Int32)), .val (.int (1 : Int32)), .val (.int (1 : Int32)), .val (.int c0)] [])) t
    refine XS.goto X2.here hx rfl (pc0 := 41) (pc' := 3) rfl (hb hby d6_41) (by decide) (by decide) ?_
    show Steps p.tables e below (T2.setTop (mkF m 3 #[.val (.ref a0), .val (.int (1 : Int32)), .val (.ref a2), .val (.int (1 : Int32)), .val (.int (1 : Int32)), .val (.int (1 : Int32)), .val (.int c0)] [])) t
    refine XS.iload X2.here hx rfl (hb hby d6_3) rfl ?_
    show Steps p.tables e below (T2.setTop (mkF m 5 #[.val (.ref a0), .val (.int (1 : Int32)), .val (.ref a2), .val (.int (1 : Int32)), .val (.int (1 : Int32)), .val (.int (1 : Int32)), .val (.int c0)] [(.int (1 : Int32))])) t
    refine XS.iload X2.here hx rfl (hb hby d6_5) rfl ?_
    show Steps p.tables e below (T2.setTop (mkF m 7 #[.val (.ref a0), .val (.int (1 : Int32)), .val (.ref a2), .val (.int (1 : Int32)), .val (.int (1 : Int32)), .val (.int (1 : Int32)), .val (.int c0)] [(.int (1 : Int32)), (.int (1 : Int32))])) t
    refine XS.icmpYes X2.here hx rfl (pc0 := 7) (pc' := 44) rfl (hb hby d6_7) rfl (flt (by decide : ¬ ((1 : Int32) < (1 : Int32)))).2.1 (by decide) (by decide) ?_
    show Steps p.tables e below (T2.setTop (mkF m 44 #[.val (.ref a0), .val (.int (1 : Int32)), .val (.ref a2), .val (.int (1 : Int32)), .val (.int (1 : Int32)), .val (.int (1 : Int32)), .val (.int c0)] [])) t
    refine XS.iload X2.here hx rfl (hb hby d6_44) rfl ?_
    exact kt
  refine OGo.retI X2 hx hlk hret (hb hby d6_46) ?_ (by decide) (by decide)
  show Q6_1 Z a0 a2 kc kb c0 h0 n0 _ T2.heap _
  rw [e2]
  exact ⟨(by rw [f6_1]), N2, KC2, V2⟩
/-! body 5: java/lang/StringUTF16.compress:([CII)[B -/
theorem d5_0 : decode jdk_52_method_16_code 0 = .ok (.iload_n 2, 1) := by decide +kernel
theorem d5_1 : decode jdk_52_method_16_code 1 = .ok (.newarray .byte, 2) := by decide +kernel
theorem d5_3 : decode jdk_52_method_16_code 3 = .ok (.astore_n 3, 1) := by decide +kernel
theorem d5_4 : decode jdk_52_method_16_code 4 = .ok (.aload_n 0, 1) := by decide +kernel
theorem d5_5 : decode jdk_52_method_16_code 5 = .ok (.iload_n 1, 1) := by decide +kernel
theorem d5_6 : decode jdk_52_method_16_code 6 = .ok (.aload_n 3, 1) := by decide +kernel
theorem d5_7 : decode jdk_52_method_16_code 7 = .ok (.iconst 0, 1) := by decide +kernel
theorem d5_8 : decode jdk_52_method_16_code 8 = .ok (.iload_n 2, 1) := by decide +kernel
theorem d5_9 : decode jdk_52_method_16_code 9 = .ok (.invokestatic 115, 3) := by decide +kernel
theorem d5_12 : decode jdk_52_method_16_code 12 = .ok (.istore 4, 2) := by decide +kernel
theorem d5_14 : decode jdk_52_method_16_code 14 = .ok (.iload 4, 2) := by decide +kernel
theorem d5_16 : decode jdk_52_method_16_code 16 = .ok (.iload_n 2, 1) := by decide +kernel
theorem d5_17 : decode jdk_52_method_16_code 17 = .ok (.if_icmp .eq 40, 3) := by decide +kernel
theorem d5_57 : decode jdk_52_method_16_code 57 = .ok (.aload_n 3, 1) := by decide +kernel
theorem d5_58 : decode jdk_52_method_16_code 58 = .ok (.areturn, 1) := by decide +kernel
theorem pn_5 : plainName "java/lang/StringUTF16" = true := by first | (simp [plainName, overriddenIn]; done) | decide +kernel
theorem pd_5_1_0 : parseMethodDescriptor "([CI[BII)I" = some ⟨[(.array .char), .int, (.array .byte), .int, .int], some .int⟩ := by decide +kernel
theorem ef_5_1 (m : MethodId) (x0 : Addr) : entryFrame m #[(.ref x0), (.int (0 : Int32)), (.int (1 : Int32))] 6 = mkF m 0 #[.val (.ref x0), .val (.int (0 : Int32)), .val (.int (1 : Int32)), .unset, .unset, .unset] [] := by first | (simp [entryFrame, mkF, argsToLocals, Value.category]; done) | rfl
def Q5_1 (Z : State) (a0 : Addr) (kc : ClassId) (c0 : Int32) (h0 : Heap) (n0 : Nat) (v : Option Value) (h : Heap) (L : List Loc) : Prop := ∃ t : Addr, v = some (.ref t) ∧ Fr n0 L ∧ Keep h0 h [] ∧ h0.size ≤ t ∧ OBs Z h t [(own_by c0)]
set_option maxRecDepth 65536 in
set_option maxHeartbeats 40000000 in
theorem rm5_1 (l : Launch) (Z : State) (az : Array Value) (hw : ∀ d ∈ tables_1, d.before az Z = true) (ws : List Jvm.Cond) (a0 : Addr) (kc : ClassId) (c0 : Int32) (h0 : Heap) (n0 : Nat) (Z0 : n0 ≤ h0.size) (Vc_a0 : Arv Z h0 a0 kc .char (1 : Int32) [(.int c0)] (.int (0 : Int32))) (h255_0 : ¬ ((255 : Int32) < c0)) :
    OCtr l Z (⟨"java/lang/StringUTF16", "compress", "([CII)[B"⟩ : MethodName) jdk_52_method_16_code 6 (some (.array .byte)) ws ({ frames := 1, cells := 1, slots := 1, locals := 18 } : Room) #[(.ref a0), (.int (0 : Int32)), (.int (1 : Int32))] h0 (Q5_1 Z a0 kc c0 h0 n0) := by
  refine OCtr.of (plainFor_of_name pn_5) ?_
  intro p e s m below meth c s₁ X0 hx hlk hZ hown0 hnm hby hml0 hret e0
  have hown : s.vm.findClass "java/lang/StringUTF16" = some m.cls := hown0
  have hml : c.maxLocals = 6 := hml0
  have N0 := Fr.nil n0
  refine OGo.step (fun t k => castTop (ef_5_1 m a0) k) ?_
  refine OGo.step (F' := s₁.setTop (mkF m 1 #[.val (.ref a0), .val (.int (0 : Int32)), .val (.int (1 : Int32)), .unset, .unset, .unset] [(.int (1 : Int32))])) (fun t kt => ?_) ?_
  · show Steps p.tables e below (s₁.setTop (mkF m 0 #[.val (.ref a0), .val (.int (0 : Int32)), .val (.int (1 : Int32)), .unset, .unset, .unset] [])) t
    refine XS.iloadN X0.here hx rfl (hb hby d5_0) rfl ?_
    exact kt
  obtain ⟨T1, h1, k1, X1, e1, E1, A1, st1⟩ := newP X0 hx hZ (own_wd hw 27 rfl) e0 (g := (mkF m 1 #[.val (.ref a0), .val (.int (0 : Int32)), .val (.int (1 : Int32)), .unset, .unset, .unset] [(.int (1 : Int32))])) rfl (hb hby d5_1) rfl (by decide) (cap := 1) (by decide) (by decide) (by decide) (by decide)
  obtain ⟨b1, g1⟩ : ∃ z, z = h0.size := ⟨_, rfl⟩
  rw [← g1] at A1 st1
  have sz_b1 : h0.size ≤ b1 := Nat.le_trans (Keep.refl h0 []).1 (Nat.le_of_eq g1.symm)
  have gn_b1 : n0 ≤ b1 := Nat.le_trans Z0 sz_b1
  have KC1 : Keep h0 h1 [] := (Keep.refl h0 []).ext E1
  have V1 : Arv Z h1 b1 k1 .byte (1 : Int32) [(.int (0 : Int32))] (.int (0 : Int32)) := (Arv.new A1 (by decide)).pad (pad_rep [] (.int (0 : Int32)) 1)
  refine OGo.step st1 ?_
  show OGo _ _ _ _ _ _ _ (T1.setTop (mkF m 3 #[.val (.ref a0), .val (.int (0 : Int32)), .val (.int (1 : Int32)), .unset, .unset, .unset] [(.ref b1)]))
  refine OGo.step (F' := T1.setTop (mkF m 9 #[.val (.ref a0), .val (.int (0 : Int32)), .val (.int (1 : Int32)), .val (.ref b1), .unset, .unset] [(.int (1 : Int32)), (.int (0 : Int32)), (.ref b1), (.int (0 : Int32)), (.ref a0)])) (fun t kt => ?_) ?_
  · show Steps p.tables e below (T1.setTop (mkF m 3 #[.val (.ref a0), .val (.int (0 : Int32)), .val (.int (1 : Int32)), .unset, .unset, .unset] [(.ref b1)])) t
    refine XS.astoreN X1.here hx rfl (hb hby d5_3) rfl rfl (l' := #[.val (.ref a0), .val (.int (0 : Int32)), .val (.int (1 : Int32)), .val (.ref b1), .unset, .unset]) rfl ?_
    show Steps p.tables e below (T1.setTop (mkF m 4 #[.val (.ref a0), .val (.int (0 : Int32)), .val (.int (1 : Int32)), .val (.ref b1), .unset, .unset] [])) t
    refine XS.aloadN X1.here hx rfl (hb hby d5_4) rfl rfl ?_
    show Steps p.tables e below (T1.setTop (mkF m 5 #[.val (.ref a0), .val (.int (0 : Int32)), .val (.int (1 : Int32)), .val (.ref b1), .unset, .unset] [(.ref a0)])) t
    refine XS.iloadN X1.here hx rfl (hb hby d5_5) rfl ?_
    show Steps p.tables e below (T1.setTop (mkF m 6 #[.val (.ref a0), .val (.int (0 : Int32)), .val (.int (1 : Int32)), .val (.ref b1), .unset, .unset] [(.int (0 : Int32)), (.ref a0)])) t
    refine XS.aloadN X1.here hx rfl (hb hby d5_6) rfl rfl ?_
    show Steps p.tables e below (T1.setTop (mkF m 7 #[.val (.ref a0), .val (.int (0 : Int32)), .val (.int (1 : Int32)), .val (.ref b1), .unset, .unset] [(.ref b1), (.int (0 : Int32)), (.ref a0)])) t
    refine XS.iconst X1.here hx rfl (hb hby d5_7) ?_
    show Steps p.tables e below (T1.setTop (mkF m 8 #[.val (.ref a0), .val (.int (0 : Int32)), .val (.int (1 : Int32)), .val (.ref b1), .unset, .unset] [(.int (0 : Int32)), (.ref b1), (.int (0 : Int32)), (.ref a0)])) t
    refine XS.iloadN X1.here hx rfl (hb hby d5_8) rfl ?_
    exact kt
  refine OGo.callS X1 hx hZ (y := (⟨"java/lang/StringUTF16", "compress", "([CI[BII)I"⟩ : MethodName)) hown (own_wd hw 28 rfl) (own_wd hw 29 rfl) (own_wd hw 25 rfl) (own_wd hw 30 rfl) (by decide) (rm6_1 l Z az hw [] a0 b1 kc k1 c0 h1 n0 (Nat.le_trans Z0 KC1.1) (Vc_a0.ext E1) V1 (Nat.ne_of_lt (Nat.lt_of_lt_of_le Vc_a0.lt (Nat.le_of_eq g1.symm))) h255_0 gn_b1) (W := 0) (by decide) (by decide) (g := (mkF m 9 #[.val (.ref a0), .val (.int (0 : Int32)), .val (.int (1 : Int32)), .val (.ref b1), .unset, .unset] [(.int (1 : Int32)), (.int (0 : Int32)), (.ref b1), (.int (0 : Int32)), (.ref a0)])) rfl (by rw [hml]; rfl) (argsL := [(.ref a0), (.int (0 : Int32)), (.ref b1), (.int (0 : Int32)), (.int (1 : Int32))]) (rest := []) (lenOf pd_5_1_0 rfl) rfl (by show 2 * 0 + _ ≤ _; exact Nat.le_of_eq rfl) (hb hby d5_9) rfl e1 (by decide) (by decide) ?_
  rintro _ T2 L2 X2 ⟨hv2, Nq2, K2, P2_0⟩
  have KC2 : Keep h0 T2.heap [] := KC1.trans K2 (allS (Or.inr sz_b1) all0)
  have N2 := Fr.app N0 Nq2
  rw [show f6_1 = (1 : Int32) from rfl] at hv2
  subst hv2
  show OGo _ _ _ _ _ _ _ (T2.setTop (mkF m 12 #[.val (.ref a0), .val (.int (0 : Int32)), .val (.int (1 : Int32)), .val (.ref b1), .unset, .unset] [(.int (1 : Int32))]))
  refine OGo.step (F' := T2.setTop (mkF m 58 #[.val (.ref a0), .val (.int (0 : Int32)), .val (.int (1 : Int32)), .val (.ref b1), .val (.int (1 : Int32)), .unset] [(.ref b1)])) (fun t kt => ?_) ?_
  · show Steps p.tables e below (T2.setTop (mkF m 12 #[.val (.ref a0), .val (.int (0 : Int32)), .val (.int (1 : Int32)), .val (.ref b1), .unset, .unset] [(.int (1 : Int32))])) t
    refine XS.istore X2.here hx rfl (hb hby d5_12) rfl (l' := #[.val (.ref a0), .val (.int (0 : Int32)), .val (.int (1 : Int32)), .val (.ref b1), .val (.int (1 : Int32)), .unset]) rfl ?_
    show Steps p.tables e below (T2.setTop (mkF m 14 #[.val (.ref a0), .val (.int (0 : Int32)), .val (.int (1 : Int32)), .val (.ref b1), .val (.int (1 : Int32)), .unset] [])) t
    refine XS.iload X2.here hx rfl (hb hby d5_14) rfl ?_
    show Steps p.tables e below (T2.setTop (mkF m 16 #[.val (.ref a0), .val (.int (0 : Int32)), .val (.int (1 : Int32)), .val (.ref b1), .val (.int (1 : Int32)), .unset] [(.int (1 : Int32))])) t
    refine XS.iloadN X2.here hx rfl (hb hby d5_16) rfl ?_
    show Steps p.tables e below (T2.setTop (mkF m 17 #[.val (.ref a0), .val (.int (0 : Int32)), .val (.int (1 : Int32)), .val (.ref b1), .val (.int (1 : Int32)), .unset] [(.int (1 : Int32)), (.int (1 : Int32))])) t
    refine XS.icmpYes X2.here hx rfl (pc0 := 17) (pc' := 57) rfl (hb hby d5_17) rfl (teq (by decide : (1 : Int32) = (1 : Int32))).1 (by decide) (by decide) ?_
    show Steps p.tables e below (T2.setTop (mkF m 57 #[.val (.ref a0), .val (.int (0 : Int32)), .val (.int (1 : Int32)), .val (.ref b1), .val (.int (1 : Int32)), .unset] [])) t
    refine XS.aloadN X2.here hx rfl (hb hby d5_57) rfl rfl ?_
    exact kt
  refine OGo.retA X2 hx hlk (t := (.array .byte)) hret rfl rfl rfl (hb hby d5_58) ?_ (by decide) (by decide)
  show Q5_1 Z a0 kc c0 h0 n0 _ T2.heap _
  exact ⟨b1, rfl, N2, KC2, sz_b1, ⟨_, P2_0⟩⟩
/-! body 3: java/lang/String.<init>:([CIILjava/lang/Void;)V -/
theorem d3_0 : decode jdk_42_method_149_code 0 = .ok (.aload_n 0, 1) := by decide +kernel
theorem d3_1 : decode jdk_42_method_149_code 1 = .ok (.invokespecial 1, 3) := by decide +kernel
theorem d3_4 : decode jdk_42_method_149_code 4 = .ok (.iload_n 3, 1) := by decide +kernel
theorem d3_5 : decode jdk_42_method_149_code 5 = .ok (.ifCond .ne 22, 3) := by decide +kernel
theorem d3_27 : decode jdk_42_method_149_code 27 = .ok (.getstatic 38, 3) := by decide +kernel
theorem d3_30 : decode jdk_42_method_149_code 30 = .ok (.ifCond .eq 28, 3) := by decide +kernel
theorem d3_33 : decode jdk_42_method_149_code 33 = .ok (.aload_n 1, 1) := by decide +kernel
theorem d3_34 : decode jdk_42_method_149_code 34 = .ok (.iload_n 2, 1) := by decide +kernel
theorem d3_35 : decode jdk_42_method_149_code 35 = .ok (.iload_n 3, 1) := by decide +kernel
theorem d3_36 : decode jdk_42_method_149_code 36 = .ok (.invokestatic 177, 3) := by decide +kernel
theorem d3_39 : decode jdk_42_method_149_code 39 = .ok (.astore 5, 2) := by decide +kernel
theorem d3_41 : decode jdk_42_method_149_code 41 = .ok (.aload_n 0, 1) := by decide +kernel
theorem d3_42 : decode jdk_42_method_149_code 42 = .ok (.aload 5, 2) := by decide +kernel
theorem d3_44 : decode jdk_42_method_149_code 44 = .ok (.iload_n 3, 1) := by decide +kernel
theorem d3_45 : decode jdk_42_method_149_code 45 = .ok (.invokestatic 47, 3) := by decide +kernel
theorem d3_48 : decode jdk_42_method_149_code 48 = .ok (.putfield 15, 3) := by decide +kernel
theorem d3_51 : decode jdk_42_method_149_code 51 = .ok (.aload_n 0, 1) := by decide +kernel
theorem d3_52 : decode jdk_42_method_149_code 52 = .ok (.aload 5, 2) := by decide +kernel
theorem d3_54 : decode jdk_42_method_149_code 54 = .ok (.putfield 9, 3) := by decide +kernel
theorem d3_57 : decode jdk_42_method_149_code 57 = .ok (.return_, 1) := by decide +kernel
theorem pn_3 : plainName "java/lang/String" = true := by first | (simp [plainName, overriddenIn]; done) | decide +kernel
theorem pd_3_1_0 : parseMethodDescriptor "([CII)[B" = some ⟨[(.array .char), .int, .int], some (.array .byte)⟩ := by decide +kernel
theorem pd_3_1_1 : parseMethodDescriptor "([BI)B" = some ⟨[(.array .byte), .int], some .byte⟩ := by decide +kernel
theorem ef_3_1 (m : MethodId) (x0 : Addr) (x1 : Addr) : entryFrame m #[(.ref x0), (.ref x1), (.int (0 : Int32)), (.int (1 : Int32)), .null] 6 = mkF m 0 #[.val (.ref x0), .val (.ref x1), .val (.int (0 : Int32)), .val (.int (1 : Int32)), .val .null, .unset] [] := by first | (simp [entryFrame, mkF, argsToLocals, Value.category]; done) | rfl
def Q3_1 (Z : State) (a0 : Addr) (a1 : Addr) (kc : ClassId) (c0 : Int32) (w_COMPACT_STRINGS : Int32) (u_coder_a0 : Value) (u_value_a0 : Value) (h0 : Heap) (n0 : Nat) (v : Option Value) (h : Heap) (L : List Loc) : Prop := ∃ t : Addr, v = none ∧ Fr n0 L ∧ Keep h0 h [a0] ∧ Exa Z h a0 "java/lang/String" ∧ Fld Z h a0 "java/lang/String" "value" "[B" (.ref t) ∧ Fld Z h a0 "java/lang/String" "coder" "B" (.int (0 : Int32)) ∧ OBs Z h t [(own_by c0)]
set_option maxRecDepth 65536 in
set_option maxHeartbeats 40000000 in
theorem rm3_1 (l : Launch) (Z : State) (az : Array Value) (hw : ∀ d ∈ tables_1, d.before az Z = true) (ws : List Jvm.Cond) (a0 : Addr) (a1 : Addr) (kc : ClassId) (c0 : Int32) (w_COMPACT_STRINGS : Int32) (u_coder_a0 : Value) (u_value_a0 : Value) (h0 : Heap) (n0 : Nat) (Z0 : n0 ≤ h0.size) (Vc_a1 : Arv Z h0 a1 kc .char (1 : Int32) [(.int c0)] (.int (0 : Int32))) (hC : ¬ (w_COMPACT_STRINGS = (0 : Int32))) (hne : a1 ≠ a0) (h255_0 : ¬ ((255 : Int32) < c0)) (S_String_COMPACT_STRINGS : Sta Z h0 "java/lang/String" "COMPACT_STRINGS" "Z" (.int w_COMPACT_STRINGS)) (E_a0 : Exa Z h0 a0 "java/lang/String") (F_coder_a0 : Fld Z h0 a0 "java/lang/String" "coder" "B" u_coder_a0) (gn_a0 : n0 ≤ a0) (F_value_a0 : Fld Z h0 a0 "java/lang/String" "value" "[B" u_value_a0) :
    OCtr l Z (⟨"java/lang/String", "<init>", "([CIILjava/lang/Void;)V"⟩ : MethodName) jdk_42_method_149_code 6 none ws ({ frames := 2, cells := 1, slots := 1, locals := 35 } : Room) #[(.ref a0), (.ref a1), (.int (0 : Int32)), (.int (1 : Int32)), .null] h0 (Q3_1 Z a0 a1 kc c0 w_COMPACT_STRINGS u_coder_a0 u_value_a0 h0 n0) := by
  refine OCtr.of (plainFor_of_name pn_3) ?_
  intro p e s m below meth c s₁ X0 hx hlk hZ hown0 hnm hby hml0 hret e0
  have hown : s.vm.findClass "java/lang/String" = some m.cls := hown0
  have hml : c.maxLocals = 6 := hml0
  have N0 := Fr.nil n0
  refine OGo.step (fun t k => castTop (ef_3_1 m a0 a1) k) ?_
  refine OGo.step (F' := s₁.setTop (mkF m 1 #[.val (.ref a0), .val (.ref a1), .val (.int (0 : Int32)), .val (.int (1 : Int32)), .val .null, .unset] [(.ref a0)])) (fun t kt => ?_) ?_
  · show Steps p.tables e below (s₁.setTop (mkF m 0 #[.val (.ref a0), .val (.ref a1), .val (.int (0 : Int32)), .val (.int (1 : Int32)), .val .null, .unset] [])) t
    refine XS.aloadN X0.here hx rfl (hb hby d3_0) rfl rfl ?_
    exact kt
  obtain ⟨T1, X1, e1, st1⟩ := initO X0 hx hZ hown (own_wd hw 19 rfl) (own_wd hw 20 rfl) (own_wd hw 21 rfl) e0 (g := (mkF m 1 #[.val (.ref a0), .val (.ref a1), .val (.int (0 : Int32)), .val (.int (1 : Int32)), .val .null, .unset] [(.ref a0)])) rfl (by rw [hml]; rfl) rfl (hb hby d3_1) (by decide) (W := 0) (by show 2 * 0 + _ ≤ _; exact Nat.le_of_eq rfl) (by decide)
  refine OGo.step st1 ?_
  show OGo _ _ _ _ _ _ _ (T1.setTop (mkF m 4 #[.val (.ref a0), .val (.ref a1), .val (.int (0 : Int32)), .val (.int (1 : Int32)), .val .null, .unset] []))
  refine OGo.step (F' := T1.setTop (mkF m 27 #[.val (.ref a0), .val (.ref a1), .val (.int (0 : Int32)), .val (.int (1 : Int32)), .val .null, .unset] [])) (fun t kt => ?_) ?_
  · show Steps p.tables e below (T1.setTop (mkF m 4 #[.val (.ref a0), .val (.ref a1), .val (.int (0 : Int32)), .val (.int (1 : Int32)), .val .null, .unset] [])) t
    refine XS.iloadN X1.here hx rfl (hb hby d3_4) rfl ?_
    show Steps p.tables e below (T1.setTop (mkF m 5 #[.val (.ref a0), .val (.ref a1), .val (.int (0 : Int32)), .val (.int (1 : Int32)), .val .null, .unset] [(.int (1 : Int32))])) t
    refine XS.ifYes X1.here hx rfl (pc0 := 5) (pc' := 27) rfl (hb hby d3_5) rfl ((if0 _ _).trans (feq (by decide : ¬ ((1 : Int32) = (0 : Int32)))).2) (by decide) (by decide) ?_
    exact kt
  obtain ⟨T2, X2, e2, st2⟩ := getS2 X1 hx hZ hown (host := "") (Or.inl (own_wd hw 22 rfl)) Via.refl e1 S_String_COMPACT_STRINGS (g := (mkF m 27 #[.val (.ref a0), .val (.ref a1), .val (.int (0 : Int32)), .val (.int (1 : Int32)), .val .null, .unset] [])) rfl (hb hby d3_27)
  refine OGo.step st2 ?_
  show OGo _ _ _ _ _ _ _ (T2.setTop (mkF m 30 #[.val (.ref a0), .val (.ref a1), .val (.int (0 : Int32)), .val (.int (1 : Int32)), .val .null, .unset] [(.int w_COMPACT_STRINGS)]))
  refine OGo.step (F' := T2.setTop (mkF m 36 #[.val (.ref a0), .val (.ref a1), .val (.int (0 : Int32)), .val (.int (1 : Int32)), .val .null, .unset] [(.int (1 : Int32)), (.int (0 : Int32)), (.ref a1)])) (fun t kt => ?_) ?_
  · show Steps p.tables e below (T2.setTop (mkF m 30 #[.val (.ref a0), .val (.ref a1), .val (.int (0 : Int32)), .val (.int (1 : Int32)), .val .null, .unset] [(.int w_COMPACT_STRINGS)])) t
    refine XS.ifNo X2.here hx rfl (hb hby d3_30) rfl ((if0 _ _).trans (feq hC).1) ?_
    show Steps p.tables e below (T2.setTop (mkF m 33 #[.val (.ref a0), .val (.ref a1), .val (.int (0 : Int32)), .val (.int (1 : Int32)), .val .null, .unset] [])) t
    refine XS.aloadN X2.here hx rfl (hb hby d3_33) rfl rfl ?_
    show Steps p.tables e below (T2.setTop (mkF m 34 #[.val (.ref a0), .val (.ref a1), .val (.int (0 : Int32)), .val (.int (1 : Int32)), .val .null, .unset] [(.ref a1)])) t
    refine XS.iloadN X2.here hx rfl (hb hby d3_34) rfl ?_
    show Steps p.tables e below (T2.setTop (mkF m 35 #[.val (.ref a0), .val (.ref a1), .val (.int (0 : Int32)), .val (.int (1 : Int32)), .val .null, .unset] [(.int (0 : Int32)), (.ref a1)])) t
    refine XS.iloadN X2.here hx rfl (hb hby d3_35) rfl ?_
    exact kt
  refine OGo.callS X2 hx hZ (y := (⟨"java/lang/StringUTF16", "compress", "([CII)[B"⟩ : MethodName)) hown (own_wd hw 23 rfl) (own_wd hw 24 rfl) (own_wd hw 25 rfl) (own_wd hw 26 rfl) (by decide) (rm5_1 l Z az hw [] a1 kc c0 h0 n0 Z0 Vc_a1 h255_0) (W := 0) (by decide) (by decide) (g := (mkF m 36 #[.val (.ref a0), .val (.ref a1), .val (.int (0 : Int32)), .val (.int (1 : Int32)), .val .null, .unset] [(.int (1 : Int32)), (.int (0 : Int32)), (.ref a1)])) rfl (by rw [hml]; rfl) (argsL := [(.ref a1), (.int (0 : Int32)), (.int (1 : Int32))]) (rest := []) (lenOf pd_3_1_0 rfl) rfl (by show 2 * 0 + _ ≤ _; exact Nat.le_of_eq rfl) (hb hby d3_36) rfl e2 (by decide) (by decide) ?_
  rintro _ T3 L3 X3 ⟨b3_t, rfl, Nq3, K3, sz_b3_t, P3_0⟩
  have KC3 : Keep h0 T3.heap [a0] := (Keep.refl h0 [a0]).trans K3 all0
  have szo_b3_t := sz_b3_t
  replace sz_b3_t : h0.size ≤ b3_t := Nat.le_trans (Keep.refl h0 [a0]).1 sz_b3_t
  have gn_b3_t : n0 ≤ b3_t := Nat.le_trans Z0 sz_b3_t
  have N3 := Fr.app N0 Nq3
  show OGo _ _ _ _ _ _ _ (T3.setTop (mkF m 39 #[.val (.ref a0), .val (.ref a1), .val (.int (0 : Int32)), .val (.int (1 : Int32)), .val .null, .unset] [(.ref b3_t)]))
  refine OGo.step (F' := T3.setTop (mkF m 45 #[.val (.ref a0), .val (.ref a1), .val (.int (0 : Int32)), .val (.int (1 : Int32)), .val .null, .val (.ref b3_t)] [(.int (1 : Int32)), (.ref b3_t), (.ref a0)])) (fun t kt => ?_) ?_
  · show Steps p.tables e below (T3.setTop (mkF m 39 #[.val (.ref a0), .val (.ref a1), .val (.int (0 : Int32)), .val (.int (1 : Int32)), .val .null, .unset] [(.ref b3_t)])) t
    refine XS.astore X3.here hx rfl (hb hby d3_39) rfl rfl (l' := #[.val (.ref a0), .val (.ref a1), .val (.int (0 : Int32)), .val (.int (1 : Int32)), .val .null, .val (.ref b3_t)]) rfl ?_
    show Steps p.tables e below (T3.setTop (mkF m 41 #[.val (.ref a0), .val (.ref a1), .val (.int (0 : Int32)), .val (.int (1 : Int32)), .val .null, .val (.ref b3_t)] [])) t
    refine XS.aloadN X3.here hx rfl (hb hby d3_41) rfl rfl ?_
    show Steps p.tables e below (T3.setTop (mkF m 42 #[.val (.ref a0), .val (.ref a1), .val (.int (0 : Int32)), .val (.int (1 : Int32)), .val .null, .val (.ref b3_t)] [(.ref a0)])) t
    refine XS.aload X3.here hx rfl (hb hby d3_42) rfl rfl ?_
    show Steps p.tables e below (T3.setTop (mkF m 44 #[.val (.ref a0), .val (.ref a1), .val (.int (0 : Int32)), .val (.int (1 : Int32)), .val .null, .val (.ref b3_t)] [(.ref b3_t), (.ref a0)])) t
    refine XS.iloadN X3.here hx rfl (hb hby d3_44) rfl ?_
    exact kt
  refine OGo.callS X3 hx hZ (y := (⟨"java/lang/StringUTF16", "coderFromArrayLen", "([BI)B"⟩ : MethodName)) hown (own_wd hw 31 rfl) (own_wd hw 32 rfl) (own_wd hw 25 rfl) (own_wd hw 33 rfl) (by decide) (rm7 l Z az hw [] b3_t (1 : Int32) [(own_by c0)] T3.heap n0 (Nat.le_trans Z0 KC3.1) P3_0) (W := 1) (by decide) (by decide) (g := (mkF m 45 #[.val (.ref a0), .val (.ref a1), .val (.int (0 : Int32)), .val (.int (1 : Int32)), .val .null, .val (.ref b3_t)] [(.int (1 : Int32)), (.ref b3_t), (.ref a0)])) rfl (by rw [hml]; rfl) (argsL := [(.ref b3_t), (.int (1 : Int32))]) (rest := [(.ref a0)]) (lenOf pd_3_1_1 rfl) rfl (by show 2 * 0 + _ ≤ _; exact Nat.le_of_eq rfl) (hb hby d3_45) rfl rfl (by decide) (by decide) ?_
  rintro _ T4 L4 X4 ⟨hv4, Nq4, e4⟩
  have N4 := Fr.app N3 Nq4
  rw [show (f7 (1 : Int32) [(own_by c0)]) = (0 : Int32) from by simp only [f7, List.length_cons, List.length_nil]; decide] at hv4
  subst hv4
  show OGo _ _ _ _ _ _ _ (T4.setTop (mkF m 48 #[.val (.ref a0), .val (.ref a1), .val (.int (0 : Int32)), .val (.int (1 : Int32)), .val .null, .val (.ref b3_t)] [(.int (0 : Int32)), (.ref a0)]))
  obtain ⟨T5, h5, X5, e5, W5, st5⟩ := putFN X4 hx hZ hown (own_wd hw 34 rfl) Via.refl e4 (F_coder_a0.keep K3 nin0) (E_a0.keep K3) (Or.inr ⟨(own_wd hw 35 rfl), rfl, hnm⟩) (own_wd hw 9 rfl) (ty := .byte) (v := (.int (0 : Int32))) (v' := (.int (0 : Int32))) (by decide) rfl (by decide) (g := (mkF m 48 #[.val (.ref a0), .val (.ref a1), .val (.int (0 : Int32)), .val (.int (1 : Int32)), .val .null, .val (.ref b3_t)] [(.int (0 : Int32)), (.ref a0)])) rfl rfl (hb hby d3_48)
  have Fw5 : Fld Z h5 a0 "java/lang/String" "coder" "B" (.int (0 : Int32)) := (F_coder_a0.keep K3 nin0).same W5
  have KC5 : Keep h0 h5 [a0] := KC3.wr W5 (Or.inl (List.mem_of_getElem? (i := 0) rfl))
  have N5 := Fr.snoc X5 N4 gn_a0
  refine OGo.step st5 ?_
  show OGo _ _ _ _ _ _ _ (T5.setTop (mkF m 51 #[.val (.ref a0), .val (.ref a1), .val (.int (0 : Int32)), .val (.int (1 : Int32)), .val .null, .val (.ref b3_t)] []))
  refine OGo.step (F' := T5.setTop (mkF m 54 #[.val (.ref a0), .val (.ref a1), .val (.int (0 : Int32)), .val (.int (1 : Int32)), .val .null, .val (.ref b3_t)] [(.ref b3_t), (.ref a0)])) (fun t kt => ?_) ?_
  · show Steps p.tables e below (T5.setTop (mkF m 51 #[.val (.ref a0), .val (.ref a1), .val (.int (0 : Int32)), .val (.int (1 : Int32)), .val .null, .val (.ref b3_t)] [])) t
    refine XS.aloadN X5.here hx rfl (hb hby d3_51) rfl rfl ?_
    show Steps p.tables e below (T5.setTop (mkF m 52 #[.val (.ref a0), .val (.ref a1), .val (.int (0 : Int32)), .val (.int (1 : Int32)), .val .null, .val (.ref b3_t)] [(.ref a0)])) t
    refine XS.aload X5.here hx rfl (hb hby d3_52) rfl rfl ?_
    exact kt
  obtain ⟨T6, h6, X6, e6, W6, st6⟩ := putF X5 hx hZ hown (host := "") (Or.inl (own_wd hw 36 rfl)) Via.refl e5 ((F_value_a0.keep K3 nin0).other W5 (Or.inr (slot_ne (a0 := az) (Or.inr (own_wd hw 37 rfl)) (Or.inr (own_wd hw 35 rfl)) (by decide) (t := (.array .byte)) (t' := .byte) (by decide) (by decide)))) ((E_a0.keep K3).wr W5) (Or.inr ⟨(own_wd hw 37 rfl), rfl, hnm⟩) (own_wd hw 9 rfl) (ty := (.array .byte)) (by decide) rfl rfl (g := (mkF m 54 #[.val (.ref a0), .val (.ref a1), .val (.int (0 : Int32)), .val (.int (1 : Int32)), .val .null, .val (.ref b3_t)] [(.ref b3_t), (.ref a0)])) rfl rfl (hb hby d3_54)
  have Fw6 : Fld Z h6 a0 "java/lang/String" "value" "[B" (.ref b3_t) := ((F_value_a0.keep K3 nin0).other W5 (Or.inr (slot_ne (a0 := az) (Or.inr (own_wd hw 37 rfl)) (Or.inr (own_wd hw 35 rfl)) (by decide) (t := (.array .byte)) (t' := .byte) (by decide) (by decide)))).same W6
  have KC6 : Keep h0 h6 [a0] := KC5.wr W6 (Or.inl (List.mem_of_getElem? (i := 0) rfl))
  have N6 := Fr.snoc X6 N5 gn_a0
  refine OGo.step st6 ?_
  show OGo _ _ _ _ _ _ _ (T6.setTop (mkF m 57 #[.val (.ref a0), .val (.ref a1), .val (.int (0 : Int32)), .val (.int (1 : Int32)), .val .null, .val (.ref b3_t)] []))
  refine OGo.retV X6 hx hlk hret (hb hby d3_57) ?_ (by decide) (by decide)
  show Q3_1 Z a0 a1 kc c0 w_COMPACT_STRINGS u_coder_a0 u_value_a0 h0 n0 _ T6.heap _
  rw [e6]
  exact ⟨b3_t, rfl, N6, KC6, (((E_a0.keep K3).wr W5).wr W6), Fw6, (Fw5.other W6 (Or.inr (slot_ne (a0 := az) (Or.inr (own_wd hw 35 rfl)) (Or.inr (own_wd hw 37 rfl)) (by decide) (t := .byte) (t' := (.array .byte)) (by decide) (by decide)))), ((P3_0.other W5 (Ne.symm (Nat.ne_of_lt (Nat.lt_of_lt_of_le E_a0.lt szo_b3_t)))).other W6 (Ne.symm (Nat.ne_of_lt (Nat.lt_of_lt_of_le E_a0.lt szo_b3_t))))⟩
/-! body 2: java/lang/String.<init>:([C)V -/
theorem d2_0 : decode jdk_42_method_3_code 0 = .ok (.aload_n 0, 1) := by decide +kernel
theorem d2_1 : decode jdk_42_method_3_code 1 = .ok (.aload_n 1, 1) := by decide +kernel
theorem d2_2 : decode jdk_42_method_3_code 2 = .ok (.iconst 0, 1) := by decide +kernel
theorem d2_3 : decode jdk_42_method_3_code 3 = .ok (.aload_n 1, 1) := by decide +kernel
theorem d2_4 : decode jdk_42_method_3_code 4 = .ok (.arraylength, 1) := by decide +kernel
theorem d2_5 : decode jdk_42_method_3_code 5 = .ok (.aconst_null, 1) := by decide +kernel
theorem d2_6 : decode jdk_42_method_3_code 6 = .ok (.invokespecial 27, 3) := by decide +kernel
theorem d2_9 : decode jdk_42_method_3_code 9 = .ok (.return_, 1) := by decide +kernel
theorem pn_2 : plainName "java/lang/String" = true := by first | (simp [plainName, overriddenIn]; done) | decide +kernel
theorem pd_2_1_0 : parseMethodDescriptor "([CIILjava/lang/Void;)V" = some ⟨[(.array .char), .int, .int, (.object "java/lang/Void")], none⟩ := by decide +kernel
theorem ef_2_1 (m : MethodId) (x0 : Addr) (x1 : Addr) : entryFrame m #[(.ref x0), (.ref x1)] 2 = mkF m 0 #[.val (.ref x0), .val (.ref x1)] [] := by first | (simp [entryFrame, mkF, argsToLocals, Value.category]; done) | rfl
def Q2_1 (Z : State) (a0 : Addr) (a1 : Addr) (kc : ClassId) (c0 : Int32) (w_COMPACT_STRINGS : Int32) (u_coder_a0 : Value) (u_value_a0 : Value) (h0 : Heap) (n0 : Nat) (v : Option Value) (h : Heap) (L : List Loc) : Prop := ∃ t : Addr, v = none ∧ Fr n0 L ∧ Keep h0 h [a0] ∧ Exa Z h a0 "java/lang/String" ∧ Fld Z h a0 "java/lang/String" "value" "[B" (.ref t) ∧ Fld Z h a0 "java/lang/String" "coder" "B" (.int (0 : Int32)) ∧ OBs Z h t [(own_by c0)]
set_option maxRecDepth 65536 in
set_option maxHeartbeats 40000000 in
theorem rm2_1 (l : Launch) (Z : State) (az : Array Value) (hw : ∀ d ∈ tables_1, d.before az Z = true) (ws : List Jvm.Cond) (a0 : Addr) (a1 : Addr) (kc : ClassId) (c0 : Int32) (w_COMPACT_STRINGS : Int32) (u_coder_a0 : Value) (u_value_a0 : Value) (h0 : Heap) (n0 : Nat) (Z0 : n0 ≤ h0.size) (Vc_a1 : Arv Z h0 a1 kc .char (1 : Int32) [(.int c0)] (.int (0 : Int32))) (hC : ¬ (w_COMPACT_STRINGS = (0 : Int32))) (hne : a1 ≠ a0) (h255_0 : ¬ ((255 : Int32) < c0)) (S_String_COMPACT_STRINGS : Sta Z h0 "java/lang/String" "COMPACT_STRINGS" "Z" (.int w_COMPACT_STRINGS)) (E_a0 : Exa Z h0 a0 "java/lang/String") (F_coder_a0 : Fld Z h0 a0 "java/lang/String" "coder" "B" u_coder_a0) (F_value_a0 : Fld Z h0 a0 "java/lang/String" "value" "[B" u_value_a0) (gn_a0 : n0 ≤ a0) :
    OCtr l Z (⟨"java/lang/String", "<init>", "([C)V"⟩ : MethodName) jdk_42_method_3_code 2 none ws ({ frames := 3, cells := 1, slots := 1, locals := 52 } : Room) #[(.ref a0), (.ref a1)] h0 (Q2_1 Z a0 a1 kc c0 w_COMPACT_STRINGS u_coder_a0 u_value_a0 h0 n0) := by
  refine OCtr.of (plainFor_of_name pn_2) ?_
  intro p e s m below meth c s₁ X0 hx hlk hZ hown0 hnm hby hml0 hret e0
  have hown : s.vm.findClass "java/lang/String" = some m.cls := hown0
  have hml : c.maxLocals = 2 := hml0
  have N0 := Fr.nil n0
  refine OGo.step (fun t k => castTop (ef_2_1 m a0 a1) k) ?_
  refine OGo.step (F' := s₁.setTop (mkF m 4 #[.val (.ref a0), .val (.ref a1)] [(.ref a1), (.int (0 : Int32)), (.ref a1), (.ref a0)])) (fun t kt => ?_) ?_
  · show Steps p.tables e below (s₁.setTop (mkF m 0 #[.val (.ref a0), .val (.ref a1)] [])) t
    refine XS.aloadN X0.here hx rfl (hb hby d2_0) rfl rfl ?_
    show Steps p.tables e below (s₁.setTop (mkF m 1 #[.val (.ref a0), .val (.ref a1)] [(.ref a0)])) t
    refine XS.aloadN X0.here hx rfl (hb hby d2_1) rfl rfl ?_
    show Steps p.tables e below (s₁.setTop (mkF m 2 #[.val (.ref a0), .val (.ref a1)] [(.ref a1), (.ref a0)])) t
    refine XS.iconst X0.here hx rfl (hb hby d2_2) ?_
    show Steps p.tables e below (s₁.setTop (mkF m 3 #[.val (.ref a0), .val (.ref a1)] [(.int (0 : Int32)), (.ref a1), (.ref a0)])) t
    refine XS.aloadN X0.here hx rfl (hb hby d2_3) rfl rfl ?_
    exact kt
  obtain ⟨cl1, Ar1, q1, S1, N1a, H1, G1⟩ := id (Vc_a1)
  refine OGo.step (F' := s₁.setTop (mkF m 5 #[.val (.ref a0), .val (.ref a1)] [(.int (1 : Int32)), (.int (0 : Int32)), (.ref a1), (.ref a0)])) (fun t kt => ?_) ?_
  · show Steps p.tables e below (s₁.setTop (mkF m 4 #[.val (.ref a0), .val (.ref a1)] [(.ref a1), (.int (0 : Int32)), (.ref a1), (.ref a0)])) t
    refine X0.arraylength hx (by rw [e0]; exact Ar1.1) (State.isArrayOf_alike hZ.alike Ar1.2.1) (g := (mkF m 4 #[.val (.ref a0), .val (.ref a1)] [(.ref a1), (.int (0 : Int32)), (.ref a1), (.ref a0)])) rfl rfl (hb hby d2_4) _ ?_
    rw [len_of S1 N1a]
    exact kt
  refine OGo.step (F' := s₁.setTop (mkF m 6 #[.val (.ref a0), .val (.ref a1)] [.null, (.int (1 : Int32)), (.int (0 : Int32)), (.ref a1), (.ref a0)])) (fun t kt => ?_) ?_
  · show Steps p.tables e below (s₁.setTop (mkF m 5 #[.val (.ref a0), .val (.ref a1)] [(.int (1 : Int32)), (.int (0 : Int32)), (.ref a1), (.ref a0)])) t
    refine XS.aconstNull X0.here hx rfl (hb hby d2_5) ?_
    exact kt
  refine OGo.callC X0 hx hZ (y := (⟨"java/lang/String", "<init>", "([CIILjava/lang/Void;)V"⟩ : MethodName)) rfl hown (own_wd hw 15 rfl) (own_wd hw 16 rfl) (own_wd hw 10 rfl) (own_wd hw 18 rfl) (by decide) (rm3_1 l Z az hw [] a0 a1 kc c0 w_COMPACT_STRINGS u_coder_a0 u_value_a0 h0 n0 Z0 Vc_a1 hC hne h255_0 S_String_COMPACT_STRINGS E_a0 F_coder_a0 gn_a0 F_value_a0) (W := 0) (by decide) (by decide) (b := a0) (g := (mkF m 6 #[.val (.ref a0), .val (.ref a1)] [.null, (.int (1 : Int32)), (.int (0 : Int32)), (.ref a1), (.ref a0)])) rfl (by rw [hml]; rfl) (argsL := [(.ref a1), (.int (0 : Int32)), (.int (1 : Int32)), .null]) (rest := []) (lenOf pd_2_1_0 rfl) rfl (by show 2 * 0 + _ ≤ _; exact Nat.le_of_eq rfl) (hb hby d2_6) rfl e0 (by decide) (by decide) ?_
  rintro _ T2 L2 X2 ⟨r2_t, rfl, Nq2, K2, P2_0, P2_1, P2_2, P2_3⟩
  have KC2 : Keep h0 T2.heap [a0] := (Keep.refl h0 [a0]).trans K2 (allS (Or.inl (List.mem_of_getElem? (i := 0) rfl)) all0)
  have N2 := Fr.app N0 Nq2
  show OGo _ _ _ _ _ _ _ (T2.setTop (mkF m 9 #[.val (.ref a0), .val (.ref a1)] []))
  refine OGo.retV X2 hx hlk hret (hb hby d2_9) ?_ (by decide) (by decide)
  show Q2_1 Z a0 a1 kc c0 w_COMPACT_STRINGS u_coder_a0 u_value_a0 h0 n0 _ T2.heap _
  exact ⟨r2_t, rfl, N2, KC2, P2_0, P2_1, P2_2, P2_3⟩
/-! body 6: java/lang/StringUTF16.compress:([CI[BII)I -/
theorem ef_6_2 (m : MethodId) (x0 : Addr) (x2 : Addr) : entryFrame m #[(.ref x0), (.int (0 : Int32)), (.ref x2), (.int (0 : Int32)), (.int (2 : Int32))] 7 = mkF m 0 #[.val (.ref x0), .val (.int (0 : Int32)), .val (.ref x2), .val (.int (0 : Int32)), .val (.int (2 : Int32)), .unset, .unset] [] := by first | (simp [entryFrame, mkF, argsToLocals, Value.category]; done) | rfl
def f6_2  : Int32 :=
  (2 : Int32)
def Q6_2 (Z : State) (a0 : Addr) (a2 : Addr) (kc : ClassId) (kb : ClassId) (c0 : Int32) (c1 : Int32) (h0 : Heap) (n0 : Nat) (v : Option Value) (h : Heap) (L : List Loc) : Prop := v = some (.int f6_2) ∧ Fr n0 L ∧ Keep h0 h [a2] ∧ Arv Z h a2 kb .byte (2 : Int32) [(.int (own_by c0)), (.int (own_by c1))] (.int (0 : Int32))
set_option maxRecDepth 65536 in
set_option maxHeartbeats 40000000 in
theorem rm6_2 (l : Launch) (Z : State) (az : Array Value) (hw : ∀ d ∈ tables_1, d.before az Z = true) (ws : List Jvm.Cond) (a0 : Addr) (a2 : Addr) (kc : ClassId) (kb : ClassId) (c0 : Int32) (c1 : Int32) (h0 : Heap) (n0 : Nat) (Z0 : n0 ≤ h0.size) (Vc_a0 : Arv Z h0 a0 kc .char (2 : Int32) [(.int c0), (.int c1)] (.int (0 : Int32))) (Vb_a2 : Arv Z h0 a2 kb .byte (2 : Int32) [(.int (0 : Int32)), (.int (0 : Int32))] (.int (0 : Int32))) (hne : a0 ≠ a2) (h255_0 : ¬ ((255 : Int32) < c0)) (h255_1 : ¬ ((255 : Int32) < c1)) (gn_a2 : n0 ≤ a2) :
    OCtr l Z (⟨"java/lang/StringUTF16", "compress", "([CI[BII)I"⟩ : MethodName) jdk_52_method_21_code 7 (some .int) ws ({ frames := 0, cells := 0, slots := 0, locals := 0 } : Room) #[(.ref a0), (.int (0 : Int32)), (.ref a2), (.int (0 : Int32)), (.int (2 : Int32))] h0 (Q6_2 Z a0 a2 kc kb c0 c1 h0 n0) := by
  refine OCtr.of (plainFor_of_name pn_6) ?_
  intro p e s m below meth c s₁ X0 hx hlk hZ hown0 hnm hby hml0 hret e0
  have hown : s.vm.findClass "java/lang/StringUTF16" = some m.cls := hown0
  have hml : c.maxLocals = 7 := hml0
  have N0 := Fr.nil n0
  refine OGo.step (fun t k => castTop (ef_6_2 m a0 a2) k) ?_
  refine OGo.step (F' := s₁.setTop (mkF m 12 #[.val (.ref a0), .val (.int (0 : Int32)), .val (.ref a2), .val (.int (0 : Int32)), .val (.int (2 : Int32)), .val (.int (0 : Int32)), .unset] [(.int (0 : Int32)), (.ref a0)])) (fun t kt => ?_) ?_
  · show Steps p.tables e below (s₁.setTop (mkF m 0 #[.val (.ref a0), .val (.int (0 : Int32)), .val (.ref a2), .val (.int (0 : Int32)), .val (.int (2 : Int32)), .unset, .unset] [])) t
    refine XS.iconst X0.here hx rfl (hb hby d6_0) ?_
    show Steps p.tables e below (s₁.setTop (mkF m 1 #[.val (.ref a0), .val (.int (0 : Int32)), .val (.ref a2), .val (.int (0 : Int32)), .val (.int (2 : Int32)), .unset, .unset] [(.int (0 : Int32))])) t
    refine XS.istore X0.here hx rfl (hb hby d6_1) rfl (l' := #[.val (.ref a0), .val (.int (0 : Int32)), .val (.ref a2), .val (.int (0 : Int32)), .val (.int (2 : Int32)), .val (.int (0 : Int32)), .unset]) rfl ?_
    show Steps p.tables e below (s₁.setTop (mkF m 3 #[.val (.ref a0), .val (.int (0 : Int32)), .val (.ref a2), .val (.int (0 : Int32)), .val (.int (2 : Int32)), .val (.int (0 : Int32)), .unset] [])) t
    refine XS.iload X0.here hx rfl (hb hby d6_3) rfl ?_
    show Steps p.tables e below (s₁.setTop (mkF m 5 #[.val (.ref a0), .val (.int (0 : Int32)), .val (.ref a2), .val (.int (0 : Int32)), .val (.int (2 : Int32)), .val (.int (0 : Int32)), .unset] [(.int (0 : Int32))])) t
    refine XS.iload X0.here hx rfl (hb hby d6_5) rfl ?_
    show Steps p.tables e below (s₁.setTop (mkF m 7 #[.val (.ref a0), .val (.int (0 : Int32)), .val (.ref a2), .val (.int (0 : Int32)), .val (.int (2 : Int32)), .val (.int (0 : Int32)), .unset] [(.int (2 : Int32)), (.int (0 : Int32))])) t
    refine XS.icmpNo X0.here hx rfl (hb hby d6_7) rfl (tlt (by decide : (0 : Int32) < (2 : Int32))).2.1 ?_
    show Steps p.tables e below (s₁.setTop (mkF m 10 #[.val (.ref a0), .val (.int (0 : Int32)), .val (.ref a2), .val (.int (0 : Int32)), .val (.int (2 : Int32)), .val (.int (0 : Int32)), .unset] [])) t
    refine XS.aloadN X0.here hx rfl (hb hby d6_10) rfl rfl ?_
    show Steps p.tables e below (s₁.setTop (mkF m 11 #[.val (.ref a0), .val (.int (0 : Int32)), .val (.ref a2), .val (.int (0 : Int32)), .val (.int (2 : Int32)), .val (.int (0 : Int32)), .unset] [(.ref a0)])) t
    refine XS.iloadN X0.here hx rfl (hb hby d6_11) rfl ?_
    exact kt
  obtain ⟨cl1, Ar1, q1, S1, N1a, H1, G1⟩ := id (Vc_a0)
  have hin1 : ¬ ((0 : Int32) < 0 ∨ cl1.slots.size ≤ ((0 : Int32)).toNatClampNeg) := inb_of S1 ⟨by decide, by decide⟩
  have hat1 : cl1.slots[((0 : Int32)).toNatClampNeg]? = some (.int c0) := H1.at hin1 rfl
  refine OGo.step (F' := s₁.setTop (mkF m 13 #[.val (.ref a0), .val (.int (0 : Int32)), .val (.ref a2), .val (.int (0 : Int32)), .val (.int (2 : Int32)), .val (.int (0 : Int32)), .unset] [(.int c0)])) (fun t kt => ?_) ?_
  · show Steps p.tables e below (s₁.setTop (mkF m 12 #[.val (.ref a0), .val (.int (0 : Int32)), .val (.ref a2), .val (.int (0 : Int32)), .val (.int (2 : Int32)), .val (.int (0 : Int32)), .unset] [(.int (0 : Int32)), (.ref a0)])) t
    refine X0.caload hx (j := (0 : Int32)) (v := (.int c0)) (by rw [e0]; exact Ar1.1) (State.isArrayOf_alike hZ.alike Ar1.2.1) Ar1.2.2 hin1 hat1 (g := (mkF m 12 #[.val (.ref a0), .val (.int (0 : Int32)), .val (.ref a2), .val (.int (0 : Int32)), .val (.int (2 : Int32)), .val (.int (0 : Int32)), .unset] [(.int (0 : Int32)), (.ref a0)])) rfl rfl (hb hby d6_12) _ ?_
    exact kt
  refine OGo.step (F' := s₁.setTop (mkF m 31 #[.val (.ref a0), .val (.int (0 : Int32)), .val (.ref a2), .val (.int (0 : Int32)), .val (.int (2 : Int32)), .val (.int (0 : Int32)), .val (.int c0)] [(.int (c0.toInt8.toInt32)), (.int (0 : Int32)), (.ref a2)])) (fun t kt => ?_) ?_
  · show Steps p.tables e below (s₁.setTop (mkF m 13 #[.val (.ref a0), .val (.int (0 : Int32)), .val (.ref a2), .val (.int (0 : Int32)), .val (.int (2 : Int32)), .val (.int (0 : Int32)), .unset] [(.int c0)])) t
    refine XS.istore X0.here hx rfl (hb hby d6_13) rfl (l' := #[.val (.ref a0), .val (.int (0 : Int32)), .val (.ref a2), .val (.int (0 : Int32)), .val (.int (2 : Int32)), .val (.int (0 : Int32)), .val (.int c0)]) rfl ?_
    show Steps p.tables e below (s₁.setTop (mkF m 15 #[.val (.ref a0), .val (.int (0 : Int32)), .val (.ref a2), .val (.int (0 : Int32)), .val (.int (2 : Int32)), .val (.int (0 : Int32)), .val (.int c0)] [])) t
    refine XS.iload X0.here hx rfl (hb hby d6_15) rfl ?_
    show Steps p.tables e below (s₁.setTop (mkF m 17 #[.val (.ref a0), .val (.int (0 : Int32)), .val (.ref a2), .val (.int (0 : Int32)), .val (.int (2 : Int32)), .val (.int (0 : Int32)), .val (.int c0)] [(.int c0)])) t
    refine XS.sipush X0.here hx rfl (hb hby d6_17) ?_
    show Steps p.tables e below (s₁.setTop (mkF m 20 #[.val (.ref a0), .val (.int (0 : Int32)), .val (.ref a2), .val (.int (0 : Int32)), .val (.int (2 : Int32)), .val (.int (0 : Int32)), .val (.int c0)] [(.int (255 : Int32)), (.int c0)])) t
    refine XS.icmpYes X0.here hx rfl (pc0 := 20) (pc' := 26) rfl (hb hby d6_20) rfl (flt h255_0).2.2.2 (by decide) (by decide) ?_
    show Steps p.tables e below (s₁.setTop (mkF m 26 #[.val (.ref a0), .val (.int (0 : Int32)), .val (.ref a2), .val (.int (0 : Int32)), .val (.int (2 : Int32)), .val (.int (0 : Int32)), .val (.int c0)] [])) t
    refine XS.aloadN X0.here hx rfl (hb hby d6_26) rfl rfl ?_
    show Steps p.tables e below (s₁.setTop (mkF m 27 #[.val (.ref a0), .val (.int (0 : Int32)), .val (.ref a2), .val (.int (0 : Int32)), .val (.int (2 : Int32)), .val (.int (0 : Int32)), .val (.int c0)] [(.ref a2)])) t
    refine XS.iloadN X0.here hx rfl (hb hby d6_27) rfl ?_
    show Steps p.tables e below (s₁.setTop (mkF m 28 #[.val (.ref a0), .val (.int (0 : Int32)), .val (.ref a2), .val (.int (0 : Int32)), .val (.int (2 : Int32)), .val (.int (0 : Int32)), .val (.int c0)] [(.int (0 : Int32)), (.ref a2)])) t
    refine XS.iload X0.here hx rfl (hb hby d6_28) rfl ?_
    show Steps p.tables e below (s₁.setTop (mkF m 30 #[.val (.ref a0), .val (.int (0 : Int32)), .val (.ref a2), .val (.int (0 : Int32)), .val (.int (2 : Int32)), .val (.int (0 : Int32)), .val (.int c0)] [(.int c0), (.int (0 : Int32)), (.ref a2)])) t
    refine XS.i2b X0.here hx rfl (hb hby d6_30) rfl ?_
    exact kt
  obtain ⟨cl2, Ar2, q2, S2, N2a, H2, G2⟩ := id (Vb_a2)
  have hin2 : ¬ ((0 : Int32) < 0 ∨ cl2.slots.size ≤ ((0 : Int32)).toNatClampNeg) := inb_of S2 ⟨by decide, by decide⟩
  obtain ⟨T2, h2, X2, e2, W2, st2⟩ := stB X0 hx hZ e0 Ar2 (j := (0 : Int32)) hin2 (g := (mkF m 31 #[.val (.ref a0), .val (.int (0 : Int32)), .val (.ref a2), .val (.int (0 : Int32)), .val (.int (2 : Int32)), .val (.int (0 : Int32)), .val (.int c0)] [(.int (c0.toInt8.toInt32)), (.int (0 : Int32)), (.ref a2)])) rfl rfl (hb hby d6_31)
  have V2 : Arv Z h2 a2 kb .byte (2 : Int32) [(.int (own_by c0)), (.int (0 : Int32))] (.int (0 : Int32)) := Arv.set Ar2 q2 S2 N2a H2 G2 (fits_nar_byte _) W2 0 rfl (Nat.le_of_ble_eq_true rfl)
  have KC2 : Keep h0 h2 [a2] := (Keep.refl h0 [a2]).wr W2 (Or.inl (List.mem_of_getElem? (i := 0) rfl))
  have N2 := Fr.snoc X2 N0 gn_a2
  refine OGo.step st2 ?_
  show OGo _ _ _ _ _ _ _ (T2.setTop (mkF m 32 #[.val (.ref a0), .val (.int (0 : Int32)), .val (.ref a2), .val (.int (0 : Int32)), .val (.int (2 : Int32)), .val (.int (0 : Int32)), .val (.int c0)] []))
  refine OGo.step (F' := T2.setTop (mkF m 12 #[.val (.ref a0), .val (.int (1 : Int32)), .val (.ref a2), .val (.int (1 : Int32)), .val (.int (2 : Int32)), .val (.int (1 : Int32)), .val (.int c0)] [(.int (1 : Int32)), (.ref a0)])) (fun t kt => ?_) ?_
  · show Steps p.tables e below (T2.setTop (mkF m 32 #[.val (.ref a0), .val (.int (0 : Int32)), .val (.ref a2), .val (.int (0 : Int32)), .val (.int (2 : Int32)), .val (.int (0 : Int32)), .val (.int c0)] [])) t
    refine XS.iinc X2.here hx rfl (hb hby d6_32) rfl (l' := #[.val (.ref a0), .val (.int (1 : Int32)), .val (.ref a2), .val (.int (0 : Int32)), .val (.int (2 : Int32)), .val (.int (0 : Int32)), .val (.int c0)]) rfl ?_
    show Steps p.tables e below (T2.setTop (mkF m 35 #[.val (.ref a0), .val (.int (1 : Int32)), .val (.ref a2), .val (.int (0 : Int32)), .val (.int (2 : Int32)), .val (.int (0 : Int32)), .val (.int c0)] [])) t
    refine XS.iinc X2.here hx rfl (hb hby d6_35) rfl (l' := #[.val (.ref a0), .val (.int (1 : Int32)), .val (.ref a2), .val (.int (1 : Int32)), .val (.int (2 : Int32)), .val (.int (0 : Int32)), .val (.int c0)]) rfl ?_
    show Steps p.tables e below (T2.setTop (mkF m 38 #[.val (.ref a0), .val (.int (1 : Int32)), .val (.ref a2), .val (.int (1 : Int32)), .val (.int (2 : Int32)), .val (.int (0 : Int32)), .val (.int c0)] [])) t
    refine XS.iinc X2.here hx rfl (hb hby d6_38) rfl (l' := #[.val (.ref a0), .val (.int (1 : Int32)), .val (.ref a2), .val (.int (1 : Int32)), .val (.int (2 : Int32)), .val (.int (1 : Int32)), .val (.int c0)]) rfl ?_
    show Steps p.tables e below (T2.setTop (mkF m 41 #[.val (.ref a0), .val (.int (1 : Int32)), .val (.ref a2), .val (.int (1 : Int32)), .val (.int (2 : Int32)), .val (.int (1 : Int32)), .val (.int c0)] [])) t
    refine XS.goto X2.here hx rfl (pc0 := 41) (pc' := 3) rfl (hb hby d6_41) (by decide) (by decide) ?_
    show Steps p.tables e below (T2.setTop (mkF m 3 #[.val (.ref a0), .val (.int (1 : Int32)), .val (.ref a2), .val (.int (1 : Int32)), .val (.int (2 : Int32)), .val (.int (1 : Int32)), .val (.int c0)] [])) t
    refine XS.iload X2.here hx rfl (hb hby d6_3) rfl ?_
    show Steps p.tables e below (T2.setTop (mkF m 5 #[.val (.ref a0), .val (.int (1 : Int32)), .val (.ref a2), .val (.int (1 : Int32)), .val (.int (2 : Int32)), .val (.int (1 : Int32)), .val (.int c0)] [(.int (1 : Int32))])) t
    refine XS.iload X2.here hx rfl (hb hby d6_5) rfl ?_
    show Steps p.tables e below (T2.setTop (mkF m 7 #[.val (.ref a0), .val (.int (1 : Int32)), .val (.ref a2), .val (.int (1 : Int32)), .val (.int (2 : Int32)), .val (.int (1 : Int32)), .val (.int c0)] [(.int (2 : Int32)), (.int (1 : Int32))])) t
    refine XS.icmpNo X2.here hx rfl (hb hby d6_7) rfl (tlt (by decide : (1 : Int32) < (2 : Int32))).2.1 ?_
    show Steps p.tables e below (T2.setTop (mkF m 10 #[.val (.ref a0), .val (.int (1 : Int32)), .val (.ref a2), .val (.int (1 : Int32)), .val (.int (2 : Int32)), .val (.int (1 : Int32)), .val (.int c0)] [])) t
    refine XS.aloadN X2.here hx rfl (hb hby d6_10) rfl rfl ?_
    show Steps p.tables e below (T2.setTop (mkF m 11 #[.val (.ref a0), .val (.int (1 : Int32)), .val (.ref a2), .val (.int (1 : Int32)), .val (.int (2 : Int32)), .val (.int (1 : Int32)), .val (.int c0)] [(.ref a0)])) t
    refine XS.iloadN X2.here hx rfl (hb hby d6_11) rfl ?_
    exact kt
  obtain ⟨cl3, Ar3, q3, S3, N3a, H3, G3⟩ := id ((Vc_a0.other W2 hne))
  have hin3 : ¬ ((1 : Int32) < 0 ∨ cl3.slots.size ≤ ((1 : Int32)).toNatClampNeg) := inb_of S3 ⟨by decide, by decide⟩
  have hat3 : cl3.slots[((1 : Int32)).toNatClampNeg]? = some (.int c1) := H3.at hin3 rfl
  refine OGo.step (F' := T2.setTop (mkF m 13 #[.val (.ref a0), .val (.int (1 : Int32)), .val (.ref a2), .val (.int (1 : Int32)), .val (.int (2 : Int32)), .val (.int (1 : Int32)), .val (.int c0)] [(.int c1)])) (fun t kt => ?_) ?_
  · show Steps p.tables e below (T2.setTop (mkF m 12 #[.val (.ref a0), .val (.int (1 : Int32)), .val (.ref a2), .val (.int (1 : Int32)), .val (.int (2 : Int32)), .val (.int (1 : Int32)), .val (.int c0)] [(.int (1 : Int32)), (.ref a0)])) t
    refine X2.caload hx (j := (1 : Int32)) (v := (.int c1)) (by rw [e2]; exact Ar3.1) (State.isArrayOf_alike hZ.alike Ar3.2.1) Ar3.2.2 hin3 hat3 (g := (mkF m 12 #[.val (.ref a0), .val (.int (1 : Int32)), .val (.ref a2), .val (.int (1 : Int32)), .val (.int (2 : Int32)), .val (.int (1 : Int32)), .val (.int c0)] [(.int (1 : Int32)), (.ref a0)])) rfl rfl (hb hby d6_12) _ ?_
    exact kt
  refine OGo.step (F' := T2.setTop (mkF m 31 #[.val (.ref a0), .val (.int (1 : Int32)), .val (.ref a2), .val (.int (1 : Int32)), .val (.int (2 : Int32)), .val (.int (1 : Int32)), .val (.int c1)] [(.int (c1.toInt8.toInt32)), (.int (1 : Int32)), (.ref a2)])) (fun t kt => ?_) ?_
  · show Steps p.tables e below (T2.setTop (mkF m 13 #[.val (.ref a0), .val (.int (1 : Int32)), .val (.ref a2), .val (.int (1 : Int32)), .val (.int (2 : Int32)), .val (.int (1 : Int32)), .val (.int c0)] [(.int c1)])) t
    refine XS.istore X2.here hx rfl (hb hby d6_13) rfl (l' := #[.val (.ref a0), .val (.int (1 : Int32)), .val (.ref a2), .val (.int (1 : Int32)), .val (.int (2 : Int32)), .val (.int (1 : Int32)), .val (.int c1)]) rfl ?_
    show Steps p.tables e below (T2.setTop (mkF m 15 #[.val (.ref a0), .val (.int (1 : Int32)), .val (.ref a2), .val (.int (1 : Int32)), .val (.int (2 : Int32)), .val (.int (1 : Int32)), .val (.int c1)] [])) t
    refine XS.iload X2.here hx rfl (hb hby d6_15) rfl ?_
    show Steps p.tables e below (T2.setTop (mkF m 17 #[.val (.ref a0), .val (.int (1 : Int32)), .val (.ref a2), .val (.int (1 : Int32)), .val (.int (2 : Int32)), .val (.int (1 : Int32)), .val (.int c1)] [(.int c1)])) t
    refine XS.sipush X2.here hx rfl (hb hby d6_17) ?_
    show Steps p.tables e below (T2.setTop (mkF m 20 #[.val (.ref a0), .val (.int (1 : Int32)), .val (.ref a2), .val (.int (1 : Int32)), .val (.int (2 : Int32)), .val (.int (1 : Int32)), .val (.int c1)] [(.int (255 : Int32)), (.int c1)])) t
    refine XS.icmpYes X2.here hx rfl (pc0 := 20) (pc' := 26) rfl (hb hby d6_20) rfl (flt h255_1).2.2.2 (by decide) (by decide) ?_
    show Steps p.tables e below (T2.setTop (mkF m 26 #[.val (.ref a0), .val (.int (1 : Int32)), .val (.ref a2), .val (.int (1 : Int32)), .val (.int (2 : Int32)), .val (.int (1 : Int32)), .val (.int c1)] [])) t
    refine XS.aloadN X2.here hx rfl (hb hby d6_26) rfl rfl ?_
    show Steps p.tables e below (T2.setTop (mkF m 27 #[.val (.ref a0), .val (.int (1 : Int32)), .val (.ref a2), .val (.int (1 : Int32)), .val (.int (2 : Int32)), .val (.int (1 : Int32)), .val (.int c1)] [(.ref a2)])) t
    refine XS.iloadN X2.here hx rfl (hb hby d6_27) rfl ?_
    show Steps p.tables e below (T2.setTop (mkF m 28 #[.val (.ref a0), .val (.int (1 : Int32)), .val (.ref a2), .val (.int (1 : Int32)), .val (.int (2 : Int32)), .val (.int (1 : Int32)), .val (.int c1)] [(.int (1 : Int32)), (.ref a2)])) t
    refine XS.iload X2.here hx rfl (hb hby d6_28) rfl ?_
    show Steps p.tables e below (T2.setTop (mkF m 30 #[.val (.ref a0), .val (.int (1 : Int32)), .val (.ref a2), .val (.int (1 : Int32)), .val (.int (2 : Int32)), .val (.int (1 : Int32)), .val (.int c1)] [(.int c1), (.int (1 : Int32)), (.ref a2)])) t
    refine XS.i2b X2.here hx rfl (hb hby d6_30) rfl ?_
    exact kt
  obtain ⟨cl4, Ar4, q4, S4, N4a, H4, G4⟩ := id (V2)
  have hin4 : ¬ ((1 : Int32) < 0 ∨ cl4.slots.size ≤ ((1 : Int32)).toNatClampNeg) := inb_of S4 ⟨by decide, by decide⟩
  obtain ⟨T4, h4, X4, e4, W4, st4⟩ := stB X2 hx hZ e2 Ar4 (j := (1 : Int32)) hin4 (g := (mkF m 31 #[.val (.ref a0), .val (.int (1 : Int32)), .val (.ref a2), .val (.int (1 : Int32)), .val (.int (2 : Int32)), .val (.int (1 : Int32)), .val (.int c1)] [(.int (c1.toInt8.toInt32)), (.int (1 : Int32)), (.ref a2)])) rfl rfl (hb hby d6_31)
  have V4 : Arv Z h4 a2 kb .byte (2 : Int32) [(.int (own_by c0)), (.int (own_by c1))] (.int (0 : Int32)) := Arv.set Ar4 q4 S4 N4a H4 G4 (fits_nar_byte _) W4 1 rfl (Nat.le_of_ble_eq_true rfl)
  have KC4 : Keep h0 h4 [a2] := KC2.wr W4 (Or.inl (List.mem_of_getElem? (i := 0) rfl))
  have N4 := Fr.snoc X4 N2 gn_a2
  refine OGo.step st4 ?_
  show OGo _ _ _ _ _ _ _ (T4.setTop (mkF m 32 #[.val (.ref a0), .val (.int (1 : Int32)), .val (.ref a2), .val (.int (1 : Int32)), .val (.int (2 : Int32)), .val (.int (1 : Int32)), .val (.int c1)] []))
  refine OGo.step (F' := T4.setTop (mkF m 46 #[.val (.ref a0), .val (.int (2 : Int32)), .val (.ref a2), .val (.int (2 : Int32)), .val (.int (2 : Int32)), .val (.int (2 : Int32)), .val (.int c1)] [(.int (2 : Int32))])) (fun t kt => ?_) ?_
  · show Steps p.tables e below (T4.setTop (mkF m 32 #[.val (.ref a0), .val (.int (1 : Int32)), .val (.ref a2), .val (.int (1 : Int32)), .val (.int (2 : Int32)), .val (.int (1 : Int32)), .val (.int c1)] [])) t
    refine XS.iinc X4.here hx rfl (hb hby d6_32) rfl (l' := #[.val (.ref a0), .val (.int (2 : Int32)), .val (.ref a2), .val (.int (1 : Int32)), .val (.int (2 : Int32)), .val (.int (1 : Int32)), .val (.int c1)]) rfl ?_
    show Steps p.tables e below (T4.setTop (mkF m 35 #[.val (.ref a0), .val (.int (2 : Int32)), .val (.ref a2), .val (.int (1 : Int32)), .val (.int (2 : Int32)), .val (.int (1 : Int32)), .val (.int c1)] [])) t
    refine XS.iinc X4.here hx rfl (hb hby d6_35) rfl (l' := #[.val (.ref a0), .val (.int (2 : Int32)), .val (.ref a2), .val (.int (2 : Int32)), .val (.int (2 : Int32)), .val (.int (1 : Int32)), .val (.int c1)]) rfl ?_
    show Steps p.tables e below (T4.setTop (mkF m 38 #[.val (.ref a0), .val (.int (2 : Int32)), .val (.ref a2), .val (.int (2 : Int32)), .val (.int (2 : Int32)), .val (.int (1 : Int32)), .val (.int c1)] [])) t
    refine XS.iinc X4.here hx rfl (hb hby d6_38) rfl (l' := #[.val (.ref a0), .val (.int (2 : Int32)), .val (.ref a2), .val (.int (2 : Int32)), .val (.int (2 : Int32)), .val (.int (2 : Int32)), .val (.int c1)]) rfl ?_
    show Steps p.tables e below (T4.setTop (mkF m 41 #[.val (.ref a0), .val (.int (2 : Int32)), .val (.ref a2), .val (.int (2 : Int32)), .val (.int (2 : Int32)), .val (.int (2 : Int32)), .val (.int c1)] [])) t
    refine XS.goto X4.here hx rfl (pc0 := 41) (pc' := 3) rfl (hb hby d6_41) (by decide) (by decide) ?_
    show Steps p.tables e below (T4.setTop (mkF m 3 #[.val (.ref a0), .val (.int (2 : Int32)), .val (.ref a2), .val (.int (2 : Int32)), .val (.int (2 : Int32)), .val (.int (2 : Int32)), .val (.int c1)] [])) t
    refine XS.iload X4.here hx rfl (hb hby d6_3) rfl ?_
    show Steps p.tables e below (T4.setTop (mkF m 5 #[.val (.ref a0), .val (.int (2 : Int32)), .val (.ref a2), .val (.int (2 : Int32)), .val (.int (2 : Int32)), .val (.int (2 : Int32)), .val (.int c1)] [(.int (2 : Int32))])) t
    refine XS.iload X4.here hx rfl (hb hby d6_5) rfl ?_
    show Steps p.tables e below (T4.setTop (mkF m 7 #[.val (.ref a0), .val (.int (2 : Int32)), .val (.ref a2), .val (.int (2 : Int32)), .val (.int (2 : Int32)), .val (.int (2 : Int32)), .val (.int c1)] [(.int (2 : Int32)), (.int (2 : Int32))])) t
    refine XS.icmpYes X4.here hx rfl (pc0 := 7) (pc' := 44) rfl (hb hby d6_7) rfl (flt (by decide : ¬ ((2 : Int32) < (2 : Int32)))).2.1 (by decide) (by decide) ?_
    show Steps p.tables e below (T4.setTop (mkF m 44 #[.val (.ref a0), .val (.int (2 : Int32)), .val (.ref a2), .val (.int (2 : Int32)), .val (.int (2 : Int32)), .val (.int (2 : Int32)), .val (.int c1)] [])) t
    refine XS.iload X4.here hx rfl (hb hby d6_44) rfl ?_
    exact kt
  refine OGo.retI X4 hx hlk hret (hb hby d6_46) ?_ (by decide) (by decide)
  show Q6_2 Z a0 a2 kc kb c0 c1 h0 n0 _ T4.heap _
  rw [e4]
  exact ⟨(by rw [f6_2]), N4, KC4, V4⟩
/-! body 5: java/lang/StringUTF16.compress:([CII)[B -/
theorem pd_5_2_0 : parseMethodDescriptor "([CI[BII)I" = some ⟨[(.array .char), .int, (.array .byte), .int, .int], some .int⟩ := by decide +kernel
theorem ef_5_2 (m : MethodId) (x0 : Addr) : entryFrame m #[(.ref x0), (.int (0 : Int32)), (.int (2 : Int32))] 6 = mkF m 0 #[.val (.ref x0), .val (.int (0 : Int32)), .val (.int (2 : Int32)), .unset, .unset, .unset] [] := by first | (simp [entryFrame, mkF, argsToLocals, Value.category]; done) | rfl
def Q5_2 (Z : State) (a0 : Addr) (kc : ClassId) (c0 : Int32) (c1 : Int32) (h0 : Heap) (n0 : Nat) (v : Option Value) (h : Heap) (L : List Loc) : Prop := ∃ t : Addr, v = some (.ref t) ∧ Fr n0 L ∧ Keep h0 h [] ∧ h0.size ≤ t ∧ OBs Z h t [(own_by c0), (own_by c1)]
set_option maxRecDepth 65536 in
set_option maxHeartbeats 40000000 in
theorem rm5_2 (l : Launch) (Z : State) (az : Array Value) (hw : ∀ d ∈ tables_1, d.before az Z = true) (ws : List Jvm.Cond) (a0 : Addr) (kc : ClassId) (c0 : Int32) (c1 : Int32) (h0 : Heap) (n0 : Nat) (Z0 : n0 ≤ h0.size) (Vc_a0 : Arv Z h0 a0 kc .char (2 : Int32) [(.int c0), (.int c1)] (.int (0 : Int32))) (h255_0 : ¬ ((255 : Int32) < c0)) (h255_1 : ¬ ((255 : Int32) < c1)) :
    OCtr l Z (⟨"java/lang/StringUTF16", "compress", "([CII)[B"⟩ : MethodName) jdk_52_method_16_code 6 (some (.array .byte)) ws ({ frames := 1, cells := 1, slots := 2, locals := 18 } : Room) #[(.ref a0), (.int (0 : Int32)), (.int (2 : Int32))] h0 (Q5_2 Z a0 kc c0 c1 h0 n0) := by
  refine OCtr.of (plainFor_of_name pn_5) ?_
  intro p e s m below meth c s₁ X0 hx hlk hZ hown0 hnm hby hml0 hret e0
  have hown : s.vm.findClass "java/lang/StringUTF16" = some m.cls := hown0
  have hml : c.maxLocals = 6 := hml0
  have N0 := Fr.nil n0
  refine OGo.step (fun t k => castTop (ef_5_2 m a0) k) ?_
  refine OGo.step (F' := s₁.setTop (mkF m 1 #[.val (.ref a0), .val (.int (0 : Int32)), .val (.int (2 : Int32)), .unset, .unset, .unset] [(.int (2 : Int32))])) (fun t kt => ?_) ?_
  · show Steps p.tables e below (s₁.setTop (mkF m 0 #[.val (.ref a0), .val (.int (0 : Int32)), .val (.int (2 : Int32)), .unset, .unset, .unset] [])) t
    refine XS.iloadN X0.here hx rfl (hb hby d5_0) rfl ?_
    exact kt
  obtain ⟨T1, h1, k1, X1, e1, E1, A1, st1⟩ := newP X0 hx hZ (own_wd hw 27 rfl) e0 (g := (mkF m 1 #[.val (.ref a0), .val (.int (0 : Int32)), .val (.int (2 : Int32)), .unset, .unset, .unset] [(.int (2 : Int32))])) rfl (hb hby d5_1) rfl (by decide) (cap := 2) (by decide) (by decide) (by decide) (by decide)
  obtain ⟨b1, g1⟩ : ∃ z, z = h0.size := ⟨_, rfl⟩
  rw [← g1] at A1 st1
  have sz_b1 : h0.size ≤ b1 := Nat.le_trans (Keep.refl h0 []).1 (Nat.le_of_eq g1.symm)
  have gn_b1 : n0 ≤ b1 := Nat.le_trans Z0 sz_b1
  have KC1 : Keep h0 h1 [] := (Keep.refl h0 []).ext E1
  have V1 : Arv Z h1 b1 k1 .byte (2 : Int32) [(.int (0 : Int32)), (.int (0 : Int32))] (.int (0 : Int32)) := (Arv.new A1 (by decide)).pad (pad_rep [] (.int (0 : Int32)) 2)
  refine OGo.step st1 ?_
  show OGo _ _ _ _ _ _ _ (T1.setTop (mkF m 3 #[.val (.ref a0), .val (.int (0 : Int32)), .val (.int (2 : Int32)), .unset, .unset, .unset] [(.ref b1)]))
  refine OGo.step (F' := T1.setTop (mkF m 9 #[.val (.ref a0), .val (.int (0 : Int32)), .val (.int (2 : Int32)), .val (.ref b1), .unset, .unset] [(.int (2 : Int32)), (.int (0 : Int32)), (.ref b1), (.int (0 : Int32)), (.ref a0)])) (fun t kt => ?_) ?_
  · show Steps p.tables e below (T1.setTop (mkF m 3 #[.val (.ref a0), .val (.int (0 : Int32)), .val (.int (2 : Int32)), .unset, .unset, .unset] [(.ref b1)])) t
    refine XS.astoreN X1.here hx rfl (hb hby d5_3) rfl rfl (l' := #[.val (.ref a0), .val (.int (0 : Int32)), .val (.int (2 : Int32)), .val (.ref b1), .unset, .unset]) rfl ?_
    show Steps p.tables e below (T1.setTop (mkF m 4 #[.val (.ref a0), .val (.int (0 : Int32)), .val (.int (2 : Int32)), .val (.ref b1), .unset, .unset] [])) t
    refine XS.aloadN X1.here hx rfl (hb hby d5_4) rfl rfl ?_
    show Steps p.tables e below (T1.setTop (mkF m 5 #[.val (.ref a0), .val (.int (0 : Int32)), .val (.int (2 : Int32)), .val (.ref b1), .unset, .unset] [(.ref a0)])) t
    refine XS.iloadN X1.here hx rfl (hb hby d5_5) rfl ?_
    show Steps p.tables e below (T1.setTop (mkF m 6 #[.val (.ref a0), .val (.int (0 : Int32)), .val (.int (2 : Int32)), .val (.ref b1), .unset, .unset] [(.int (0 : Int32)), (.ref a0)])) t
    refine XS.aloadN X1.here hx rfl (hb hby d5_6) rfl rfl ?_
    show Steps p.tables e below (T1.setTop (mkF m 7 #[.val (.ref a0), .val (.int (0 : Int32)), .val (.int (2 : Int32)), .val (.ref b1), .unset, .unset] [(.ref b1), (.int (0 : Int32)), (.ref a0)])) t
    refine XS.iconst X1.here hx rfl (hb hby d5_7) ?_
    show Steps p.tables e below (T1.setTop (mkF m 8 #[.val (.ref a0), .val (.int (0 : Int32)), .val (.int (2 : Int32)), .val (.ref b1), .unset, .unset] [(.int (0 : Int32)), (.ref b1), (.int (0 : Int32)), (.ref a0)])) t
    refine XS.iloadN X1.here hx rfl (hb hby d5_8) rfl ?_
    exact kt
  refine OGo.callS X1 hx hZ (y := (⟨"java/lang/StringUTF16", "compress", "([CI[BII)I"⟩ : MethodName)) hown (own_wd hw 28 rfl) (own_wd hw 29 rfl) (own_wd hw 25 rfl) (own_wd hw 30 rfl) (by decide) (rm6_2 l Z az hw [] a0 b1 kc k1 c0 c1 h1 n0 (Nat.le_trans Z0 KC1.1) (Vc_a0.ext E1) V1 (Nat.ne_of_lt (Nat.lt_of_lt_of_le Vc_a0.lt (Nat.le_of_eq g1.symm))) h255_0 h255_1 gn_b1) (W := 0) (by decide) (by decide) (g := (mkF m 9 #[.val (.ref a0), .val (.int (0 : Int32)), .val (.int (2 : Int32)), .val (.ref b1), .unset, .unset] [(.int (2 : Int32)), (.int (0 : Int32)), (.ref b1), (.int (0 : Int32)), (.ref a0)])) rfl (by rw [hml]; rfl) (argsL := [(.ref a0), (.int (0 : Int32)), (.ref b1), (.int (0 : Int32)), (.int (2 : Int32))]) (rest := []) (lenOf pd_5_2_0 rfl) rfl (by show 2 * 0 + _ ≤ _; exact Nat.le_of_eq rfl) (hb hby d5_9) rfl e1 (by decide) (by decide) ?_
  rintro _ T2 L2 X2 ⟨hv2, Nq2, K2, P2_0⟩
  have KC2 : Keep h0 T2.heap [] := KC1.trans K2 (allS (Or.inr sz_b1) all0)
  have N2 := Fr.app N0 Nq2
  rw [show f6_2 = (2 : Int32) from rfl] at hv2
  subst hv2
  show OGo _ _ _ _ _ _ _ (T2.setTop (mkF m 12 #[.val (.ref a0), .val (.int (0 : Int32)), .val (.int (2 : Int32)), .val (.ref b1), .unset, .unset] [(.int (2 : Int32))]))
  refine OGo.step (F' := T2.setTop (mkF m 58 #[.val (.ref a0), .val (.int (0 : Int32)), .val (.int (2 : Int32)), .val (.ref b1), .val (.int (2 : Int32)), .unset] [(.ref b1)])) (fun t kt => ?_) ?_
  · show Steps p.tables e below (T2.setTop (mkF m 12 #[.val (.ref a0), .val (.int (0 : Int32)), .val (.int (2 : Int32)), .val (.ref b1), .unset, .unset] [(.int (2 : Int32))])) t
    refine XS.istore X2.here hx rfl (hb hby d5_12) rfl (l' := #[.val (.ref a0), .val (.int (0 : Int32)), .val (.int (2 : Int32)), .val (.ref b1), .val (.int (2 : Int32)), .unset]) rfl ?_
    show Steps p.tables e below (T2.setTop (mkF m 14 #[.val (.ref a0), .val (.int (0 : Int32)), .val (.int (2 : Int32)), .val (.ref b1), .val (.int (2 : Int32)), .unset] [])) t
    refine XS.iload X2.here hx rfl (hb hby d5_14) rfl ?_
    show Steps p.tables e below (T2.setTop (mkF m 16 #[.val (.ref a0), .val (.int (0 : Int32)), .val (.int (2 : Int32)), .val (.ref b1), .val (.int (2 : Int32)), .unset] [(.int (2 : Int32))])) t
    refine XS.iloadN X2.here hx rfl (hb hby d5_16) rfl ?_
    show Steps p.tables e below (T2.setTop (mkF m 17 #[.val (.ref a0), .val (.int (0 : Int32)), .val (.int (2 : Int32)), .val (.ref b1), .val (.int (2 : Int32)), .unset] [(.int (2 : Int32)), (.int (2 : Int32))])) t
    refine XS.icmpYes X2.here hx rfl (pc0 := 17) (pc' := 57) rfl (hb hby d5_17) rfl (teq (by decide : (2 : Int32) = (2 : Int32))).1 (by decide) (by decide) ?_
    show Steps p.tables e below (T2.setTop (mkF m 57 #[.val (.ref a0), .val (.int (0 : Int32)), .val (.int (2 : Int32)), .val (.ref b1), .val (.int (2 : Int32)), .unset] [])) t
    refine XS.aloadN X2.here hx rfl (hb hby d5_57) rfl rfl ?_
    exact kt
  refine OGo.retA X2 hx hlk (t := (.array .byte)) hret rfl rfl rfl (hb hby d5_58) ?_ (by decide) (by decide)
  show Q5_2 Z a0 kc c0 c1 h0 n0 _ T2.heap _
  exact ⟨b1, rfl, N2, KC2, sz_b1, ⟨_, P2_0⟩⟩
/-! body 3: java/lang/String.<init>:([CIILjava/lang/Void;)V -/
theorem pd_3_2_0 : parseMethodDescriptor "([CII)[B" = some ⟨[(.array .char), .int, .int], some (.array .byte)⟩ := by decide +kernel
theorem pd_3_2_1 : parseMethodDescriptor "([BI)B" = some ⟨[(.array .byte), .int], some .byte⟩ := by decide +kernel
theorem ef_3_2 (m : MethodId) (x0 : Addr) (x1 : Addr) : entryFrame m #[(.ref x0), (.ref x1), (.int (0 : Int32)), (.int (2 : Int32)), .null] 6 = mkF m 0 #[.val (.ref x0), .val (.ref x1), .val (.int (0 : Int32)), .val (.int (2 : Int32)), .val .null, .unset] [] := by first | (simp [entryFrame, mkF, argsToLocals, Value.category]; done) | rfl
def Q3_2 (Z : State) (a0 : Addr) (a1 : Addr) (kc : ClassId) (c0 : Int32) (c1 : Int32) (w_COMPACT_STRINGS : Int32) (u_coder_a0 : Value) (u_value_a0 : Value) (h0 : Heap) (n0 : Nat) (v : Option Value) (h : Heap) (L : List Loc) : Prop := ∃ t : Addr, v = none ∧ Fr n0 L ∧ Keep h0 h [a0] ∧ Exa Z h a0 "java/lang/String" ∧ Fld Z h a0 "java/lang/String" "value" "[B" (.ref t) ∧ Fld Z h a0 "java/lang/String" "coder" "B" (.int (0 : Int32)) ∧ OBs Z h t [(own_by c0), (own_by c1)]
set_option maxRecDepth 65536 in
set_option maxHeartbeats 40000000 in
theorem rm3_2 (l : Launch) (Z : State) (az : Array Value) (hw : ∀ d ∈ tables_1, d.before az Z = true) (ws : List Jvm.Cond) (a0 : Addr) (a1 : Addr) (kc : ClassId) (c0 : Int32) (c1 : Int32) (w_COMPACT_STRINGS : Int32) (u_coder_a0 : Value) (u_value_a0 : Value) (h0 : Heap) (n0 : Nat) (Z0 : n0 ≤ h0.size) (Vc_a1 : Arv Z h0 a1 kc .char (2 : Int32) [(.int c0), (.int c1)] (.int (0 : Int32))) (hC : ¬ (w_COMPACT_STRINGS = (0 : Int32))) (hne : a1 ≠ a0) (h255_0 : ¬ ((255 : Int32) < c0)) (h255_1 : ¬ ((255 : Int32) < c1)) (S_String_COMPACT_STRINGS : Sta Z h0 "java/lang/String" "COMPACT_STRINGS" "Z" (.int w_COMPACT_STRINGS)) (E_a0 : Exa Z h0 a0 "java/lang/String") (F_coder_a0 : Fld Z h0 a0 "java/lang/String" "coder" "B" u_coder_a0) (gn_a0 : n0 ≤ a0) (F_value_a0 : Fld Z h0 a0 "java/lang/String" "value" "[B" u_value_a0) :
    OCtr l Z (⟨"java/lang/String", "<init>", "([CIILjava/lang/Void;)V"⟩ : MethodName) jdk_42_method_149_code 6 none ws ({ frames := 2, cells := 1, slots := 2, locals := 35 } : Room) #[(.ref a0), (.ref a1), (.int (0 : Int32)), (.int (2 : Int32)), .null] h0 (Q3_2 Z a0 a1 kc c0 c1 w_COMPACT_STRINGS u_coder_a0 u_value_a0 h0 n0) := by
  refine OCtr.of (plainFor_of_name pn_3) ?_
  intro p e s m below meth c s₁ X0 hx hlk hZ hown0 hnm hby hml0 hret e0
  have hown : s.vm.findClass "java/lang/String" = some m.cls := hown0
  have hml : c.maxLocals = 6 := hml0
  have N0 := Fr.nil n0
  refine OGo.step (fun t k => castTop (ef_3_2 m a0 a1) k) ?_
  refine OGo.step (F' := s₁.setTop (mkF m 1 #[.val (.ref a0), .val (.ref a1), .val (.int (0 : Int32)), .val (.int (2 : Int32)), .val .null, .unset] [(.ref a0)])) (fun t kt => ?_) ?_
  · show Steps p.tables e below (s₁.setTop (mkF m 0 #[.val (.ref a0), .val (.ref a1), .val (.int (0 : Int32)), .val (.int (2 : Int32)), .val .null, .unset] [])) t
    refine XS.aloadN X0.here hx rfl (hb hby d3_0) rfl rfl ?_
    exact kt
  obtain ⟨T1, X1, e1, st1⟩ := initO X0 hx hZ hown (own_wd hw 19 rfl) (own_wd hw 20 rfl) (own_wd hw 21 rfl) e0 (g := (mkF m 1 #[.val (.ref a0), .val (.ref a1), .val (.int (0 : Int32)), .val (.int (2 : Int32)), .val .null, .unset] [(.ref a0)])) rfl (by rw [hml]; rfl) rfl (hb hby d3_1) (by decide) (W := 0) (by show 2 * 0 + _ ≤ _; exact Nat.le_of_eq rfl) (by decide)
  refine OGo.step st1 ?_
  show OGo _ _ _ _ _ _ _ (T1.setTop (mkF m 4 #[.val (.ref a0), .val (.ref a1), .val (.int (0 : Int32)), .val (.int (2 : Int32)), .val .null, .unset] []))
  refine OGo.step (F' := T1.setTop (mkF m 27 #[.val (.ref a0), .val (.ref a1), .val (.int (0 : Int32)), .val (.int (2 : Int32)), .val .null, .unset] [])) (fun t kt => ?_) ?_
  · show Steps p.tables e below (T1.setTop (mkF m 4 #[.val (.ref a0), .val (.ref a1), .val (.int (0 : Int32)), .val (.int (2 : Int32)), .val .null, .unset] [])) t
    refine XS.iloadN X1.here hx rfl (hb hby d3_4) rfl ?_
    show Steps p.tables e below (T1.setTop (mkF m 5 #[.val (.ref a0), .val (.ref a1), .val (.int (0 : Int32)), .val (.int (2 : Int32)), .val .null, .unset] [(.int (2 : Int32))])) t
    refine XS.ifYes X1.here hx rfl (pc0 := 5) (pc' := 27) rfl (hb hby d3_5) rfl ((if0 _ _).trans (feq (by decide : ¬ ((2 : Int32) = (0 : Int32)))).2) (by decide) (by decide) ?_
    exact kt
  obtain ⟨T2, X2, e2, st2⟩ := getS2 X1 hx hZ hown (host := "") (Or.inl (own_wd hw 22 rfl)) Via.refl e1 S_String_COMPACT_STRINGS (g := (mkF m 27 #[.val (.ref a0), .val (.ref a1), .val (.int (0 : Int32)), .val (.int (2 : Int32)), .val .null, .unset] [])) rfl (hb hby d3_27)
  refine OGo.step st2 ?_
  show OGo _ _ _ _ _ _ _ (T2.setTop (mkF m 30 #[.val (.ref a0), .val (.ref a1), .val (.int (0 : Int32)), .val (.int (2 : Int32)), .val .null, .unset] [(.int w_COMPACT_STRINGS)]))
  refine OGo.step (F' := T2.setTop (mkF m 36 #[.val (.ref a0), .val (.ref a1), .val (.int (0 : Int32)), .val (.int (2 : Int32)), .val .null, .unset] [(.int (2 : Int32)), (.int (0 : Int32)), (.ref a1)])) (fun t kt => ?_) ?_
  · show Steps p.tables e below (T2.setTop (mkF m 30 #[.val (.ref a0), .val (.ref a1), .val (.int (0 : Int32)), .val (.int (2 : Int32)), .val .null, .unset] [(.int w_COMPACT_STRINGS)])) t
    refine XS.ifNo X2.here hx rfl (hb hby d3_30) rfl ((if0 _ _).trans (feq hC).1) ?_
    show Steps p.tables e below (T2.setTop (mkF m 33 #[.val (.ref a0), .val (.ref a1), .val (.int (0 : Int32)), .val (.int (2 : Int32)), .val .null, .unset] [])) t
    refine XS.aloadN X2.here hx rfl (hb hby d3_33) rfl rfl ?_
    show Steps p.tables e below (T2.setTop (mkF m 34 #[.val (.ref a0), .val (.ref a1), .val (.int (0 : Int32)), .val (.int (2 : Int32)), .val .null, .unset] [(.ref a1)])) t
    refine XS.iloadN X2.here hx rfl (hb hby d3_34) rfl ?_
    show Steps p.tables e below (T2.setTop (mkF m 35 #[.val (.ref a0), .val (.ref a1), .val (.int (0 : Int32)), .val (.int (2 : Int32)), .val .null, .unset] [(.int (0 : Int32)), (.ref a1)])) t
    refine XS.iloadN X2.here hx rfl (hb hby d3_35) rfl ?_
    exact kt
  refine OGo.callS X2 hx hZ (y := (⟨"java/lang/StringUTF16", "compress", "([CII)[B"⟩ : MethodName)) hown (own_wd hw 23 rfl) (own_wd hw 24 rfl) (own_wd hw 25 rfl) (own_wd hw 26 rfl) (by decide) (rm5_2 l Z az hw [] a1 kc c0 c1 h0 n0 Z0 Vc_a1 h255_0 h255_1) (W := 0) (by decide) (by decide) (g := (mkF m 36 #[.val (.ref a0), .val (.ref a1), .val (.int (0 : Int32)), .val (.int (2 : Int32)), .val .null, .unset] [(.int (2 : Int32)), (.int (0 : Int32)), (.ref a1)])) rfl (by rw [hml]; rfl) (argsL := [(.ref a1), (.int (0 : Int32)), (.int (2 : Int32))]) (rest := []) (lenOf pd_3_2_0 rfl) rfl (by show 2 * 0 + _ ≤ _; exact Nat.le_of_eq rfl) (hb hby d3_36) rfl e2 (by decide) (by decide) ?_
  rintro _ T3 L3 X3 ⟨b3_t, rfl, Nq3, K3, sz_b3_t, P3_0⟩
  have KC3 : Keep h0 T3.heap [a0] := (Keep.refl h0 [a0]).trans K3 all0
  have szo_b3_t := sz_b3_t
  replace sz_b3_t : h0.size ≤ b3_t := Nat.le_trans (Keep.refl h0 [a0]).1 sz_b3_t
  have gn_b3_t : n0 ≤ b3_t := Nat.le_trans Z0 sz_b3_t
  have N3 := Fr.app N0 Nq3
  show OGo _ _ _ _ _ _ _ (T3.setTop (mkF m 39 #[.val (.ref a0), .val (.ref a1), .val (.int (0 : Int32)), .val (.int (2 : Int32)), .val .null, .unset] [(.ref b3_t)]))
  refine OGo.step (F' := T3.setTop (mkF m 45 #[.val (.ref a0), .val (.ref a1), .val (.int (0 : Int32)), .val (.int (2 : Int32)), .val .null, .val (.ref b3_t)] [(.int (2 : Int32)), (.ref b3_t), (.ref a0)])) (fun t kt => ?_) ?_
  · show Steps p.tables e below (T3.setTop (mkF m 39 #[.val (.ref a0), .val (.ref a1), .val (.int (0 : Int32)), .val (.int (2 : Int32)), .val .null, .unset] [(.ref b3_t)])) t
    refine XS.astore X3.here hx rfl (hb hby d3_39) rfl rfl (l' := #[.val (.ref a0), .val (.ref a1), .val (.int (0 : Int32)), .val (.int (2 : Int32)), .val .null, .val (.ref b3_t)]) rfl ?_
    show Steps p.tables e below (T3.setTop (mkF m 41 #[.val (.ref a0), .val (.ref a1), .val (.int (0 : Int32)), .val (.int (2 : Int32)), .val .null, .val (.ref b3_t)] [])) t
    refine XS.aloadN X3.here hx rfl (hb hby d3_41) rfl rfl ?_
    show Steps p.tables e below (T3.setTop (mkF m 42 #[.val (.ref a0), .val (.ref a1), .val (.int (0 : Int32)), .val (.int (2 : Int32)), .val .null, .val (.ref b3_t)] [(.ref a0)])) t
    refine XS.aload X3.here hx rfl (hb hby d3_42) rfl rfl ?_
    show Steps p.tables e below (T3.setTop (mkF m 44 #[.val (.ref a0), .val (.ref a1), .val (.int (0 : Int32)), .val (.int (2 : Int32)), .val .null, .val (.ref b3_t)] [(.ref b3_t), (.ref a0)])) t
    refine XS.iloadN X3.here hx rfl (hb hby d3_44) rfl ?_
    exact kt
  refine OGo.callS X3 hx hZ (y := (⟨"java/lang/StringUTF16", "coderFromArrayLen", "([BI)B"⟩ : MethodName)) hown (own_wd hw 31 rfl) (own_wd hw 32 rfl) (own_wd hw 25 rfl) (own_wd hw 33 rfl) (by decide) (rm7 l Z az hw [] b3_t (2 : Int32) [(own_by c0), (own_by c1)] T3.heap n0 (Nat.le_trans Z0 KC3.1) P3_0) (W := 1) (by decide) (by decide) (g := (mkF m 45 #[.val (.ref a0), .val (.ref a1), .val (.int (0 : Int32)), .val (.int (2 : Int32)), .val .null, .val (.ref b3_t)] [(.int (2 : Int32)), (.ref b3_t), (.ref a0)])) rfl (by rw [hml]; rfl) (argsL := [(.ref b3_t), (.int (2 : Int32))]) (rest := [(.ref a0)]) (lenOf pd_3_2_1 rfl) rfl (by show 2 * 0 + _ ≤ _; exact Nat.le_of_eq rfl) (hb hby d3_45) rfl rfl (by decide) (by decide) ?_
  rintro _ T4 L4 X4 ⟨hv4, Nq4, e4⟩
  have N4 := Fr.app N3 Nq4
  rw [show (f7 (2 : Int32) [(own_by c0), (own_by c1)]) = (0 : Int32) from by simp only [f7, List.length_cons, List.length_nil]; decide] at hv4
  subst hv4
  show OGo _ _ _ _ _ _ _ (T4.setTop (mkF m 48 #[.val (.ref a0), .val (.ref a1), .val (.int (0 : Int32)), .val (.int (2 : Int32)), .val .null, .val (.ref b3_t)] [(.int (0 : Int32)), (.ref a0)]))
  obtain ⟨T5, h5, X5, e5, W5, st5⟩ := putFN X4 hx hZ hown (own_wd hw 34 rfl) Via.refl e4 (F_coder_a0.keep K3 nin0) (E_a0.keep K3) (Or.inr ⟨(own_wd hw 35 rfl), rfl, hnm⟩) (own_wd hw 9 rfl) (ty := .byte) (v := (.int (0 : Int32))) (v' := (.int (0 : Int32))) (by decide) rfl (by decide) (g := (mkF m 48 #[.val (.ref a0), .val (.ref a1), .val (.int (0 : Int32)), .val (.int (2 : Int32)), .val .null, .val (.ref b3_t)] [(.int (0 : Int32)), (.ref a0)])) rfl rfl (hb hby d3_48)
  have Fw5 : Fld Z h5 a0 "java/lang/String" "coder" "B" (.int (0 : Int32)) := (F_coder_a0.keep K3 nin0).same W5
  have KC5 : Keep h0 h5 [a0] := KC3.wr W5 (Or.inl (List.mem_of_getElem? (i := 0) rfl))
  have N5 := Fr.snoc X5 N4 gn_a0
  refine OGo.step st5 ?_
  show OGo _ _ _ _ _ _ _ (T5.setTop (mkF m 51 #[.val (.ref a0), .val (.ref a1), .val (.int (0 : Int32)), .val (.int (2 : Int32)), .val .null, .val (.ref b3_t)] []))
  refine OGo.step (F' := T5.setTop (mkF m 54 #[.val (.ref a0), .val (.ref a1), .val (.int (0 : Int32)), .val (.int (2 : Int32)), .val .null, .val (.ref b3_t)] [(.ref b3_t), (.ref a0)])) (fun t kt => ?_) ?_
  · show Steps p.tables e below (T5.setTop (mkF m 51 #[.val (.ref a0), .val (.ref a1), .val (.int (0 : Int32)), .val (.int (2 : Int32)), .val .null, .val (.ref b3_t)] [])) t
    refine XS.aloadN X5.here hx rfl (hb hby d3_51) rfl rfl ?_
    show Steps p.tables e below (T5.setTop (mkF m 52 #[.val (.ref a0), .val (.ref a1), .val (.int (0 : Int32)), .val (.int (2 : Int32)), .val .null, .val (.ref b3_t)] [(.ref a0)])) t
    refine XS.aload X5.here hx rfl (hb hby d3_52) rfl rfl ?_
    exact kt
  obtain ⟨T6, h6, X6, e6, W6, st6⟩ := putF X5 hx hZ hown (host := "") (Or.inl (own_wd hw 36 rfl)) Via.refl e5 ((F_value_a0.keep K3 nin0).other W5 (Or.inr (slot_ne (a0 := az) (Or.inr (own_wd hw 37 rfl)) (Or.inr (own_wd hw 35 rfl)) (by decide) (t := (.array .byte)) (t' := .byte) (by decide) (by decide)))) ((E_a0.keep K3).wr W5) (Or.inr ⟨(own_wd hw 37 rfl), rfl, hnm⟩) (own_wd hw 9 rfl) (ty := (.array .byte)) (by decide) rfl rfl (g := (mkF m 54 #[.val (.ref a0), .val (.ref a1), .val (.int (0 : Int32)), .val (.int (2 : Int32)), .val .null, .val (.ref b3_t)] [(.ref b3_t), (.ref a0)])) rfl rfl (hb hby d3_54)
  have Fw6 : Fld Z h6 a0 "java/lang/String" "value" "[B" (.ref b3_t) := ((F_value_a0.keep K3 nin0).other W5 (Or.inr (slot_ne (a0 := az) (Or.inr (own_wd hw 37 rfl)) (Or.inr (own_wd hw 35 rfl)) (by decide) (t := (.array .byte)) (t' := .byte) (by decide) (by decide)))).same W6
  have KC6 : Keep h0 h6 [a0] := KC5.wr W6 (Or.inl (List.mem_of_getElem? (i := 0) rfl))
  have N6 := Fr.snoc X6 N5 gn_a0
  refine OGo.step st6 ?_
  show OGo _ _ _ _ _ _ _ (T6.setTop (mkF m 57 #[.val (.ref a0), .val (.ref a1), .val (.int (0 : Int32)), .val (.int (2 : Int32)), .val .null, .val (.ref b3_t)] []))
  refine OGo.retV X6 hx hlk hret (hb hby d3_57) ?_ (by decide) (by decide)
  show Q3_2 Z a0 a1 kc c0 c1 w_COMPACT_STRINGS u_coder_a0 u_value_a0 h0 n0 _ T6.heap _
  rw [e6]
  exact ⟨b3_t, rfl, N6, KC6, (((E_a0.keep K3).wr W5).wr W6), Fw6, (Fw5.other W6 (Or.inr (slot_ne (a0 := az) (Or.inr (own_wd hw 35 rfl)) (Or.inr (own_wd hw 37 rfl)) (by decide) (t := .byte) (t' := (.array .byte)) (by decide) (by decide)))), ((P3_0.other W5 (Ne.symm (Nat.ne_of_lt (Nat.lt_of_lt_of_le E_a0.lt szo_b3_t)))).other W6 (Ne.symm (Nat.ne_of_lt (Nat.lt_of_lt_of_le E_a0.lt szo_b3_t))))⟩
/-! body 2: java/lang/String.<init>:([C)V -/
theorem pd_2_2_0 : parseMethodDescriptor "([CIILjava/lang/Void;)V" = some ⟨[(.array .char), .int, .int, (.object "java/lang/Void")], none⟩ := by decide +kernel
theorem ef_2_2 (m : MethodId) (x0 : Addr) (x1 : Addr) : entryFrame m #[(.ref x0), (.ref x1)] 2 = mkF m 0 #[.val (.ref x0), .val (.ref x1)] [] := by first | (simp [entryFrame, mkF, argsToLocals, Value.category]; done) | rfl
def Q2_2 (Z : State) (a0 : Addr) (a1 : Addr) (kc : ClassId) (c0 : Int32) (c1 : Int32) (w_COMPACT_STRINGS : Int32) (u_coder_a0 : Value) (u_value_a0 : Value) (h0 : Heap) (n0 : Nat) (v : Option Value) (h : Heap) (L : List Loc) : Prop := ∃ t : Addr, v = none ∧ Fr n0 L ∧ Keep h0 h [a0] ∧ Exa Z h a0 "java/lang/String" ∧ Fld Z h a0 "java/lang/String" "value" "[B" (.ref t) ∧ Fld Z h a0 "java/lang/String" "coder" "B" (.int (0 : Int32)) ∧ OBs Z h t [(own_by c0), (own_by c1)]
set_option maxRecDepth 65536 in
set_option maxHeartbeats 40000000 in
theorem rm2_2 (l : Launch) (Z : State) (az : Array Value) (hw : ∀ d ∈ tables_1, d.before az Z = true) (ws : List Jvm.Cond) (a0 : Addr) (a1 : Addr) (kc : ClassId) (c0 : Int32) (c1 : Int32) (w_COMPACT_STRINGS : Int32) (u_coder_a0 : Value) (u_value_a0 : Value) (h0 : Heap) (n0 : Nat) (Z0 : n0 ≤ h0.size) (Vc_a1 : Arv Z h0 a1 kc .char (2 : Int32) [(.int c0), (.int c1)] (.int (0 : Int32))) (hC : ¬ (w_COMPACT_STRINGS = (0 : Int32))) (hne : a1 ≠ a0) (h255_0 : ¬ ((255 : Int32) < c0)) (h255_1 : ¬ ((255 : Int32) < c1)) (S_String_COMPACT_STRINGS : Sta Z h0 "java/lang/String" "COMPACT_STRINGS" "Z" (.int w_COMPACT_STRINGS)) (E_a0 : Exa Z h0 a0 "java/lang/String") (F_coder_a0 : Fld Z h0 a0 "java/lang/String" "coder" "B" u_coder_a0) (F_value_a0 : Fld Z h0 a0 "java/lang/String" "value" "[B" u_value_a0) (gn_a0 : n0 ≤ a0) :
    OCtr l Z (⟨"java/lang/String", "<init>", "([C)V"⟩ : MethodName) jdk_42_method_3_code 2 none ws ({ frames := 3, cells := 1, slots := 2, locals := 52 } : Room) #[(.ref a0), (.ref a1)] h0 (Q2_2 Z a0 a1 kc c0 c1 w_COMPACT_STRINGS u_coder_a0 u_value_a0 h0 n0) := by
  refine OCtr.of (plainFor_of_name pn_2) ?_
  intro p e s m below meth c s₁ X0 hx hlk hZ hown0 hnm hby hml0 hret e0
  have hown : s.vm.findClass "java/lang/String" = some m.cls := hown0
  have hml : c.maxLocals = 2 := hml0
  have N0 := Fr.nil n0
  refine OGo.step (fun t k => castTop (ef_2_2 m a0 a1) k) ?_
  refine OGo.step (F' := s₁.setTop (mkF m 4 #[.val (.ref a0), .val (.ref a1)] [(.ref a1), (.int (0 : Int32)), (.ref a1), (.ref a0)])) (fun t kt => ?_) ?_
  · show Steps p.tables e below (s₁.setTop (mkF m 0 #[.val (.ref a0), .val (.ref a1)] [])) t
    refine XS.aloadN X0.here hx rfl (hb hby d2_0) rfl rfl ?_
    show Steps p.tables e below (s₁.setTop (mkF m 1 #[.val (.ref a0), .val (.ref a1)] [(.ref a0)])) t
    refine XS.aloadN X0.here hx rfl (hb hby d2_1) rfl rfl ?_
    show Steps p.tables e below (s₁.setTop (mkF m 2 #[.val (.ref a0), .val (.ref a1)] [(.ref a1), (.ref a0)])) t
    refine XS.iconst X0.here hx rfl (hb hby d2_2) ?_
    show Steps p.tables e below (s₁.setTop (mkF m 3 #[.val (.ref a0), .val (.ref a1)] [(.int (0 : Int32)), (.ref a1), (.ref a0)])) t
    refine XS.aloadN X0.here hx rfl (hb hby d2_3) rfl rfl ?_
    exact kt
  obtain ⟨cl1, Ar1, q1, S1, N1a, H1, G1⟩ := id (Vc_a1)
  refine OGo.step (F' := s₁.setTop (mkF m 5 #[.val (.ref a0), .val (.ref a1)] [(.int (2 : Int32)), (.int (0 : Int32)), (.ref a1), (.ref a0)])) (fun t kt => ?_) ?_
  · show Steps p.tables e below (s₁.setTop (mkF m 4 #[.val (.ref a0), .val (.ref a1)] [(.ref a1), (.int (0 : Int32)), (.ref a1), (.ref a0)])) t
    refine X0.arraylength hx (by rw [e0]; exact Ar1.1) (State.isArrayOf_alike hZ.alike Ar1.2.1) (g := (mkF m 4 #[.val (.ref a0), .val (.ref a1)] [(.ref a1), (.int (0 : Int32)), (.ref a1), (.ref a0)])) rfl rfl (hb hby d2_4) _ ?_
    rw [len_of S1 N1a]
    exact kt
  refine OGo.step (F' := s₁.setTop (mkF m 6 #[.val (.ref a0), .val (.ref a1)] [.null, (.int (2 : Int32)), (.int (0 : Int32)), (.ref a1), (.ref a0)])) (fun t kt => ?_) ?_
  · show Steps p.tables e below (s₁.setTop (mkF m 5 #[.val (.ref a0), .val (.ref a1)] [(.int (2 : Int32)), (.int (0 : Int32)), (.ref a1), (.ref a0)])) t
    refine XS.aconstNull X0.here hx rfl (hb hby d2_5) ?_
    exact kt
  refine OGo.callC X0 hx hZ (y := (⟨"java/lang/String", "<init>", "([CIILjava/lang/Void;)V"⟩ : MethodName)) rfl hown (own_wd hw 15 rfl) (own_wd hw 16 rfl) (own_wd hw 10 rfl) (own_wd hw 18 rfl) (by decide) (rm3_2 l Z az hw [] a0 a1 kc c0 c1 w_COMPACT_STRINGS u_coder_a0 u_value_a0 h0 n0 Z0 Vc_a1 hC hne h255_0 h255_1 S_String_COMPACT_STRINGS E_a0 F_coder_a0 gn_a0 F_value_a0) (W := 0) (by decide) (by decide) (b := a0) (g := (mkF m 6 #[.val (.ref a0), .val (.ref a1)] [.null, (.int (2 : Int32)), (.int (0 : Int32)), (.ref a1), (.ref a0)])) rfl (by rw [hml]; rfl) (argsL := [(.ref a1), (.int (0 : Int32)), (.int (2 : Int32)), .null]) (rest := []) (lenOf pd_2_2_0 rfl) rfl (by show 2 * 0 + _ ≤ _; exact Nat.le_of_eq rfl) (hb hby d2_6) rfl e0 (by decide) (by decide) ?_
  rintro _ T2 L2 X2 ⟨r2_t, rfl, Nq2, K2, P2_0, P2_1, P2_2, P2_3⟩
  have KC2 : Keep h0 T2.heap [a0] := (Keep.refl h0 [a0]).trans K2 (allS (Or.inl (List.mem_of_getElem? (i := 0) rfl)) all0)
  have N2 := Fr.app N0 Nq2
  show OGo _ _ _ _ _ _ _ (T2.setTop (mkF m 9 #[.val (.ref a0), .val (.ref a1)] []))
  refine OGo.retV X2 hx hlk hret (hb hby d2_9) ?_ (by decide) (by decide)
  show Q2_2 Z a0 a1 kc c0 c1 w_COMPACT_STRINGS u_coder_a0 u_value_a0 h0 n0 _ T2.heap _
  exact ⟨r2_t, rfl, N2, KC2, P2_0, P2_1, P2_2, P2_3⟩
/-! body 6: java/lang/StringUTF16.compress:([CI[BII)I -/
theorem ef_6_3 (m : MethodId) (x0 : Addr) (x2 : Addr) : entryFrame m #[(.ref x0), (.int (0 : Int32)), (.ref x2), (.int (0 : Int32)), (.int (3 : Int32))] 7 = mkF m 0 #[.val (.ref x0), .val (.int (0 : Int32)), .val (.ref x2), .val (.int (0 : Int32)), .val (.int (3 : Int32)), .unset, .unset] [] := by first | (simp [entryFrame, mkF, argsToLocals, Value.category]; done) | rfl
def f6_3  : Int32 :=
  (3 : Int32)
def Q6_3 (Z : State) (a0 : Addr) (a2 : Addr) (kc : ClassId) (kb : ClassId) (c0 : Int32) (c1 : Int32) (c2 : Int32) (h0 : Heap) (n0 : Nat) (v : Option Value) (h : Heap) (L : List Loc) : Prop := v = some (.int f6_3) ∧ Fr n0 L ∧ Keep h0 h [a2] ∧ Arv Z h a2 kb .byte (3 : Int32) [(.int (own_by c0)), (.int (own_by c1)), (.int (own_by c2))] (.int (0 : Int32))
set_option maxRecDepth 65536 in
set_option maxHeartbeats 40000000 in
theorem rm6_3 (l : Launch) (Z : State) (az : Array Value) (hw : ∀ d ∈ tables_1, d.before az Z = true) (ws : List Jvm.Cond) (a0 : Addr) (a2 : Addr) (kc : ClassId) (kb : ClassId) (c0 : Int32) (c1 : Int32) (c2 : Int32) (h0 : Heap) (n0 : Nat) (Z0 : n0 ≤ h0.size) (Vc_a0 : Arv Z h0 a0 kc .char (3 : Int32) [(.int c0), (.int c1), (.int c2)] (.int (0 : Int32))) (Vb_a2 : Arv Z h0 a2 kb .byte (3 : Int32) [(.int (0 : Int32)), (.int (0 : Int32)), (.int (0 : Int32))] (.int (0 : Int32))) (hne : a0 ≠ a2) (h255_0 : ¬ ((255 : Int32) < c0)) (h255_1 : ¬ ((255 : Int32) < c1)) (h255_2 : ¬ ((255 : Int32) < c2)) (gn_a2 : n0 ≤ a2) :
    OCtr l Z (⟨"java/lang/StringUTF16", "compress", "([CI[BII)I"⟩ : MethodName) jdk_52_method_21_code 7 (some .int) ws ({ frames := 0, cells := 0, slots := 0, locals := 0 } : Room) #[(.ref a0), (.int (0 : Int32)), (.ref a2), (.int (0 : Int32)), (.int (3 : Int32))] h0 (Q6_3 Z a0 a2 kc kb c0 c1 c2 h0 n0) := by
  refine OCtr.of (plainFor_of_name pn_6) ?_
  intro p e s m below meth c s₁ X0 hx hlk hZ hown0 hnm hby hml0 hret e0
  have hown : s.vm.findClass "java/lang/StringUTF16" = some m.cls := hown0
  have hml : c.maxLocals = 7 := hml0
  have N0 := Fr.nil n0
  refine OGo.step (fun t k => castTop (ef_6_3 m a0 a2) k) ?_
  refine OGo.step (F' := s₁.setTop (mkF m 12 #[.val (.ref a0), .val (.int (0 : Int32)), .val (.ref a2), .val (.int (0 : Int32)), .val (.int (3 : Int32)), .val (.int (0 : Int32)), .unset] [(.int (0 : Int32)), (.ref a0)])) (fun t kt => ?_) ?_
  · show Steps p.tables e below (s₁.setTop (mkF m 0 #[.val (.ref a0), .val (.int (0 : Int32)), .val (.ref a2), .val (.int (0 : Int32)), .val (.int (3 : Int32)), .unset, .unset] [])) t
    refine XS.iconst X0.here hx rfl (hb hby d6_0) ?_
    show Steps p.tables e below (s₁.setTop (mkF m 1 #[.val (.ref a0), .val (.int (0 : Int32)), .val (.ref a2), .val (.int (0 : Int32)), .val (.int (3 : Int32)), .unset, .unset] [(.int (0 : Int32))])) t
    refine XS.istore X0.here hx rfl (hb hby d6_1) rfl (l' := #[.val (.ref a0), .val (.int (0 : Int32)), .val (.ref a2), .val (.int (0 : Int32)), .val (.int (3 : Int32)), .val (.int (0 : Int32)), .unset]) rfl ?_
    show Steps p.tables e below (s₁.setTop (mkF m 3 #[.val (.ref a0), .val (.int (0 : Int32)), .val (.ref a2), .val (.int (0 : Int32)), .val (.int (3 : Int32)), .val (.int (0 : Int32)), .unset] [])) t
    refine XS.iload X0.here hx rfl (hb hby d6_3) rfl ?_
    show Steps p.tables e below (s₁.setTop (mkF m 5 #[.val (.ref a0), .val (.int (0 : Int32)), .val (.ref a2), .val (.int (0 : Int32)), .val (.int (3 : Int32)), .val (.int (0 : Int32)), .unset] [(.int (0 : Int32))])) t
    refine XS.iload X0.here hx rfl (hb hby d6_5) rfl ?_
    show Steps p.tables e below (s₁.setTop (mkF m 7 #[.val (.ref a0), .val (.int (0 : Int32)), .val (.ref a2), .val (.int (0 : Int32)), .val (.int (3 : Int32)), .val (.int (0 : Int32)), .unset] [(.int (3 : Int32)), (.int (0 : Int32))])) t
    refine XS.icmpNo X0.here hx rfl (hb hby d6_7) rfl (tlt (by decide : (0 : Int32) < (3 : Int32))).2.1 ?_
    show Steps p.tables e below (s₁.setTop (mkF m 10 #[.val (.ref a0), .val (.int (0 : Int32)), .val (.ref a2), .val (.int (0 : Int32)), .val (.int (3 : Int32)), .val (.int (0 : Int32)), .unset] [])) t
    refine XS.aloadN X0.here hx rfl (hb hby d6_10) rfl rfl ?_
    show Steps p.tables e below (s₁.setTop (mkF m 11 #[.val (.ref a0), .val (.int (0 : Int32)), .val (.ref a2), .val (.int (0 : Int32)), .val (.int (3 : Int32)), .val (.int (0 : Int32)), .unset] [(.ref a0)])) t
    refine XS.iloadN X0.here hx rfl (hb hby d6_11) rfl ?_
    exact kt
  obtain ⟨cl1, Ar1, q1, S1, N1a, H1, G1⟩ := id (Vc_a0)
  have hin1 : ¬ ((0 : Int32) < 0 ∨ cl1.slots.size ≤ ((0 : Int32)).toNatClampNeg) := inb_of S1 ⟨by decide, by decide⟩
  have hat1 : cl1.slots[((0 : Int32)).toNatClampNeg]? = some (.int c0) := H1.at hin1 rfl
  refine OGo.step (F' := s₁.setTop (mkF m 13 #[.val (.ref a0), .val (.int (0 : Int32)), .val (.ref a2), .val (.int (0 : Int32)), .val (.int (3 : Int32)), .val (.int (0 : Int32)), .unset] [(.int c0)])) (fun t kt => ?_) ?_
  · show Steps p.tables e below (s₁.setTop (mkF m 12 #[.val (.ref a0), .val (.int (0 : Int32)), .val (.ref a2), .val (.int (0 : Int32)), .val (.int (3 : Int32)), .val (.int (0 : Int32)), .unset] [(.int (0 : Int32)), (.ref a0)])) t
    refine X0.caload hx (j := (0 : Int32)) (v := (.int c0)) (by rw [e0]; exact Ar1.1) (State.isArrayOf_alike hZ.alike Ar1.2.1) Ar1.2.2 hin1 hat1 (g := (mkF m 12 #[.val (.ref a0), .val (.int (0 : Int32)), .val (.ref a2), .val (.int (0 : Int32)), .val (.int (3 : Int32)), .val (.int (0 : Int32)), .unset] [(.int (0 : Int32)), (.ref a0)])) rfl rfl (hb hby d6_12) _ ?_
    exact kt
  refine OGo.step (F' := s₁.setTop (mkF m 31 #[.val (.ref a0), .val (.int (0 : Int32)), .val (.ref a2), .val (.int (0 : Int32)), .val (.int (3 : Int32)), .val (.int (0 : Int32)), .val (.int c0)] [(.int (c0.toInt8.toInt32)), (.int (0 : Int32)), (.ref a2)])) (fun t kt => ?_) ?_
  · show Steps p.tables e below (s₁.setTop (mkF m 13 #[.val (.ref a0), .val (.int (0 : Int32)), .val (.ref a2), .val (.int (0 : Int32)), .val (.int (3 : Int32)), .val (.int (0 : Int32)), .unset] [(.int c0)])) t
    refine XS.istore X0.here hx rfl (hb hby d6_13) rfl (l' := #[.val (.ref a0), .val (.int (0 : Int32)), .val (.ref a2), .val (.int (0 : Int32)), .val (.int (3 : Int32)), .val (.int (0 : Int32)), .val (.int c0)]) rfl ?_
    show Steps p.tables e below (s₁.setTop (mkF m 15 #[.val (.ref a0), .val (.int (0 : Int32)), .val (.ref a2), .val (.int (0 : Int32)), .val (.int (3 : Int32)), .val (.int (0 : Int32)), .val (.int c0)] [])) t
    refine XS.iload X0.here hx rfl (hb hby d6_15) rfl ?_
    show Steps p.tables e below (s₁.setTop (mkF m 17 #[.val (.ref a0), .val (.int (0 : Int32)), .val (.ref a2), .val (.int (0 : Int32)), .val (.int (3 : Int32)), .val (.int (0 : Int32)), .val (.int c0)] [(.int c0)])) t
    refine XS.sipush X0.here hx rfl (hb hby d6_17) ?_
    show Steps p.tables e below (s₁.setTop (mkF m 20 #[.val (.ref a0), .val (.int (0 : Int32)), .val (.ref a2), .val (.int (0 : Int32)), .val (.int (3 : Int32)), .val (.int (0 : Int32)), .val (.int c0)] [(.int (255 : Int32)), (.int c0)])) t
    refine XS.icmpYes X0.here hx rfl (pc0 := 20) (pc' := 26) rfl (hb hby d6_20) rfl (flt h255_0).2.2.2 (by decide) (by decide) ?_
    show Steps p.tables e below (s₁.setTop (mkF m 26 #[.val (.ref a0), .val (.int (0 : Int32)), .val (.ref a2), .val (.int (0 : Int32)), .val (.int (3 : Int32)), .val (.int (0 : Int32)), .val (.int c0)] [])) t
    refine XS.aloadN X0.here hx rfl (hb hby d6_26) rfl rfl ?_
    show Steps p.tables e below (s₁.setTop (mkF m 27 #[.val (.ref a0), .val (.int (0 : Int32)), .val (.ref a2), .val (.int (0 : Int32)), .val (.int (3 : Int32)), .val (.int (0 : Int32)), .val (.int c0)] [(.ref a2)])) t
    refine XS.iloadN X0.here hx rfl (hb hby d6_27) rfl ?_
    show Steps p.tables e below (s₁.setTop (mkF m 28 #[.val (.ref a0), .val (.int (0 : Int32)), .val (.ref a2), .val (.int (0 : Int32)), .val (.int (3 : Int32)), .val (.int (0 : Int32)), .val (.int c0)] [(.int (0 : Int32)), (.ref a2)])) t
    refine XS.iload X0.here hx rfl (hb hby d6_28) rfl ?_
    show Steps p.tables e below (s₁.setTop (mkF m 30 #[.val (.ref a0), .val (.int (0 : Int32)), .val (.ref a2), .val (.int (0 : Int32)), .val (.int (3 : Int32)), .val (.int (0 : Int32)), .val (.int c0)] [(.int c0), (.int (0 : Int32)), (.ref a2)])) t
    refine XS.i2b X0.here hx rfl (hb hby d6_30) rfl ?_
    exact kt
  obtain ⟨cl2, Ar2, q2, S2, N2a, H2, G2⟩ := id (Vb_a2)
  have hin2 : ¬ ((0 : Int32) < 0 ∨ cl2.slots.size ≤ ((0 : Int32)).toNatClampNeg) := inb_of S2 ⟨by decide, by decide⟩
  obtain ⟨T2, h2, X2, e2, W2, st2⟩ := stB X0 hx hZ e0 Ar2 (j := (0 : Int32)) hin2 (g := (mkF m 31 #[.val (.ref a0), .val (.int (0 : Int32)), .val (.ref a2), .val (.int (0 : Int32)), .val (.int (3 : Int32)), .val (.int (0 : Int32)), .val (.int c0)] [(.int (c0.toInt8.toInt32)), (.int (0 : Int32)), (.ref a2)])) rfl rfl (hb hby d6_31)
  have V2 : Arv Z h2 a2 kb .byte (3 : Int32) [(.int (own_by c0)), (.int (0 : Int32)), (.int (0 : Int32))] (.int (0 : Int32)) := Arv.set Ar2 q2 S2 N2a H2 G2 (fits_nar_byte _) W2 0 rfl (Nat.le_of_ble_eq_true rfl)
  have KC2 : Keep h0 h2 [a2] := (Keep.refl h0 [a2]).wr W2 (Or.inl (List.mem_of_getElem? (i := 0) rfl))
  have N2 := Fr.snoc X2 N0 gn_a2
  refine OGo.step st2 ?_
  show OGo _ _ _ _ _ _ _ (T2.setTop (mkF m 32 #[.val (.ref a0), .val (.int (0 : Int32)), .val (.ref a2), .val (.int (0 : Int32)), .val (.int (3 : Int32)), .val (.int (0 : Int32)), .val (.int c0)] []))
  refine OGo.step (F' := T2.setTop (mkF m 12 #[.val (.ref a0), .val (.int (1 : Int32)), .val (.ref a2), .val (.int (1 : Int32)), .val (.int (3 : Int32)), .val (.int (1 : Int32)), .val (.int c0)] [(.int (1 : Int32)), (.ref a0)])) (fun t kt => ?_) ?_
  · show Steps p.tables e below (T2.setTop (mkF m 32 #[.val (.ref a0), .val (.int (0 : Int32)), .val (.ref a2), .val (.int (0 : Int32)), .val (.int (3 : Int32)), .val (.int (0 : Int32)), .val (.int c0)] [])) t
    refine XS.iinc X2.here hx rfl (hb hby d6_32) rfl (l' := #[.val (.ref a0), .val (.int (1 : Int32)), .val (.ref a2), .val (.int (0 : Int32)), .val (.int (3 : Int32)), .val (.int (0 : Int32)), .val (.int c0)]) rfl ?_
    show Steps p.tables e below (T2.setTop (mkF m 35 #[.val (.ref a0), .val (.int (1 : Int32)), .val (.ref a2), .val (.int (0 : Int32)), .val (.int (3 : Int32)), .val (.int (0 : Int32)), .val (.int c0)] [])) t
    refine XS.iinc X2.here hx rfl (hb hby d6_35) rfl (l' := #[.val (.ref a0), .val (.int (1 : Int32)), .val (.ref a2), .val (.int (1 : Int32)), .val (.int (3 : Int32)), .val (.int (0 : Int32)), .val (.int c0)]) rfl ?_
    show Steps p.tables e below (T2.setTop (mkF m 38 #[.val (.ref a0), .val (.int (1 : Int32)), .val (.ref a2), .val (.int (1 : Int32)), .val (.int (3 : Int32)), .val (.int (0 : Int32)), .val (.int c0)] [])) t
    refine XS.iinc X2.here hx rfl (hb hby d6_38) rfl (l' := #[.val (.ref a0), .val (.int (1 : Int32)), .val (.ref a2), .val (.int (1 : Int32)), .val (.int (3 : Int32)), .val (.int (1 : Int32)), .val (.int c0)]) rfl ?_
    show Steps p.tables e below (T2.setTop (mkF m 41 #[.val (.ref a0), .val (.int (1 : Int32)), .val (.ref a2), .val (.int (1 : Int32)), .val (.int (3 : Int32)), .val (.int (1 : Int32)), .val (.int c0)] [])) t
    refine XS.goto X2.here hx rfl (pc0 := 41) (pc' := 3) rfl (hb hby d6_41) (by decide) (by decide) ?_
    show Steps p.tables e below (T2.setTop (mkF m 3 #[.val (.ref a0), .val (.int (1 : Int32)), .val (.ref a2), .val (.int (1 : Int32)), .val (.int (3 : Int32)), .val (.int (1 : Int32)), .val (.int c0)] [])) t
    refine XS.iload X2.here hx rfl (hb hby d6_3) rfl ?_
    show Steps p.tables e below (T2.setTop (mkF m 5 #[.val (.ref a0), .val (.int (1 : Int32)), .val (.ref a2), .val (.int (1 : Int32)), .val (.int (3 : Int32)), .val (.int (1 : Int32)), .val (.int c0)] [(.int (1 : Int32))])) t
    refine XS.iload X2.here hx rfl (hb hby d6_5) rfl ?_
    show Steps p.tables e below (T2.setTop (mkF m 7 #[.val (.ref a0), .val (.int (1 : Int32)), .val (.ref a2), .val (.int (1 : Int32)), .val (.int (3 : Int32)), .val (.int (1 : Int32)), .val (.int c0)] [(.int (3 : Int32)), (.int (1 : Int32))])) t
    refine XS.icmpNo X2.here hx rfl (hb hby d6_7) rfl (tlt (by decide : (1 : Int32) < (3 : Int32))).2.1 ?_
    show Steps p.tables e below (T2.setTop (mkF m 10 #[.val (.ref a0), .val (.int (1 : Int32)), .val (.ref a2), .val (.int (1 : Int32)), .val (.int (3 : Int32)), .val (.int (1 : Int32)), .val (.int c0)] [])) t
    refine XS.aloadN X2.here hx rfl (hb hby d6_10) rfl rfl ?_
    show Steps p.tables e below (T2.setTop (mkF m 11 #[.val (.ref a0), .val (.int (1 : Int32)), .val (.ref a2), .val (.int (1 : Int32)), .val (.int (3 : Int32)), .val (.int (1 : Int32)), .val (.int c0)] [(.ref a0)])) t
    refine XS.iloadN X2.here hx rfl (hb hby d6_11) rfl ?_
    exact kt
  obtain ⟨cl3, Ar3, q3, S3, N3a, H3, G3⟩ := id ((Vc_a0.other W2 hne))
  have hin3 : ¬ ((1 : Int32) < 0 ∨ cl3.slots.size ≤ ((1 : Int32)).toNatClampNeg) := inb_of S3 ⟨by decide, by decide⟩
  have hat3 : cl3.slots[((1 : Int32)).toNatClampNeg]? = some (.int c1) := H3.at hin3 rfl
  refine OGo.step (F' := T2.setTop (mkF m 13 #[.val (.ref a0), .val (.int (1 : Int32)), .val (.ref a2), .val (.int (1 : Int32)), .val (.int (3 : Int32)), .val (.int (1 : Int32)), .val (.int c0)] [(.int c1)])) (fun t kt => ?_) ?_
  · show Steps p.tables e below (T2.setTop (mkF m 12 #[.val (.ref a0), .val (.int (1 : Int32)), .val (.ref a2), .val (.int (1 : Int32)), .val (.int (3 : Int32)), .val (.int (1 : Int32)), .val (.int c0)] [(.int (1 : Int32)), (.ref a0)])) t
    refine X2.caload hx (j := (1 : Int32)) (v := (.int c1)) (by rw [e2]; exact Ar3.1) (State.isArrayOf_alike hZ.alike Ar3.2.1) Ar3.2.2 hin3 hat3 (g := (mkF m 12 #[.val (.ref a0), .val (.int (1 : Int32)), .val (.ref a2), .val (.int (1 : Int32)), .val (.int (3 : Int32)), .val (.int (1 : Int32)), .val (.int c0)] [(.int (1 : Int32)), (.ref a0)])) rfl rfl (hb hby d6_12) _ ?_
    exact kt
  refine OGo.step (F' := T2.setTop (mkF m 31 #[.val (.ref a0), .val (.int (1 : Int32)), .val (.ref a2), .val (.int (1 : Int32)), .val (.int (3 : Int32)), .val (.int (1 : Int32)), .val (.int c1)] [(.int (c1.toInt8.toInt32)), (.int (1 : Int32)), (.ref a2)])) (fun t kt => ?_) ?_
  · show Steps p.tables e below (T2.setTop (mkF m 13 #[.val (.ref a0), .val (.int (1 : Int32)), .val (.ref a2), .val (.int (1 : Int32)), .val (.int (3 : Int32)), .val (.int (1 : Int32)), .val (.int c0)] [(.int c1)])) t
    refine XS.istore X2.here hx rfl (hb hby d6_13) rfl (l' := #[.val (.ref a0), .val (.int (1 : Int32)), .val (.ref a2), .val (.int (1 : Int32)), .val (.int (3 : Int32)), .val (.int (1 : Int32)), .val (.int c1)]) rfl ?_
    show Steps p.tables e below (T2.setTop (mkF m 15 #[.val (.ref a0), .val (.int (1 : Int32)), .val (.ref a2), .val (.int (1 : Int32)), .val (.int (3 : Int32)), .val (.int (1 : Int32)), .val (.int c1)] [])) t
    refine XS.iload X2.here hx rfl (hb hby d6_15) rfl ?_
    show Steps p.tables e below (T2.setTop (mkF m 17 #[.val (.ref a0), .val (.int (1 : Int32)), .val (.ref a2), .val (.int (1 : Int32)), .val (.int (3 : Int32)), .val (.int (1 : Int32)), .val (.int c1)] [(.int c1)])) t
    refine XS.sipush X2.here hx rfl (hb hby d6_17) ?_
    show Steps p.tables e below (T2.setTop (mkF m 20 #[.val (.ref a0), .val (.int (1 : Int32)), .val (.ref a2), .val (.int (1 : Int32)), .val (.int (3 : Int32)), .val (.int (1 : Int32)), .val (.int c1)] [(.int (255 : Int32)), (.int c1)])) t
    refine XS.icmpYes X2.here hx rfl (pc0 := 20) (pc' := 26) rfl (hb hby d6_20) rfl (flt h255_1).2.2.2 (by decide) (by decide) ?_
    show Steps p.tables e below (T2.setTop (mkF m 26 #[.val (.ref a0), .val (.int (1 : Int32)), .val (.ref a2), .val (.int (1 : Int32)), .val (.int (3 : Int32)), .val (.int (1 : Int32)), .val (.int c1)] [])) t
    refine XS.aloadN X2.here hx rfl (hb hby d6_26) rfl rfl ?_
    show Steps p.tables e below (T2.setTop (mkF m 27 #[.val (.ref a0), .val (.int (1 : Int32)), .val (.ref a2), .val (.int (1 : Int32)), .val (.int (3 : Int32)), .val (.int (1 : Int32)), .val (.int c1)] [(.ref a2)])) t
    refine XS.iloadN X2.here hx rfl (hb hby d6_27) rfl ?_
    show Steps p.tables e below (T2.setTop (mkF m 28 #[.val (.ref a0), .val (.int (1 : Int32)), .val (.ref a2), .val (.int (1 : Int32)), .val (.int (3 : Int32)), .val (.int (1 : Int32)), .val (.int c1)] [(.int (1 : Int32)), (.ref a2)])) t
    refine XS.iload X2.here hx rfl (hb hby d6_28) rfl ?_
    show Steps p.tables e below (T2.setTop (mkF m 30 #[.val (.ref a0), .val (.int (1 : Int32)), .val (.ref a2), .val (.int (1 : Int32)), .val (.int (3 : Int32)), .val (.int (1 : Int32)), .val (.int c1)] [(.int c1), (.int (1 : Int32)), (.ref a2)])) t
    refine XS.i2b X2.here hx rfl (hb hby d6_30) rfl ?_
    exact kt
  obtain ⟨cl4, Ar4, q4, S4, N4a, H4, G4⟩ := id (V2)
  have hin4 : ¬ ((1 : Int32) < 0 ∨ cl4.slots.size ≤ ((1 : Int32)).toNatClampNeg) := inb_of S4 ⟨by decide, by decide⟩
  obtain ⟨T4, h4, X4, e4, W4, st4⟩ := stB X2 hx hZ e2 Ar4 (j := (1 : Int32)) hin4 (g := (mkF m 31 #[.val (.ref a0), .val (.int (1 : Int32)), .val (.ref a2), .val (.int (1 : Int32)), .val (.int (3 : Int32)), .val (.int (1 : Int32)), .val (.int c1)] [(.int (c1.toInt8.toInt32)), (.int (1 : Int32)), (.ref a2)])) rfl rfl (hb hby d6_31)
  have V4 : Arv Z h4 a2 kb .byte (3 : Int32) [(.int (own_by c0)), (.int (own_by c1)), (.int (0 : Int32))] (.int (0 : Int32)) := Arv.set Ar4 q4 S4 N4a H4 G4 (fits_nar_byte _) W4 1 rfl (Nat.le_of_ble_eq_true rfl)
  have KC4 : Keep h0 h4 [a2] := KC2.wr W4 (Or.inl (List.mem_of_getElem? (i := 0) rfl))
  have N4 := Fr.snoc X4 N2 gn_a2
  refine OGo.step st4 ?_
  show OGo _ _ _ _ _ _ _ (T4.setTop (mkF m 32 #[.val (.ref a0), .val (.int (1 : Int32)), .val (.ref a2), .val (.int (1 : Int32)), .val (.int (3 : Int32)), .val (.int (1 : Int32)), .val (.int c1)] []))
  refine OGo.step (F' := T4.setTop (mkF m 12 #[.val (.ref a0), .val (.int (2 : Int32)), .val (.ref a2), .val (.int (2 : Int32)), .val (.int (3 : Int32)), .val (.int (2 : Int32)), .val (.int c1)] [(.int (2 : Int32)), (.ref a0)])) (fun t kt => ?_) ?_
  · show Steps p.tables e below (T4.setTop (mkF m 32 #[.val (.ref a0), .val (.int (1 : Int32)), .val (.ref a2), .val (.int (1 : Int32)), .val (.int (3 : Int32)), .val (.int (1 : Int32)), .val (.int c1)] [])) t
    refine XS.iinc X4.here hx rfl (hb hby d6_32) rfl (l' := #[.val (.ref a0), .val (.int (2 : Int32)), .val (.ref a2), .val (.int (1 : Int32)), .val (.int (3 : Int32)), .val (.int (1 : Int32)), .val (.int c1)]) rfl ?_
    show Steps p.tables e below (T4.setTop (mkF m 35 #[.val (.ref a0), .val (.int (2 : Int32)), .val (.ref a2), .val (.int (1 : Int32)), .val (.int (3 : Int32)), .val (.int (1 : Int32)), .val (.int c1)] [])) t
    refine XS.iinc X4.here hx rfl (hb hby d6_35) rfl (l' := #[.val (.ref a0), .val (.int (2 : Int32)), .val (.ref a2), .val (.int (2 : Int32)), .val (.int (3 : Int32)), .val (.int (1 : Int32)), .val (.int c1)]) rfl ?_
    show Steps p.tables e below (T4.setTop (mkF m 38 #[.val (.ref a0), .val (.int (2 : Int32)), .val (.ref a2), .val (.int (2 : Int32)), .val (.int (3 : Int32)), .val (.int (1 : Int32)), .val (.int c1)] [])) t
    refine XS.iinc X4.here hx rfl (hb hby d6_38) rfl (l' := #[.val (.ref a0), .val (.int (2 : Int32)), .val (.ref a2), .val (.int (2 : Int32)), .val (.int (3 : Int32)), .val (.int (2 : Int32)), .val (.int c1)]) rfl ?_
    show Steps p.tables e below (T4.setTop (mkF m 41 #[.val (.ref a0), .val (.int (2 : Int32)), .val (.ref a2), .val (.int (2 : Int32)), .val (.int (3 : Int32)), .val (.int (2 : Int32)), .val (.int c1)] [])) t
    refine XS.goto X4.here hx rfl (pc0 := 41) (pc' := 3) rfl (hb hby d6_41) (by decide) (by decide) ?_
    show Steps p.tables e below (T4.setTop (mkF m 3 #[.val (.ref a0), .val (.int (2 : Int32)), .val (.ref a2), .val (.int (2 : Int32)), .val (.int (3 : Int32)), .val (.int (2 : Int32)), .val (.int c1)] [])) t
    refine XS.iload X4.here hx rfl (hb hby d6_3) rfl ?_
    show Steps p.tables e below (T4.setTop (mkF m 5 #[.val (.ref a0), .val (.int (2 : Int32)), .val (.ref a2), .val (.int (2 : Int32)), .val (.int (3 : Int32)), .val (.int (2 : Int32)), .val (.int c1)] [(.int (2 : Int32))])) t
    refine XS.iload X4.here hx rfl (hb hby d6_5) rfl ?_
    show Steps p.tables e below (T4.setTop (mkF m 7 #[.val (.ref a0), .val (.int (2 : Int32)), .val (.ref a2), .val (.int (2 : Int32)), .val (.int (3 : Int32)), .val (.int (2 : Int32)), .val (.int c1)] [(.int (3 : Int32)), (.int (2 : Int32))])) t
    refine XS.icmpNo X4.here hx rfl (hb hby d6_7) rfl (tlt (by decide : (2 : Int32) < (3 : Int32))).2.1 ?_
    show Steps p.tables e below (T4.setTop (mkF m 10 #[.val (.ref a0), .val (.int (2 : Int32)), .val (.ref a2), .val (.int (2 : Int32)), .val (.int (3 : Int32)), .val (.int (2 : Int32)), .val (.int c1)] [])) t
    refine XS.aloadN X4.here hx rfl (hb hby d6_10) rfl rfl ?_
    show Steps p.tables e below (T4.setTop (mkF m 11 #[.val (.ref a0), .val (.int (2 : Int32)), .val (.ref a2), .val (.int (2 : Int32)), .val (.int (3 : Int32)), .val (.int (2 : Int32)), .val (.int c1)] [(.ref a0)])) t
    refine XS.iloadN X4.here hx rfl (hb hby d6_11) rfl ?_
    exact kt
  obtain ⟨cl5, Ar5, q5, S5, N5a, H5, G5⟩ := id (((Vc_a0.other W2 hne).other W4 hne))
  have hin5 : ¬ ((2 : Int32) < 0 ∨ cl5.slots.size ≤ ((2 : Int32)).toNatClampNeg) := inb_of S5 ⟨by decide, by decide⟩
  have hat5 : cl5.slots[((2 : Int32)).toNatClampNeg]? = some (.int c2) := H5.at hin5 rfl
  refine OGo.step (F' := T4.setTop (mkF m 13 #[.val (.ref a0), .val (.int (2 : Int32)), .val (.ref a2), .val (.int (2 : Int32)), .val (.int (3 : Int32)), .val (.int (2 : Int32)), .val (.int c1)] [(.int c2)])) (fun t kt => ?_) ?_
  · show Steps p.tables e below (T4.setTop (mkF m 12 #[.val (.ref a0), .val (.int (2 : Int32)), .val (.ref a2), .val (.int (2 : Int32)), .val (.int (3 : Int32)), .val (.int (2 : Int32)), .val (.int c1)] [(.int (2 : Int32)), (.ref a0)])) t
    refine X4.caload hx (j := (2 : Int32)) (v := (.int c2)) (by rw [e4]; exact Ar5.1) (State.isArrayOf_alike hZ.alike Ar5.2.1) Ar5.2.2 hin5 hat5 (g := (mkF m 12 #[.val (.ref a0), .val (.int (2 : Int32)), .val (.ref a2), .val (.int (2 : Int32)), .val (.int (3 : Int32)), .val (.int (2 : Int32)), .val (.int c1)] [(.int (2 : Int32)), (.ref a0)])) rfl rfl (hb hby d6_12) _ ?_
    exact kt
  refine OGo.step (F' := T4.setTop (mkF m 31 #[.val (.ref a0), .val (.int (2 : Int32)), .val (.ref a2), .val (.int (2 : Int32)), .val (.int (3 : Int32)), .val (.int (2 : Int32)), .val (.int c2)] [(.int (c2.toInt8.toInt32)), (.int (2 : Int32)), (.ref a2)])) (fun t kt => ?_) ?_
  · show Steps p.tables e below (T4.setTop (mkF m 13 #[.val (.ref a0), .val (.int (2 : Int32)), .val (.ref a2), .val (.int (2 : Int32)), .val (.int (3 : Int32)), .val (.int (2 : Int32)), .val (.int c1)] [(.int c2)])) t
    refine XS.istore X4.here hx rfl (hb hby d6_13) rfl (l' := #[.val (.ref a0), .val (.int (2 : Int32)), .val (.ref a2), .val (.int (2 : Int32)), .val (.int (3 : Int32)), .val (.int (2 : Int32)), .val (.int c2)]) rfl ?_
    show Steps p.tables e below (T4.setTop (mkF m 15 #[.val (.ref a0), .val (.int (2 : Int32)), .val (.ref a2), .val (.int (2 : Int32)), .val (.int (3 : Int32)), .val (.int (2 : Int32)), .val (.int c2)] [])) t
    refine XS.iload X4.here hx rfl (hb hby d6_15) rfl ?_
    show Steps p.tables e below (T4.setTop (mkF m 17 #[.val (.ref a0), .val (.int (2 : Int32)), .val (.ref a2), .val (.int (2 : Int32)), .val (.int (3 : Int32)), .val (.int (2 : Int32)), .val (.int c2)] [(.int c2)])) t
    refine XS.sipush X4.here hx rfl (hb hby d6_17) ?_
    show Steps p.tables e below (T4.setTop (mkF m 20 #[.val (.ref a0), .val (.int (2 : Int32)), .val (.ref a2), .val (.int (2 : Int32)), .val (.int (3 : Int32)), .val (.int (2 : Int32)), .val (.int c2)] [(.int (255 : Int32)), (.int c2)])) t
    refine XS.icmpYes X4.here hx rfl (pc0 := 20) (pc' := 26) rfl (hb hby d6_20) rfl (flt h255_2).2.2.2 (by decide) (by decide) ?_
    show Steps p.tables e below (T4.setTop (mkF m 26 #[.val (.ref a0), .val (.int (2 : Int32)), .val (.ref a2), .val (.int (2 : Int32)), .val (.int (3 : Int32)), .val (.int (2 : Int32)), .val (.int c2)] [])) t
    refine XS.aloadN X4.here hx rfl (hb hby d6_26) rfl rfl ?_
    show Steps p.tables e below (T4.setTop (mkF m 27 #[.val (.ref a0), .val (.int (2 : Int32)), .val (.ref a2), .val (.int (2 : Int32)), .val (.int (3 : Int32)), .val (.int (2 : Int32)), .val (.int c2)] [(.ref a2)])) t
    refine XS.iloadN X4.here hx rfl (hb hby d6_27) rfl ?_
    show Steps p.tables e below (T4.setTop (mkF m 28 #[.val (.ref a0), .val (.int (2 : Int32)), .val (.ref a2), .val (.int (2 : Int32)), .val (.int (3 : Int32)), .val (.int (2 : Int32)), .val (.int c2)] [(.int (2 : Int32)), (.ref a2)])) t
    refine XS.iload X4.here hx rfl (hb hby d6_28) rfl ?_
    show Steps p.tables e below (T4.setTop (mkF m 30 #[.val (.ref a0), .val (.int (2 : Int32)), .val (.ref a2), .val (.int (2 : Int32)), .val (.int (3 : Int32)), .val (.int (2 : Int32)), .val (.int c2)] [(.int c2), (.int (2 : Int32)), (.ref a2)])) t
    refine XS.i2b X4.here hx rfl (hb hby d6_30) rfl ?_
    exact kt
  obtain ⟨cl6, Ar6, q6, S6, N6a, H6, G6⟩ := id (V4)
  have hin6 : ¬ ((2 : Int32) < 0 ∨ cl6.slots.size ≤ ((2 : Int32)).toNatClampNeg) := inb_of S6 ⟨by decide, by decide⟩
  obtain ⟨T6, h6, X6, e6, W6, st6⟩ := stB X4 hx hZ e4 Ar6 (j := (2 : Int32)) hin6 (g := (mkF m 31 #[.val (.ref a0), .val (.int (2 : Int32)), .val (.ref a2), .val (.int (2 : Int32)), .val (.int (3 : Int32)), .val (.int (2 : Int32)), .val (.int c2)] [(.int (c2.toInt8.toInt32)), (.int (2 : Int32)), (.ref a2)])) rfl rfl (hb hby d6_31)
  have V6 : Arv Z h6 a2 kb .byte (3 : Int32) [(.int (own_by c0)), (.int (own_by c1)), (.int (own_by c2))] (.int (0 : Int32)) := Arv.set Ar6 q6 S6 N6a H6 G6 (fits_nar_byte _) W6 2 rfl (Nat.le_of_ble_eq_true rfl)
  have KC6 : Keep h0 h6 [a2] := KC4.wr W6 (Or.inl (List.mem_of_getElem? (i := 0) rfl))
  have N6 := Fr.snoc X6 N4 gn_a2
  refine OGo.step st6 ?_
  show OGo _ _ _ _ _ _ _ (T6.setTop (mkF m 32 #[.val (.ref a0), .val (.int (2 : Int32)), .val (.ref a2), .val (.int (2 : Int32)), .val (.int (3 : Int32)), .val (.int (2 : Int32)), .val (.int c2)] []))
  refine OGo.step (F' := T6.setTop (mkF m 46 #[.val (.ref a0), .val (.int (3 : Int32)), .val (.ref a2), .val (.int (3 : Int32)), .val (.int (3 : Int32)), .val (.int (3 : Int32)), .val (.int c2)] [(.int (3 : Int32))])) (fun t kt => ?_) ?_
  · show Steps p.tables e below (T6.setTop (mkF m 32 #[.val (.ref a0), .val (.int (2 : Int32)), .val (.ref a2), .val (.int (2 : Int32)), .val (.int (3 : Int32)), .val (.int (2 : Int32)), .val (.int c2)] [])) t
    refine XS.iinc X6.here hx rfl (hb hby d6_32) rfl (l' := #[.val (.ref a0), .val (.int (3 : Int32)), .val (.ref a2), .val (.int (2 : Int32)), .val (.int (3 : Int32)), .val (.int (2 : Int32)), .val (.int c2)]) rfl ?_
    show Steps p.tables e below (T6.setTop (mkF m 35 #[.val (.ref a0), .val (.int (3 : Int32)), .val (.ref a2), .val (.int (2 : Int32)), .val (.int (3 : Int32)), .val (.int (2 : Int32)), .val (.int c2)] [])) t
    refine XS.iinc X6.here hx rfl (hb hby d6_35) rfl (l' := #[.val (.ref a0), .val (.int (3 : Int32)), .val (.ref a2), .val (.int (3 : Int32)), .val (.int (3 : Int32)), .val (.int (2 : Int32)), .val (.int c2)]) rfl ?_
    show Steps p.tables e below (T6.setTop (mkF m 38 #[.val (.ref a0), .val (.int (3 : Int32)), .val (.ref a2), .val (.int (3 : Int32)), .val (.int (3 : Int32)), .val (.int (2 : Int32)), .val (.int c2)] [])) t
    refine XS.iinc X6.here hx rfl (hb hby d6_38) rfl (l' := #[.val (.ref a0), .val (.int (3 : Int32)), .val (.ref a2), .val (.int (3 : Int32)), .val (.int (3 : Int32)), .val (.int (3 : Int32)), .val (.int c2)]) rfl ?_
    show Steps p.tables e below (T6.setTop (mkF m 41 #[.val (.ref a0), .val (.int (3 : Int32)), .val (.ref a2), .val (.int (3 : Int32)), .val (.int (3 : Int32)), .val (.int (3 : Int32)), .val (.int c2)] [])) t
    refine XS.goto X6.here hx rfl (pc0 := 41) (pc' := 3) rfl (hb hby d6_41) (by decide) (by decide) ?_
    show Steps p.tables e below (T6.setTop (mkF m 3 #[.val (.ref a0), .val (.int (3 : Int32)), .val (.ref a2), .val (.int (3 : Int32)), .val (.int (3 : Int32)), .val (.int (3 : Int32)), .val (.int c2)] [])) t
    refine XS.iload X6.here hx rfl (hb hby d6_3) rfl ?_
    show Steps p.tables e below (T6.setTop (mkF m 5 #[.val (.ref a0), .val (.int (3 : Int32)), .val (.ref a2), .val (.int (3 : Int32)), .val (.int (3 : Int32)), .val (.int (3 : Int32)), .val (.int c2)] [(.int (3 : Int32))])) t
    refine XS.iload X6.here hx rfl (hb hby d6_5) rfl ?_
    show Steps p.tables e below (T6.setTop (mkF m 7 #[.val (.ref a0), .val (.int (3 : Int32)), .val (.ref a2), .val (.int (3 : Int32)), .val (.int (3 : Int32)), .val (.int (3 : Int32)), .val (.int c2)] [(.int (3 : Int32)), (.int (3 : Int32))])) t
    refine XS.icmpYes X6.here hx rfl (pc0 := 7) (pc' := 44) rfl (hb hby d6_7) rfl (flt (by decide : ¬ ((3 : Int32) < (3 : Int32)))).2.1 (by decide) (by decide) ?_
    show Steps p.tables e below (T6.setTop (mkF m 44 #[.val (.ref a0), .val (.int (3 : Int32)), .val (.ref a2), .val (.int (3 : Int32)), .val (.int (3 : Int32)), .val (.int (3 : Int32)), .val (.int c2)] [])) t
    refine XS.iload X6.here hx rfl (hb hby d6_44) rfl ?_
    exact kt
  refine OGo.retI X6 hx hlk hret (hb hby d6_46) ?_ (by decide) (by decide)
  show Q6_3 Z a0 a2 kc kb c0 c1 c2 h0 n0 _ T6.heap _
  rw [e6]
  exact ⟨(by rw [f6_3]), N6, KC6, V6⟩
/-! body 5: java/lang/StringUTF16.compress:([CII)[B -/
theorem pd_5_3_0 : parseMethodDescriptor "([CI[BII)I" = some ⟨[(.array .char), .int, (.array .byte), .int, .int], some .int⟩ := by decide +kernel
theorem ef_5_3 (m : MethodId) (x0 : Addr) : entryFrame m #[(.ref x0), (.int (0 : Int32)), (.int (3 : Int32))] 6 = mkF m 0 #[.val (.ref x0), .val (.int (0 : Int32)), .val (.int (3 : Int32)), .unset, .unset, .unset] [] := by first | (simp [entryFrame, mkF, argsToLocals, Value.category]; done) | rfl
def Q5_3 (Z : State) (a0 : Addr) (kc : ClassId) (c0 : Int32) (c1 : Int32) (c2 : Int32) (h0 : Heap) (n0 : Nat) (v : Option Value) (h : Heap) (L : List Loc) : Prop := ∃ t : Addr, v = some (.ref t) ∧ Fr n0 L ∧ Keep h0 h [] ∧ h0.size ≤ t ∧ OBs Z h t [(own_by c0), (own_by c1), (own_by c2)]
set_option maxRecDepth 65536 in
set_option maxHeartbeats 40000000 in
theorem rm5_3 (l : Launch) (Z : State) (az : Array Value) (hw : ∀ d ∈ tables_1, d.before az Z = true) (ws : List Jvm.Cond) (a0 : Addr) (kc : ClassId) (c0 : Int32) (c1 : Int32) (c2 : Int32) (h0 : Heap) (n0 : Nat) (Z0 : n0 ≤ h0.size) (Vc_a0 : Arv Z h0 a0 kc .char (3 : Int32) [(.int c0), (.int c1), (.int c2)] (.int (0 : Int32))) (h255_0 : ¬ ((255 : Int32) < c0)) (h255_1 : ¬ ((255 : Int32) < c1)) (h255_2 : ¬ ((255 : Int32) < c2)) :
    OCtr l Z (⟨"java/lang/StringUTF16", "compress", "([CII)[B"⟩ : MethodName) jdk_52_method_16_code 6 (some (.array .byte)) ws ({ frames := 1, cells := 1, slots := 3, locals := 18 } : Room) #[(.ref a0), (.int (0 : Int32)), (.int (3 : Int32))] h0 (Q5_3 Z a0 kc c0 c1 c2 h0 n0) := by
  refine OCtr.of (plainFor_of_name pn_5) ?_
  intro p e s m below meth c s₁ X0 hx hlk hZ hown0 hnm hby hml0 hret e0
  have hown : s.vm.findClass "java/lang/StringUTF16" = some m.cls := hown0
  have hml : c.maxLocals = 6 := hml0
  have N0 := Fr.nil n0
  refine OGo.step (fun t k => castTop (ef_5_3 m a0) k) ?_
  refine OGo.step (F' := s₁.setTop (mkF m 1 #[.val (.ref a0), .val (.int (0 : Int32)), .val (.int (3 : Int32)), .unset, .unset, .unset] [(.int (3 : Int32))])) (fun t kt => ?_) ?_
  · show Steps p.tables e below (s₁.setTop (mkF m 0 #[.val (.ref a0), .val (.int (0 : Int32)), .val (.int (3 : Int32)), .unset, .unset, .unset] [])) t
    refine XS.iloadN X0.here hx rfl (hb hby d5_0) rfl ?_
    exact kt
  obtain ⟨T1, h1, k1, X1, e1, E1, A1, st1⟩ := newP X0 hx hZ (own_wd hw 27 rfl) e0 (g := (mkF m 1 #[.val (.ref a0), .val (.int (0 : Int32)), .val (.int (3 : Int32)), .unset, .unset, .unset] [(.int (3 : Int32))])) rfl (hb hby d5_1) rfl (by decide) (cap := 3) (by decide) (by decide) (by decide) (by decide)
  obtain ⟨b1, g1⟩ : ∃ z, z = h0.size := ⟨_, rfl⟩
  rw [← g1] at A1 st1
  have sz_b1 : h0.size ≤ b1 := Nat.le_trans (Keep.refl h0 []).1 (Nat.le_of_eq g1.symm)
  have gn_b1 : n0 ≤ b1 := Nat.le_trans Z0 sz_b1
  have KC1 : Keep h0 h1 [] := (Keep.refl h0 []).ext E1
  have V1 : Arv Z h1 b1 k1 .byte (3 : Int32) [(.int (0 : Int32)), (.int (0 : Int32)), (.int (0 : Int32))] (.int (0 : Int32)) := (Arv.new A1 (by decide)).pad (pad_rep [] (.int (0 : Int32)) 3)
  refine OGo.step st1 ?_
  show OGo _ _ _ _ _ _ _ (T1.setTop (mkF m 3 #[.val (.ref a0), .val (.int (0 : Int32)), .val (.int (3 : Int32)), .unset, .unset, .unset] [(.ref b1)]))
  refine OGo.step (F' := T1.setTop (mkF m 9 #[.val (.ref a0), .val (.int (0 : Int32)), .val (.int (3 : Int32)), .val (.ref b1), .unset, .unset] [(.int (3 : Int32)), (.int (0 : Int32)), (.ref b1), (.int (0 : Int32)), (.ref a0)])) (fun t kt => ?_) ?_
  · show Steps p.tables e below (T1.setTop (mkF m 3 #[.val (.ref a0), .val (.int (0 : Int32)), .val (.int (3 : Int32)), .unset, .unset, .unset] [(.ref b1)])) t
    refine XS.astoreN X1.here hx rfl (hb hby d5_3) rfl rfl (l' := #[.val (.ref a0), .val (.int (0 : Int32)), .val (.int (3 : Int32)), .val (.ref b1), .unset, .unset]) rfl ?_
    show Steps p.tables e below (T1.setTop (mkF m 4 #[.val (.ref a0), .val (.int (0 : Int32)), .val (.int (3 : Int32)), .val (.ref b1), .unset, .unset] [])) t
    refine XS.aloadN X1.here hx rfl (hb hby d5_4) rfl rfl ?_
    show Steps p.tables e below (T1.setTop (mkF m 5 #[.val (.ref a0), .val (.int (0 : Int32)), .val (.int (3 : Int32)), .val (.ref b1), .unset, .unset] [(.ref a0)])) t
    refine XS.iloadN X1.here hx rfl (hb hby d5_5) rfl ?_
    show Steps p.tables e below (T1.setTop (mkF m 6 #[.val (.ref a0), .val (.int (0 : Int32)), .val (.int (3 : Int32)), .val (.ref b1), .unset, .unset] [(.int (0 : Int32)), (.ref a0)])) t
    refine XS.aloadN X1.here hx rfl (hb hby d5_6) rfl rfl ?_
    show Steps p.tables e below (T1.setTop (mkF m 7 #[.val (.ref a0), .val (.int (0 : Int32)), .val (.int (3 : Int32)), .val (.ref b1), .unset, .unset] [(.ref b1), (.int (0 : Int32)), (.ref a0)])) t
    refine XS.iconst X1.here hx rfl (hb hby d5_7) ?_
    show Steps p.tables e below (T1.setTop (mkF m 8 #[.val (.ref a0), .val (.int (0 : Int32)), .val (.int (3 : Int32)), .val (.ref b1), .unset, .unset] [(.int (0 : Int32)), (.ref b1), (.int (0 : Int32)), (.ref a0)])) t
    refine XS.iloadN X1.here hx rfl (hb hby d5_8) rfl ?_
    exact kt
  refine OGo.callS X1 hx hZ (y := (⟨"java/lang/StringUTF16", "compress", "([CI[BII)I"⟩ : MethodName)) hown (own_wd hw 28 rfl) (own_wd hw 29 rfl) (own_wd hw 25 rfl) (own_wd hw 30 rfl) (by decide) (rm6_3 l Z az hw [] a0 b1 kc k1 c0 c1 c2 h1 n0 (Nat.le_trans Z0 KC1.1) (Vc_a0.ext E1) V1 (Nat.ne_of_lt (Nat.lt_of_lt_of_le Vc_a0.lt (Nat.le_of_eq g1.symm))) h255_0 h255_1 h255_2 gn_b1) (W := 0) (by decide) (by decide) (g := (mkF m 9 #[.val (.ref a0), .val (.int (0 : Int32)), .val (.int (3 : Int32)), .val (.ref b1), .unset, .unset] [(.int (3 : Int32)), (.int (0 : Int32)), (.ref b1), (.int (0 : Int32)), (.ref a0)])) rfl (by rw [hml]; rfl) (argsL := [(.ref a0), (.int (0 : Int32)), (.ref b1), (.int (0 : Int32)), (.int (3 : Int32))]) (rest := []) (lenOf pd_5_3_0 rfl) rfl (by show 2 * 0 + _ ≤ _; exact Nat.le_of_eq rfl) (hb hby d5_9) rfl e1 (by decide) (by decide) ?_
  rintro _ T2 L2 X2 ⟨hv2, Nq2, K2, P2_0⟩
  have KC2 : Keep h0 T2.heap [] := KC1.trans K2 (allS (Or.inr sz_b1) all0)
  have N2 := Fr.app N0 Nq2
  rw [show f6_3 = (3 : Int32) from rfl] at hv2
  subst hv2
  show OGo _ _ _ _ _ _ _ (T2.setTop (mkF m 12 #[.val (.ref a0), .val (.int (0 : Int32)), .val (.int (3 : Int32)), .val (.ref b1), .unset, .unset] [(.int (3 : Int32))]))
  refine OGo.step (F' := T2.setTop (mkF m 58 #[.val (.ref a0), .val (.int (0 : Int32)), .val (.int (3 : Int32)), .val (.ref b1), .val (.int (3 : Int32)), .unset] [(.ref b1)])) (fun t kt => ?_) ?_
  · show Steps p.tables e below (T2.setTop (mkF m 12 #[.val (.ref a0), .val (.int (0 : Int32)), .val (.int (3 : Int32)), .val (.ref b1), .unset, .unset] [(.int (3 : Int32))])) t
    refine XS.istore X2.here hx rfl (hb hby d5_12) rfl (l' := #[.val (.ref a0), .val (.int (0 : Int32)), .val (.int (3 : Int32)), .val (.ref b1), .val (.int (3 : Int32)), .unset]) rfl ?_
    show Steps p.tables e below (T2.setTop (mkF m 14 #[.val (.ref a0), .val (.int (0 : Int32)), .val (.int (3 : Int32)), .val (.ref b1), .val (.int (3 : Int32)), .unset] [])) t
    refine XS.iload X2.here hx rfl (hb hby d5_14) rfl ?_
    show Steps p.tables e below (T2.setTop (mkF m 16 #[.val (.ref a0), .val (.int (0 : Int32)), .val (.int (3 : Int32)), .val (.ref b1), .val (.int (3 : Int32)), .unset] [(.int (3 : Int32))])) t
    refine XS.iloadN X2.here hx rfl (hb hby d5_16) rfl ?_
    show Steps p.tables e below (T2.setTop (mkF m 17 #[.val (.ref a0), .val (.int (0 : Int32)), .val (.int (3 : Int32)), .val (.ref b1), .val (.int (3 : Int32)), .unset] [(.int (3 : Int32)), (.int (3 : Int32))])) t
    refine XS.icmpYes X2.here hx rfl (pc0 := 17) (pc' := 57) rfl (hb hby d5_17) rfl (teq (by decide : (3 : Int32) = (3 : Int32))).1 (by decide) (by decide) ?_
    show Steps p.tables e below (T2.setTop (mkF m 57 #[.val (.ref a0), .val (.int (0 : Int32)), .val (.int (3 : Int32)), .val (.ref b1), .val (.int (3 : Int32)), .unset] [])) t
    refine XS.aloadN X2.here hx rfl (hb hby d5_57) rfl rfl ?_
    exact kt
  refine OGo.retA X2 hx hlk (t := (.array .byte)) hret rfl rfl rfl (hb hby d5_58) ?_ (by decide) (by decide)
  show Q5_3 Z a0 kc c0 c1 c2 h0 n0 _ T2.heap _
  exact ⟨b1, rfl, N2, KC2, sz_b1, ⟨_, P2_0⟩⟩
/-! body 3: java/lang/String.<init>:([CIILjava/lang/Void;)V -/
theorem pd_3_3_0 : parseMethodDescriptor "([CII)[B" = some ⟨[(.array .char), .int, .int], some (.array .byte)⟩ := by decide +kernel
theorem pd_3_3_1 : parseMethodDescriptor "([BI)B" = some ⟨[(.array .byte), .int], some .byte⟩ := by decide +kernel
theorem ef_3_3 (m : MethodId) (x0 : Addr) (x1 : Addr) : entryFrame m #[(.ref x0), (.ref x1), (.int (0 : Int32)), (.int (3 : Int32)), .null] 6 = mkF m 0 #[.val (.ref x0), .val (.ref x1), .val (.int (0 : Int32)), .val (.int (3 : Int32)), .val .null, .unset] [] := by first | (simp [entryFrame, mkF, argsToLocals, Value.category]; done) | rfl
def Q3_3 (Z : State) (a0 : Addr) (a1 : Addr) (kc : ClassId) (c0 : Int32) (c1 : Int32) (c2 : Int32) (w_COMPACT_STRINGS : Int32) (u_coder_a0 : Value) (u_value_a0 : Value) (h0 : Heap) (n0 : Nat) (v : Option Value) (h : Heap) (L : List Loc) : Prop := ∃ t : Addr, v = none ∧ Fr n0 L ∧ Keep h0 h [a0] ∧ Exa Z h a0 "java/lang/String" ∧ Fld Z h a0 "java/lang/String" "value" "[B" (.ref t) ∧ Fld Z h a0 "java/lang/String" "coder" "B" (.int (0 : Int32)) ∧ OBs Z h t [(own_by c0), (own_by c1), (own_by c2)]
set_option maxRecDepth 65536 in
set_option maxHeartbeats 40000000 in
theorem rm3_3 (l : Launch) (Z : State) (az : Array Value) (hw : ∀ d ∈ tables_1, d.before az Z = true) (ws : List Jvm.Cond) (a0 : Addr) (a1 : Addr) (kc : ClassId) (c0 : Int32) (c1 : Int32) (c2 : Int32) (w_COMPACT_STRINGS : Int32) (u_coder_a0 : Value) (u_value_a0 : Value) (h0 : Heap) (n0 : Nat) (Z0 : n0 ≤ h0.size) (Vc_a1 : Arv Z h0 a1 kc .char (3 : Int32) [(.int c0), (.int c1), (.int c2)] (.int (0 : Int32))) (hC : ¬ (w_COMPACT_STRINGS = (0 : Int32))) (hne : a1 ≠ a0) (h255_0 : ¬ ((255 : Int32) < c0)) (h255_1 : ¬ ((255 : Int32) < c1)) (h255_2 : ¬ ((255 : Int32) < c2)) (S_String_COMPACT_STRINGS : Sta Z h0 "java/lang/String" "COMPACT_STRINGS" "Z" (.int w_COMPACT_STRINGS)) (E_a0 : Exa Z h0 a0 "java/lang/String") (F_coder_a0 : Fld Z h0 a0 "java/lang/String" "coder" "B" u_coder_a0) (gn_a0 : n0 ≤ a0) (F_value_a0 : Fld Z h0 a0 "java/lang/String" "value" "[B" u_value_a0) :
    OCtr l Z (⟨"java/lang/String", "<init>", "([CIILjava/lang/Void;)V"⟩ : MethodName) jdk_42_method_149_code 6 none ws ({ frames := 2, cells := 1, slots := 3, locals := 35 } : Room) #[(.ref a0), (.ref a1), (.int (0 : Int32)), (.int (3 : Int32)), .null] h0 (Q3_3 Z a0 a1 kc c0 c1 c2 w_COMPACT_STRINGS u_coder_a0 u_value_a0 h0 n0) := by
  refine OCtr.of (plainFor_of_name pn_3) ?_
  intro p e s m below meth c s₁ X0 hx hlk hZ hown0 hnm hby hml0 hret e0
  have hown : s.vm.findClass "java/lang/String" = some m.cls := hown0
  have hml : c.maxLocals = 6 := hml0
  have N0 := Fr.nil n0
  refine OGo.step (fun t k => castTop (ef_3_3 m a0 a1) k) ?_
  refine OGo.step (F' := s₁.setTop (mkF m 1 #[.val (.ref a0), .val (.ref a1), .val (.int (0 : Int32)), .val (.int (3 : Int32)), .val .null, .unset] [(.ref a0)])) (fun t kt => ?_) ?_
  · show Steps p.tables e below (s₁.setTop (mkF m 0 #[.val (.ref a0), .val (.ref a1), .val (.int (0 : Int32)), .val (.int (3 : Int32)), .val .null, .unset] [])) t
    refine XS.aloadN X0.here hx rfl (hb hby d3_0) rfl rfl ?_
    exact kt
  obtain ⟨T1, X1, e1, st1⟩ := initO X0 hx hZ hown (own_wd hw 19 rfl) (own_wd hw 20 rfl) (own_wd hw 21 rfl) e0 (g := (mkF m 1 #[.val (.ref a0), .val (.ref a1), .val (.int (0 : Int32)), .val (.int (3 : Int32)), .val .null, .unset] [(.ref a0)])) rfl (by rw [hml]; rfl) rfl (hb hby d3_1) (by decide) (W := 0) (by show 2 * 0 + _ ≤ _; exact Nat.le_of_eq rfl) (by decide)
  refine OGo.step st1 ?_
  show OGo _ _ _ _ _ _ _ (T1.setTop (mkF m 4 #[.val (.ref a0), .val (.ref a1), .val (.int (0 : Int32)), .val (.int (3 : Int32)), .val .null, .unset] []))
  refine OGo.step (F' := T1.setTop (mkF m 27 #[.val (.ref a0), .val (.ref a1), .val (.int (0 : Int32)), .val (.int (3 : Int32)), .val .null, .unset] [])) (fun t kt => ?_) ?_
  · show Steps p.tables e below (T1.setTop (mkF m 4 #[.val (.ref a0), .val (.ref a1), .val (.int (0 : Int32)), .val (.int (3 : Int32)), .val .null, .unset] [])) t
    refine XS.iloadN X1.here hx rfl (hb hby d3_4) rfl ?_
    show Steps p.tables e below (T1.setTop (mkF m 5 #[.val (.ref a0), .val (.ref a1), .val (.int (0 : Int32)), .val (.int (3 : Int32)), .val .null, .unset] [(.int (3 : Int32))])) t
    refine XS.ifYes X1.here hx rfl (pc0 := 5) (pc' := 27) rfl (hb hby d3_5) rfl ((if0 _ _).trans (feq (by decide : ¬ ((3 : Int32) = (0 : Int32)))).2) (by decide) (by decide) ?_
    exact kt
  obtain ⟨T2, X2, e2, st2⟩ := getS2 X1 hx hZ hown (host := "") (Or.inl (own_wd hw 22 rfl)) Via.refl e1 S_String_COMPACT_STRINGS (g := (mkF m 27 #[.val (.ref a0), .val (.ref a1), .val (.int (0 : Int32)), .val (.int (3 : Int32)), .val .null, .unset] [])) rfl (hb hby d3_27)
  refine OGo.step st2 ?_
  show OGo _ _ _ _ _ _ _ (T2.setTop (mkF m 30 #[.val (.ref a0), .val (.ref a1), .val (.int (0 : Int32)), .val (.int (3 : Int32)), .val .null, .unset] [(.int w_COMPACT_STRINGS)]))
  refine OGo.step (F' := T2.setTop (mkF m 36 #[.val (.ref a0), .val (.ref a1), .val (.int (0 : Int32)), .val (.int (3 : Int32)), .val .null, .unset] [(.int (3 : Int32)), (.int (0 : Int32)), (.ref a1)])) (fun t kt => ?_) ?_
  · show Steps p.tables e below (T2.setTop (mkF m 30 #[.val (.ref a0), .val (.ref a1), .val (.int (0 : Int32)), .val (.int (3 : Int32)), .val .null, .unset] [(.int w_COMPACT_STRINGS)])) t
    refine XS.ifNo X2.here hx rfl (hb hby d3_30) rfl ((if0 _ _).trans (feq hC).1) ?_
    show Steps p.tables e below (T2.setTop (mkF m 33 #[.val (.ref a0), .val (.ref a1), .val (.int (0 : Int32)), .val (.int (3 : Int32)), .val .null, .unset] [])) t
    refine XS.aloadN X2.here hx rfl (hb hby d3_33) rfl rfl ?_
    show Steps p.tables e below (T2.setTop (mkF m 34 #[.val (.ref a0), .val (.ref a1), .val (.int (0 : Int32)), .val (.int (3 : Int32)), .val .null, .unset] [(.ref a1)])) t
    refine XS.iloadN X2.here hx rfl (hb hby d3_34) rfl ?_
    show Steps p.tables e below (T2.setTop (mkF m 35 #[.val (.ref a0), .val (.ref a1), .val (.int (0 : Int32)), .val (.int (3 : Int32)), .val .null, .unset] [(.int (0 : Int32)), (.ref a1)])) t
    refine XS.iloadN X2.here hx rfl (hb hby d3_35) rfl ?_
    exact kt
  refine OGo.callS X2 hx hZ (y := (⟨"java/lang/StringUTF16", "compress", "([CII)[B"⟩ : MethodName)) hown (own_wd hw 23 rfl) (own_wd hw 24 rfl) (own_wd hw 25 rfl) (own_wd hw 26 rfl) (by decide) (rm5_3 l Z az hw [] a1 kc c0 c1 c2 h0 n0 Z0 Vc_a1 h255_0 h255_1 h255_2) (W := 0) (by decide) (by decide) (g := (mkF m 36 #[.val (.ref a0), .val (.ref a1), .val (.int (0 : Int32)), .val (.int (3 : Int32)), .val .null, .unset] [(.int (3 : Int32)), (.int (0 : Int32)), (.ref a1)])) rfl (by rw [hml]; rfl) (argsL := [(.ref a1), (.int (0 : Int32)), (.int (3 : Int32))]) (rest := []) (lenOf pd_3_3_0 rfl) rfl (by show 2 * 0 + _ ≤ _; exact Nat.le_of_eq rfl) (hb hby d3_36) rfl e2 (by decide) (by decide) ?_
  rintro _ T3 L3 X3 ⟨b3_t, rfl, Nq3, K3, sz_b3_t, P3_0⟩
  have KC3 : Keep h0 T3.heap [a0] := (Keep.refl h0 [a0]).trans K3 all0
  have szo_b3_t := sz_b3_t
  replace sz_b3_t : h0.size ≤ b3_t := Nat.le_trans (Keep.refl h0 [a0]).1 sz_b3_t
  have gn_b3_t : n0 ≤ b3_t := Nat.le_trans Z0 sz_b3_t
  have N3 := Fr.app N0 Nq3
  show OGo _ _ _ _ _ _ _ (T3.setTop (mkF m 39 #[.val (.ref a0), .val (.ref a1), .val (.int (0 : Int32)), .val (.int (3 : Int32)), .val .null, .unset] [(.ref b3_t)]))
  refine OGo.step (F' := T3.setTop (mkF m 45 #[.val (.ref a0), .val (.ref a1), .val (.int (0 : Int32)), .val (.int (3 : Int32)), .val .null, .val (.ref b3_t)] [(.int (3 : Int32)), (.ref b3_t), (.ref a0)])) (fun t kt => ?_) ?_
  · show Steps p.tables e below (T3.setTop (mkF m 39 #[.val (.ref a0), .val (.ref a1), .val (.int (0 : Int32)), .val (.int (3 : Int32)), .val .null, .unset] [(.ref b3_t)])) t
    refine XS.astore X3.here hx rfl (hb hby d3_39) rfl rfl (l' := #[.val (.ref a0), .val (.ref a1), .val (.int (0 : Int32)), .val (.int (3 : Int32)), .val .null, .val (.ref b3_t)]) rfl ?_
    show Steps p.tables e below (T3.setTop (mkF m 41 #[.val (.ref a0), .val (.ref a1), .val (.int (0 : Int32)), .val (.int (3 : Int32)), .val .null, .val (.ref b3_t)] [])) t
    refine XS.aloadN X3.here hx rfl (hb hby d3_41) rfl rfl ?_
    show Steps p.tables e below (T3.setTop (mkF m 42 #[.val (.ref a0), .val (.ref a1), .val (.int (0 : Int32)), .val (.int (3 : Int32)), .val .null, .val (.ref b3_t)] [(.ref a0)])) t
    refine XS.aload X3.here hx rfl (hb hby d3_42) rfl rfl ?_
    show Steps p.tables e below (T3.setTop (mkF m 44 #[.val (.ref a0), .val (.ref a1), .val (.int (0 : Int32)), .val (.int (3 : Int32)), .val .null, .val (.ref b3_t)] [(.ref b3_t), (.ref a0)])) t
    refine XS.iloadN X3.here hx rfl (hb hby d3_44) rfl ?_
    exact kt
  refine OGo.callS X3 hx hZ (y := (⟨"java/lang/StringUTF16", "coderFromArrayLen", "([BI)B"⟩ : MethodName)) hown (own_wd hw 31 rfl) (own_wd hw 32 rfl) (own_wd hw 25 rfl) (own_wd hw 33 rfl) (by decide) (rm7 l Z az hw [] b3_t (3 : Int32) [(own_by c0), (own_by c1), (own_by c2)] T3.heap n0 (Nat.le_trans Z0 KC3.1) P3_0) (W := 1) (by decide) (by decide) (g := (mkF m 45 #[.val (.ref a0), .val (.ref a1), .val (.int (0 : Int32)), .val (.int (3 : Int32)), .val .null, .val (.ref b3_t)] [(.int (3 : Int32)), (.ref b3_t), (.ref a0)])) rfl (by rw [hml]; rfl) (argsL := [(.ref b3_t), (.int (3 : Int32))]) (rest := [(.ref a0)]) (lenOf pd_3_3_1 rfl) rfl (by show 2 * 0 + _ ≤ _; exact Nat.le_of_eq rfl) (hb hby d3_45) rfl rfl (by decide) (by decide) ?_
  rintro _ T4 L4 X4 ⟨hv4, Nq4, e4⟩
  have N4 := Fr.app N3 Nq4
  rw [show (f7 (3 : Int32) [(own_by c0), (own_by c1), (own_by c2)]) = (0 : Int32) from by simp only [f7, List.length_cons, List.length_nil]; decide] at hv4
  subst hv4
  show OGo _ _ _ _ _ _ _ (T4.setTop (mkF m 48 #[.val (.ref a0), .val (.ref a1), .val (.int (0 : Int32)), .val (.int (3 : Int32)), .val .null, .val (.ref b3_t)] [(.int (0 : Int32)), (.ref a0)]))
  obtain ⟨T5, h5, X5, e5, W5, st5⟩ := putFN X4 hx hZ hown (own_wd hw 34 rfl) Via.refl e4 (F_coder_a0.keep K3 nin0) (E_a0.keep K3) (Or.inr ⟨(own_wd hw 35 rfl), rfl, hnm⟩) (own_wd hw 9 rfl) (ty := .byte) (v := (.int (0 : Int32))) (v' := (.int (0 : Int32))) (by decide) rfl (by decide) (g := (mkF m 48 #[.val (.ref a0), .val (.ref a1), .val (.int (0 : Int32)), .val (.int (3 : Int32)), .val .null, .val (.ref b3_t)] [(.int (0 : Int32)), (.ref a0)])) rfl rfl (hb hby d3_48)
  have Fw5 : Fld Z h5 a0 "java/lang/String" "coder" "B" (.int (0 : Int32)) := (F_coder_a0.keep K3 nin0).same W5
  have KC5 : Keep h0 h5 [a0] := KC3.wr W5 (Or.inl (List.mem_of_getElem? (i := 0) rfl))
  have N5 := Fr.snoc X5 N4 gn_a0
  refine OGo.step st5 ?_
  show OGo _ _ _ _ _ _ _ (T5.setTop (mkF m 51 #[.val (.ref a0), .val (.ref a1), .val (.int (0 : Int32)), .val (.int (3 : Int32)), .val .null, .val (.ref b3_t)] []))
  refine OGo.step (F' := T5.setTop (mkF m 54 #[.val (.ref a0), .val (.ref a1), .val (.int (0 : Int32)), .val (.int (3 : Int32)), .val .null, .val (.ref b3_t)] [(.ref b3_t), (.ref a0)])) (fun t kt => ?_) ?_
  · show Steps p.tables e below (T5.setTop (mkF m 51 #[.val (.ref a0), .val (.ref a1), .val (.int (0 : Int32)), .val (.int (3 : Int32)), .val .null, .val (.ref b3_t)] [])) t
    refine XS.aloadN X5.here hx rfl (hb hby d3_51) rfl rfl ?_
    show Steps p.tables e below (T5.setTop (mkF m 52 #[.val (.ref a0), .val (.ref a1), .val (.int (0 : Int32)), .val (.int (3 : Int32)), .val .null, .val (.ref b3_t)] [(.ref a0)])) t
    refine XS.aload X5.here hx rfl (hb hby d3_52) rfl rfl ?_
    exact kt
  obtain ⟨T6, h6, X6, e6, W6, st6⟩ := putF X5 hx hZ hown (host := "") (Or.inl (own_wd hw 36 rfl)) Via.refl e5 ((F_value_a0.keep K3 nin0).other W5 (Or.inr (slot_ne (a0 := az) (Or.inr (own_wd hw 37 rfl)) (Or.inr (own_wd hw 35 rfl)) (by decide) (t := (.array .byte)) (t' := .byte) (by decide) (by decide)))) ((E_a0.keep K3).wr W5) (Or.inr ⟨(own_wd hw 37 rfl), rfl, hnm⟩) (own_wd hw 9 rfl) (ty := (.array .byte)) (by decide) rfl rfl (g := (mkF m 54 #[.val (.ref a0), .val (.ref a1), .val (.int (0 : Int32)), .val (.int (3 : Int32)), .val .null, .val (.ref b3_t)] [(.ref b3_t), (.ref a0)])) rfl rfl (hb hby d3_54)
  have Fw6 : Fld Z h6 a0 "java/lang/String" "value" "[B" (.ref b3_t) := ((F_value_a0.keep K3 nin0).other W5 (Or.inr (slot_ne (a0 := az) (Or.inr (own_wd hw 37 rfl)) (Or.inr (own_wd hw 35 rfl)) (by decide) (t := (.array .byte)) (t' := .byte) (by decide) (by decide)))).same W6
  have KC6 : Keep h0 h6 [a0] := KC5.wr W6 (Or.inl (List.mem_of_getElem? (i := 0) rfl))
  have N6 := Fr.snoc X6 N5 gn_a0
  refine OGo.step st6 ?_
  show OGo _ _ _ _ _ _ _ (T6.setTop (mkF m 57 #[.val (.ref a0), .val (.ref a1), .val (.int (0 : Int32)), .val (.int (3 : Int32)), .val .null, .val (.ref b3_t)] []))
  refine OGo.retV X6 hx hlk hret (hb hby d3_57) ?_ (by decide) (by decide)
  show Q3_3 Z a0 a1 kc c0 c1 c2 w_COMPACT_STRINGS u_coder_a0 u_value_a0 h0 n0 _ T6.heap _
  rw [e6]
  exact ⟨b3_t, rfl, N6, KC6, (((E_a0.keep K3).wr W5).wr W6), Fw6, (Fw5.other W6 (Or.inr (slot_ne (a0 := az) (Or.inr (own_wd hw 35 rfl)) (Or.inr (own_wd hw 37 rfl)) (by decide) (t := .byte) (t' := (.array .byte)) (by decide) (by decide)))), ((P3_0.other W5 (Ne.symm (Nat.ne_of_lt (Nat.lt_of_lt_of_le E_a0.lt szo_b3_t)))).other W6 (Ne.symm (Nat.ne_of_lt (Nat.lt_of_lt_of_le E_a0.lt szo_b3_t))))⟩
/-! body 2: java/lang/String.<init>:([C)V -/
theorem pd_2_3_0 : parseMethodDescriptor "([CIILjava/lang/Void;)V" = some ⟨[(.array .char), .int, .int, (.object "java/lang/Void")], none⟩ := by decide +kernel
theorem ef_2_3 (m : MethodId) (x0 : Addr) (x1 : Addr) : entryFrame m #[(.ref x0), (.ref x1)] 2 = mkF m 0 #[.val (.ref x0), .val (.ref x1)] [] := by first | (simp [entryFrame, mkF, argsToLocals, Value.category]; done) | rfl
def Q2_3 (Z : State) (a0 : Addr) (a1 : Addr) (kc : ClassId) (c0 : Int32) (c1 : Int32) (c2 : Int32) (w_COMPACT_STRINGS : Int32) (u_coder_a0 : Value) (u_value_a0 : Value) (h0 : Heap) (n0 : Nat) (v : Option Value) (h : Heap) (L : List Loc) : Prop := ∃ t : Addr, v = none ∧ Fr n0 L ∧ Keep h0 h [a0] ∧ Exa Z h a0 "java/lang/String" ∧ Fld Z h a0 "java/lang/String" "value" "[B" (.ref t) ∧ Fld Z h a0 "java/lang/String" "coder" "B" (.int (0 : Int32)) ∧ OBs Z h t [(own_by c0), (own_by c1), (own_by c2)]
set_option maxRecDepth 65536 in
set_option maxHeartbeats 40000000 in
theorem rm2_3 (l : Launch) (Z : State) (az : Array Value) (hw : ∀ d ∈ tables_1, d.before az Z = true) (ws : List Jvm.Cond) (a0 : Addr) (a1 : Addr) (kc : ClassId) (c0 : Int32) (c1 : Int32) (c2 : Int32) (w_COMPACT_STRINGS : Int32) (u_coder_a0 : Value) (u_value_a0 : Value) (h0 : Heap) (n0 : Nat) (Z0 : n0 ≤ h0.size) (Vc_a1 : Arv Z h0 a1 kc .char (3 : Int32) [(.int c0), (.int c1), (.int c2)] (.int (0 : Int32))) (hC : ¬ (w_COMPACT_STRINGS = (0 : Int32))) (hne : a1 ≠ a0) (h255_0 : ¬ ((255 : Int32) < c0)) (h255_1 : ¬ ((255 : Int32) < c1)) (h255_2 : ¬ ((255 : Int32) < c2)) (S_String_COMPACT_STRINGS : Sta Z h0 "java/lang/String" "COMPACT_STRINGS" "Z" (.int w_COMPACT_STRINGS)) (E_a0 : Exa Z h0 a0 "java/lang/String") (F_coder_a0 : Fld Z h0 a0 "java/lang/String" "coder" "B" u_coder_a0) (F_value_a0 : Fld Z h0 a0 "java/lang/String" "value" "[B" u_value_a0) (gn_a0 : n0 ≤ a0) :
    OCtr l Z (⟨"java/lang/String", "<init>", "([C)V"⟩ : MethodName) jdk_42_method_3_code 2 none ws ({ frames := 3, cells := 1, slots := 3, locals := 52 } : Room) #[(.ref a0), (.ref a1)] h0 (Q2_3 Z a0 a1 kc c0 c1 c2 w_COMPACT_STRINGS u_coder_a0 u_value_a0 h0 n0) := by
  refine OCtr.of (plainFor_of_name pn_2) ?_
  intro p e s m below meth c s₁ X0 hx hlk hZ hown0 hnm hby hml0 hret e0
  have hown : s.vm.findClass "java/lang/String" = some m.cls := hown0
  have hml : c.maxLocals = 2 := hml0
  have N0 := Fr.nil n0
  refine OGo.step (fun t k => castTop (ef_2_3 m a0 a1) k) ?_
  refine OGo.step (F' := s₁.setTop (mkF m 4 #[.val (.ref a0), .val (.ref a1)] [(.ref a1), (.int (0 : Int32)), (.ref a1), (.ref a0)])) (fun t kt => ?_) ?_
  · show Steps p.tables e below (s₁.setTop (mkF m 0 #[.val (.ref a0), .val (.ref a1)] [])) t
    refine XS.aloadN X0.here hx rfl (hb hby d2_0) rfl rfl ?_
    show Steps p.tables e below (s₁.setTop (mkF m 1 #[.val (.ref a0), .val (.ref a1)] [(.ref a0)])) t
    refine XS.aloadN X0.here hx rfl (hb hby d2_1) rfl rfl ?_
    show Steps p.tables e below (s₁.setTop (mkF m 2 #[.val (.ref a0), .val (.ref a1)] [(.ref a1), (.ref a0)])) t
    refine XS.iconst X0.here hx rfl (hb hby d2_2) ?_
    show Steps p.tables e below (s₁.setTop (mkF m 3 #[.val (.ref a0), .val (.ref a1)] [(.int (0 : Int32)), (.ref a1), (.ref a0)])) t
    refine XS.aloadN X0.here hx rfl (hb hby d2_3) rfl rfl ?_
    exact kt
  obtain ⟨cl1, Ar1, q1, S1, N1a, H1, G1⟩ := id (Vc_a1)
  refine OGo.step (F' := s₁.setTop (mkF m 5 #[.val (.ref a0), .val (.ref a1)] [(.int (3 : Int32)), (.int (0 : Int32)), (.ref a1), (.ref a0)])) (fun t kt => ?_) ?_
  · show Steps p.tables e below (s₁.setTop (mkF m 4 #[.val (.ref a0), .val (.ref a1)] [(.ref a1), (.int (0 : Int32)), (.ref a1), (.ref a0)])) t
    refine X0.arraylength hx (by rw [e0]; exact Ar1.1) (State.isArrayOf_alike hZ.alike Ar1.2.1) (g := (mkF m 4 #[.val (.ref a0), .val (.ref a1)] [(.ref a1), (.int (0 : Int32)), (.ref a1), (.ref a0)])) rfl rfl (hb hby d2_4) _ ?_
    rw [len_of S1 N1a]
    exact kt
  refine OGo.step (F' := s₁.setTop (mkF m 6 #[.val (.ref a0), .val (.ref a1)] [.null, (.int (3 : Int32)), (.int (0 : Int32)), (.ref a1), (.ref a0)])) (fun t kt => ?_) ?_
  · show Steps p.tables e below (s₁.setTop (mkF m 5 #[.val (.ref a0), .val (.ref a1)] [(.int (3 : Int32)), (.int (0 : Int32)), (.ref a1), (.ref a0)])) t
    refine XS.aconstNull X0.here hx rfl (hb hby d2_5) ?_
    exact kt
  refine OGo.callC X0 hx hZ (y := (⟨"java/lang/String", "<init>", "([CIILjava/lang/Void;)V"⟩ : MethodName)) rfl hown (own_wd hw 15 rfl) (own_wd hw 16 rfl) (own_wd hw 10 rfl) (own_wd hw 18 rfl) (by decide) (rm3_3 l Z az hw [] a0 a1 kc c0 c1 c2 w_COMPACT_STRINGS u_coder_a0 u_value_a0 h0 n0 Z0 Vc_a1 hC hne h255_0 h255_1 h255_2 S_String_COMPACT_STRINGS E_a0 F_coder_a0 gn_a0 F_value_a0) (W := 0) (by decide) (by decide) (b := a0) (g := (mkF m 6 #[.val (.ref a0), .val (.ref a1)] [.null, (.int (3 : Int32)), (.int (0 : Int32)), (.ref a1), (.ref a0)])) rfl (by rw [hml]; rfl) (argsL := [(.ref a1), (.int (0 : Int32)), (.int (3 : Int32)), .null]) (rest := []) (lenOf pd_2_3_0 rfl) rfl (by show 2 * 0 + _ ≤ _; exact Nat.le_of_eq rfl) (hb hby d2_6) rfl e0 (by decide) (by decide) ?_
  rintro _ T2 L2 X2 ⟨r2_t, rfl, Nq2, K2, P2_0, P2_1, P2_2, P2_3⟩
  have KC2 : Keep h0 T2.heap [a0] := (Keep.refl h0 [a0]).trans K2 (allS (Or.inl (List.mem_of_getElem? (i := 0) rfl)) all0)
  have N2 := Fr.app N0 Nq2
  show OGo _ _ _ _ _ _ _ (T2.setTop (mkF m 9 #[.val (.ref a0), .val (.ref a1)] []))
  refine OGo.retV X2 hx hlk hret (hb hby d2_9) ?_ (by decide) (by decide)
  show Q2_3 Z a0 a1 kc c0 c1 c2 w_COMPACT_STRINGS u_coder_a0 u_value_a0 h0 n0 _ T2.heap _
  exact ⟨r2_t, rfl, N2, KC2, P2_0, P2_1, P2_2, P2_3⟩
/-! body 3: java/lang/String.<init>:([CIILjava/lang/Void;)V -/
theorem d3_8 : decode jdk_42_method_149_code 8 = .ok (.aload_n 0, 1) := by decide +kernel
theorem d3_9 : decode jdk_42_method_149_code 9 = .ok (.ldc 7, 2) := by decide +kernel
theorem d3_11 : decode jdk_42_method_149_code 11 = .ok (.getfield 9, 3) := by decide +kernel
theorem d3_14 : decode jdk_42_method_149_code 14 = .ok (.putfield 9, 3) := by decide +kernel
theorem d3_17 : decode jdk_42_method_149_code 17 = .ok (.aload_n 0, 1) := by decide +kernel
theorem d3_18 : decode jdk_42_method_149_code 18 = .ok (.ldc 7, 2) := by decide +kernel
theorem d3_20 : decode jdk_42_method_149_code 20 = .ok (.getfield 15, 3) := by decide +kernel
theorem d3_23 : decode jdk_42_method_149_code 23 = .ok (.putfield 15, 3) := by decide +kernel
theorem d3_26 : decode jdk_42_method_149_code 26 = .ok (.return_, 1) := by decide +kernel
theorem ef_3_0 (m : MethodId) (x0 : Addr) (x1 : Addr) : entryFrame m #[(.ref x0), (.ref x1), (.int (0 : Int32)), (.int (0 : Int32)), .null] 6 = mkF m 0 #[.val (.ref x0), .val (.ref x1), .val (.int (0 : Int32)), .val (.int (0 : Int32)), .val .null, .unset] [] := by first | (simp [entryFrame, mkF, argsToLocals, Value.category]; done) | rfl
def Q3_0 (Z : State) (a0 : Addr) (a1 : Addr) (u_coder_a0 : Value) (h0 : Heap) (n0 : Nat) (v : Option Value) (h : Heap) (L : List Loc) : Prop := ∃ t : Addr, v = none ∧ Fr n0 L ∧ Keep h0 h [a0] ∧ Exa Z h a0 "java/lang/String" ∧ Fld Z h a0 "java/lang/String" "value" "[B" (.ref t) ∧ Fld Z h a0 "java/lang/String" "coder" "B" (.int (0 : Int32)) ∧ OBs Z h t []
set_option maxRecDepth 65536 in
set_option maxHeartbeats 40000000 in
theorem rm3_0 (l : Launch) (Z : State) (az : Array Value) (hw : ∀ d ∈ tables_1, d.before az Z = true) (ws : List Jvm.Cond) (a0 : Addr) (a1 : Addr) (u_coder_a0 : Value) (h0 : Heap) (n0 : Nat) (Z0 : n0 ≤ h0.size) (E_a0 : Exa Z h0 a0 "java/lang/String") (F_value_a0 : Fld Z h0 a0 "java/lang/String" "value" "[B" .null) (gn_a0 : n0 ≤ a0) (F_coder_a0 : Fld Z h0 a0 "java/lang/String" "coder" "B" u_coder_a0) :
    OCtrW l Z consts_1 (⟨"java/lang/String", "<init>", "([CIILjava/lang/Void;)V"⟩ : MethodName) jdk_42_method_149_code 6 none ws ({ frames := 1, cells := 4, slots := 8, locals := 12 } : Room) #[(.ref a0), (.ref a1), (.int (0 : Int32)), (.int (0 : Int32)), .null] h0 (Q3_0 Z a0 a1 u_coder_a0 h0 n0) := by
  refine OCtrW.of (plainFor_of_name pn_3) ?_
  intro p e s m below meth c s₁ X0 hx hlk hZ hown0 hnm hby hml0 hret e0 hS CR
  have hown : s.vm.findClass "java/lang/String" = some m.cls := hown0
  have hml : c.maxLocals = 6 := hml0
  have N0 := Fr.nil n0
  refine OGW.step (fun t k => castTop (ef_3_0 m a0 a1) k) ?_
  have hk : h0.size ≤ h0.size := Nat.le_refl _
  have hEL : EW Z az consts_1 := own_EL hw
  refine OGW.step (F' := s₁.setTop (mkF m 1 #[.val (.ref a0), .val (.ref a1), .val (.int (0 : Int32)), .val (.int (0 : Int32)), .val .null, .unset] [(.ref a0)])) (fun t kt => ?_) ?_
  · show Steps p.tables e below (s₁.setTop (mkF m 0 #[.val (.ref a0), .val (.ref a1), .val (.int (0 : Int32)), .val (.int (0 : Int32)), .val .null, .unset] [])) t
    refine XS.aloadN X0.here hx rfl (hb hby d3_0) rfl rfl ?_
    exact kt
  obtain ⟨T1, X1, e1, st1⟩ := initO X0 hx hZ hown (own_wd hw 19 rfl) (own_wd hw 20 rfl) (own_wd hw 21 rfl) e0 (g := (mkF m 1 #[.val (.ref a0), .val (.ref a1), .val (.int (0 : Int32)), .val (.int (0 : Int32)), .val .null, .unset] [(.ref a0)])) rfl (by rw [hml]; rfl) rfl (hb hby d3_1) (by decide) (W := 0) (by show 2 * 0 + _ ≤ _; exact Nat.le_of_eq rfl) (by decide)
  refine OGW.step st1 ?_
  show OGW _ _ _ _ _ _ _ _ _ _ (T1.setTop (mkF m 4 #[.val (.ref a0), .val (.ref a1), .val (.int (0 : Int32)), .val (.int (0 : Int32)), .val .null, .unset] []))
  refine OGW.step (F' := T1.setTop (mkF m 9 #[.val (.ref a0), .val (.ref a1), .val (.int (0 : Int32)), .val (.int (0 : Int32)), .val .null, .unset] [(.ref a0)])) (fun t kt => ?_) ?_
  · show Steps p.tables e below (T1.setTop (mkF m 4 #[.val (.ref a0), .val (.ref a1), .val (.int (0 : Int32)), .val (.int (0 : Int32)), .val .null, .unset] [])) t
    refine XS.iloadN X1.here hx rfl (hb hby d3_4) rfl ?_
    show Steps p.tables e below (T1.setTop (mkF m 5 #[.val (.ref a0), .val (.ref a1), .val (.int (0 : Int32)), .val (.int (0 : Int32)), .val .null, .unset] [(.int (0 : Int32))])) t
    refine XS.ifNo X1.here hx rfl (hb hby d3_5) rfl ((if0 _ _).trans (teq (by decide : (0 : Int32) = (0 : Int32))).2) ?_
    show Steps p.tables e below (T1.setTop (mkF m 8 #[.val (.ref a0), .val (.ref a1), .val (.int (0 : Int32)), .val (.int (0 : Int32)), .val .null, .unset] [])) t
    refine XS.aloadN X1.here hx rfl (hb hby d3_8) rfl rfl ?_
    exact kt
  obtain ⟨a2, T2, h2, k2a, t2, k2, X2, e2, E2, hS, hk, hZ, hown, A2, Fc2, Fv2, V2, lt_a2, lt_t2, CS2, -, Ne2, st2⟩ := ldcCH X1 hx hZ hown (own_wd hw 51 rfl) (own_atoms hw) e1 hS hk hEL (List.mem_of_getElem? (i := 0) rfl) CR.1 (vs := []) (z := (0 : Int32)) ⟨by decide, by decide⟩ (by decide) rfl (g := (mkF m 9 #[.val (.ref a0), .val (.ref a1), .val (.int (0 : Int32)), .val (.int (0 : Int32)), .val .null, .unset] [(.ref a0)])) rfl (hb hby d3_9) (n := 0) (by decide) (by decide) (by decide) (by decide)
  have KC2 : Keep h0 h2 [a0] := (Keep.refl h0 [a0]).ext E2
  have CR := CR.trans CS2
  have nx2_a0 := Ne2 a0 (own_safe_null (EL := consts_1) hZ.alike (E_a0.ext E2) (F_value_a0.ext E2))
  refine OGW.step st2 ?_
  show OGW _ _ _ _ _ _ _ _ _ _ (T2.setTop (mkF m 11 #[.val (.ref a0), .val (.ref a1), .val (.int (0 : Int32)), .val (.int (0 : Int32)), .val .null, .unset] [(.ref a2), (.ref a0)]))
  obtain ⟨T3, X3, e3, st3⟩ := getF X2 hx hZ hown (host := "") (Or.inl (own_wd hw 36 rfl)) Via.refl e2 Fv2 (g := (mkF m 11 #[.val (.ref a0), .val (.ref a1), .val (.int (0 : Int32)), .val (.int (0 : Int32)), .val .null, .unset] [(.ref a2), (.ref a0)])) rfl rfl (hb hby d3_11)
  refine OGW.step st3 ?_
  show OGW _ _ _ _ _ _ _ _ _ _ (T3.setTop (mkF m 14 #[.val (.ref a0), .val (.ref a1), .val (.int (0 : Int32)), .val (.int (0 : Int32)), .val .null, .unset] [(.ref t2), (.ref a0)]))
  have sfw4 := (own_safe_null (EL := consts_1) hZ.alike (E_a0.ext E2) (F_value_a0.ext E2))
  have ltw4 := (E_a0.ext E2).lt
  obtain ⟨T4, h4, X4, e4, W4, st4⟩ := putF X3 hx hZ hown (host := "") (Or.inl (own_wd hw 36 rfl)) Via.refl e3 (F_value_a0.ext E2) (E_a0.ext E2) (Or.inr ⟨(own_wd hw 37 rfl), rfl, hnm⟩) (own_wd hw 9 rfl) (ty := (.array .byte)) (by decide) rfl rfl (g := (mkF m 14 #[.val (.ref a0), .val (.ref a1), .val (.int (0 : Int32)), .val (.int (0 : Int32)), .val .null, .unset] [(.ref t2), (.ref a0)])) rfl rfl (hb hby d3_14)
  have Fw4 : Fld Z h4 a0 "java/lang/String" "value" "[B" (.ref t2) := (F_value_a0.ext E2).same W4
  have KC4 : Keep h0 h4 [a0] := KC2.wr W4 (Or.inl (List.mem_of_getElem? (i := 0) rfl))
  have N4 := Fr.snoc X4 N0 gn_a0
  have CS4 := CHr.wr W4 sfw4 CR.1
  have hk := Nat.le_trans hk (Nat.le_of_eq W4.size.symm)
  have CR := CR.trans CS4
  refine OGW.step st4 ?_
  show OGW _ _ _ _ _ _ _ _ _ _ (T4.setTop (mkF m 17 #[.val (.ref a0), .val (.ref a1), .val (.int (0 : Int32)), .val (.int (0 : Int32)), .val .null, .unset] []))
  refine OGW.step (F' := T4.setTop (mkF m 18 #[.val (.ref a0), .val (.ref a1), .val (.int (0 : Int32)), .val (.int (0 : Int32)), .val .null, .unset] [(.ref a0)])) (fun t kt => ?_) ?_
  · show Steps p.tables e below (T4.setTop (mkF m 17 #[.val (.ref a0), .val (.ref a1), .val (.int (0 : Int32)), .val (.int (0 : Int32)), .val .null, .unset] [])) t
    refine XS.aloadN X4.here hx rfl (hb hby d3_17) rfl rfl ?_
    exact kt
  obtain ⟨a5, T5, h5, k5a, t5, k5, X5, e5, E5, hS, hk, hZ, hown, A5, Fc5, Fv5, V5, lt_a5, lt_t5, CS5, -, Ne5, st5⟩ := ldcCH X4 hx hZ hown (own_wd hw 51 rfl) (own_atoms hw) e4 hS hk hEL (List.mem_of_getElem? (i := 0) rfl) CR.1 (vs := []) (z := (0 : Int32)) ⟨by decide, by decide⟩ (by decide) rfl (g := (mkF m 18 #[.val (.ref a0), .val (.ref a1), .val (.int (0 : Int32)), .val (.int (0 : Int32)), .val .null, .unset] [(.ref a0)])) rfl (hb hby d3_18) (n := 0) (by decide) (by decide) (by decide) (by decide)
  have KC5 : Keep h0 h5 [a0] := KC4.ext E5
  have CR := CR.trans CS5
  have nx5_a0 := Ne5 a0 (CHr.safe (CHr.trans CS4 CS5) ltw4 sfw4)
  refine OGW.step st5 ?_
  show OGW _ _ _ _ _ _ _ _ _ _ (T5.setTop (mkF m 20 #[.val (.ref a0), .val (.ref a1), .val (.int (0 : Int32)), .val (.int (0 : Int32)), .val .null, .unset] [(.ref a5), (.ref a0)]))
  obtain ⟨T6, X6, e6, st6⟩ := getF X5 hx hZ hown (host := "") (Or.inl (own_wd hw 34 rfl)) Via.refl e5 Fc5 (g := (mkF m 20 #[.val (.ref a0), .val (.ref a1), .val (.int (0 : Int32)), .val (.int (0 : Int32)), .val .null, .unset] [(.ref a5), (.ref a0)])) rfl rfl (hb hby d3_20)
  refine OGW.step st6 ?_
  show OGW _ _ _ _ _ _ _ _ _ _ (T6.setTop (mkF m 23 #[.val (.ref a0), .val (.ref a1), .val (.int (0 : Int32)), .val (.int (0 : Int32)), .val .null, .unset] [(.int (0 : Int32)), (.ref a0)]))
  obtain ⟨T7, h7, X7, e7, W7, st7⟩ := putFN X6 hx hZ hown (own_wd hw 34 rfl) Via.refl e6 (((F_coder_a0.ext E2).other W4 (Or.inr (slot_ne (a0 := az) (Or.inr (own_wd hw 35 rfl)) (Or.inr (own_wd hw 37 rfl)) (by decide) (t := .byte) (t' := (.array .byte)) (by decide) (by decide)))).ext E5) (((E_a0.ext E2).wr W4).ext E5) (Or.inr ⟨(own_wd hw 35 rfl), rfl, hnm⟩) (own_wd hw 9 rfl) (ty := .byte) (v := (.int (0 : Int32))) (v' := (.int (0 : Int32))) (by decide) rfl (by decide) (g := (mkF m 23 #[.val (.ref a0), .val (.ref a1), .val (.int (0 : Int32)), .val (.int (0 : Int32)), .val .null, .unset] [(.int (0 : Int32)), (.ref a0)])) rfl rfl (hb hby d3_23)
  have Fw7 : Fld Z h7 a0 "java/lang/String" "coder" "B" (.int (0 : Int32)) := (((F_coder_a0.ext E2).other W4 (Or.inr (slot_ne (a0 := az) (Or.inr (own_wd hw 35 rfl)) (Or.inr (own_wd hw 37 rfl)) (by decide) (t := .byte) (t' := (.array .byte)) (by decide) (by decide)))).ext E5).same W7
  have KC7 : Keep h0 h7 [a0] := KC5.wr W7 (Or.inl (List.mem_of_getElem? (i := 0) rfl))
  have N7 := Fr.snoc X7 N4 gn_a0
  have CS7 := CHr.wr W7 (CHr.safe (CHr.trans CS4 CS5) ltw4 sfw4) CR.1
  have hk := Nat.le_trans hk (Nat.le_of_eq W7.size.symm)
  have CR := CR.trans CS7
  refine OGW.step st7 ?_
  show OGW _ _ _ _ _ _ _ _ _ _ (T7.setTop (mkF m 26 #[.val (.ref a0), .val (.ref a1), .val (.int (0 : Int32)), .val (.int (0 : Int32)), .val .null, .unset] []))
  refine OGW.retV X7 hx hlk hS hk hZ hEL CR e7 hret (hb hby d3_26) ?_ (by decide) (by decide)
  show Q3_0 Z a0 a1 u_coder_a0 h0 n0 _ T7.heap _
  rw [e7]
  exact ⟨t2, rfl, N7, KC7, ((((E_a0.ext E2).wr W4).ext E5).wr W7), ((Fw4.ext E5).other W7 (Or.inr (slot_ne (a0 := az) (Or.inr (own_wd hw 37 rfl)) (Or.inr (own_wd hw 35 rfl)) (by decide) (t := (.array .byte)) (t' := .byte) (by decide) (by decide)))), Fw7, ⟨_, (((V2.other W4 (Ne.symm nx2_a0.2)).ext E5).other W7 (Ne.symm nx2_a0.2))⟩⟩
/-! body 2: java/lang/String.<init>:([C)V -/
theorem pd_2_0_0 : parseMethodDescriptor "([CIILjava/lang/Void;)V" = some ⟨[(.array .char), .int, .int, (.object "java/lang/Void")], none⟩ := by decide +kernel
theorem ef_2_0 (m : MethodId) (x0 : Addr) (x1 : Addr) : entryFrame m #[(.ref x0), (.ref x1)] 2 = mkF m 0 #[.val (.ref x0), .val (.ref x1)] [] := by first | (simp [entryFrame, mkF, argsToLocals, Value.category]; done) | rfl
def Q2_0 (Z : State) (a0 : Addr) (a1 : Addr) (kc : ClassId) (u_coder_a0 : Value) (h0 : Heap) (n0 : Nat) (v : Option Value) (h : Heap) (L : List Loc) : Prop := ∃ t : Addr, v = none ∧ Fr n0 L ∧ Keep h0 h [a0] ∧ Exa Z h a0 "java/lang/String" ∧ Fld Z h a0 "java/lang/String" "value" "[B" (.ref t) ∧ Fld Z h a0 "java/lang/String" "coder" "B" (.int (0 : Int32)) ∧ OBs Z h t []
set_option maxRecDepth 65536 in
set_option maxHeartbeats 40000000 in
theorem rm2_0 (l : Launch) (Z : State) (az : Array Value) (hw : ∀ d ∈ tables_1, d.before az Z = true) (ws : List Jvm.Cond) (a0 : Addr) (a1 : Addr) (kc : ClassId) (u_coder_a0 : Value) (h0 : Heap) (n0 : Nat) (Z0 : n0 ≤ h0.size) (E_a0 : Exa Z h0 a0 "java/lang/String") (F_value_a0 : Fld Z h0 a0 "java/lang/String" "value" "[B" .null) (Vc_a1 : Arv Z h0 a1 kc .char (0 : Int32) [] (.int (0 : Int32))) (F_coder_a0 : Fld Z h0 a0 "java/lang/String" "coder" "B" u_coder_a0) (gn_a0 : n0 ≤ a0) :
    OCtrW l Z consts_1 (⟨"java/lang/String", "<init>", "([C)V"⟩ : MethodName) jdk_42_method_3_code 2 none ws ({ frames := 2, cells := 4, slots := 8, locals := 29 } : Room) #[(.ref a0), (.ref a1)] h0 (Q2_0 Z a0 a1 kc u_coder_a0 h0 n0) := by
  refine OCtrW.of (plainFor_of_name pn_2) ?_
  intro p e s m below meth c s₁ X0 hx hlk hZ hown0 hnm hby hml0 hret e0 hS CR
  have hown : s.vm.findClass "java/lang/String" = some m.cls := hown0
  have hml : c.maxLocals = 2 := hml0
  have N0 := Fr.nil n0
  refine OGW.step (fun t k => castTop (ef_2_0 m a0 a1) k) ?_
  have hk : h0.size ≤ h0.size := Nat.le_refl _
  have hEL : EW Z az consts_1 := own_EL hw
  refine OGW.step (F' := s₁.setTop (mkF m 4 #[.val (.ref a0), .val (.ref a1)] [(.ref a1), (.int (0 : Int32)), (.ref a1), (.ref a0)])) (fun t kt => ?_) ?_
  · show Steps p.tables e below (s₁.setTop (mkF m 0 #[.val (.ref a0), .val (.ref a1)] [])) t
    refine XS.aloadN X0.here hx rfl (hb hby d2_0) rfl rfl ?_
    show Steps p.tables e below (s₁.setTop (mkF m 1 #[.val (.ref a0), .val (.ref a1)] [(.ref a0)])) t
    refine XS.aloadN X0.here hx rfl (hb hby d2_1) rfl rfl ?_
    show Steps p.tables e below (s₁.setTop (mkF m 2 #[.val (.ref a0), .val (.ref a1)] [(.ref a1), (.ref a0)])) t
    refine XS.iconst X0.here hx rfl (hb hby d2_2) ?_
    show Steps p.tables e below (s₁.setTop (mkF m 3 #[.val (.ref a0), .val (.ref a1)] [(.int (0 : Int32)), (.ref a1), (.ref a0)])) t
    refine XS.aloadN X0.here hx rfl (hb hby d2_3) rfl rfl ?_
    exact kt
  obtain ⟨cl1, Ar1, q1, S1, N1a, H1, G1⟩ := id (Vc_a1)
  refine OGW.step (F' := s₁.setTop (mkF m 5 #[.val (.ref a0), .val (.ref a1)] [(.int (0 : Int32)), (.int (0 : Int32)), (.ref a1), (.ref a0)])) (fun t kt => ?_) ?_
  · show Steps p.tables e below (s₁.setTop (mkF m 4 #[.val (.ref a0), .val (.ref a1)] [(.ref a1), (.int (0 : Int32)), (.ref a1), (.ref a0)])) t
    refine X0.arraylength hx (by rw [e0]; exact Ar1.1) (State.isArrayOf_alike hZ.alike Ar1.2.1) (g := (mkF m 4 #[.val (.ref a0), .val (.ref a1)] [(.ref a1), (.int (0 : Int32)), (.ref a1), (.ref a0)])) rfl rfl (hb hby d2_4) _ ?_
    rw [len_of S1 N1a]
    exact kt
  refine OGW.step (F' := s₁.setTop (mkF m 6 #[.val (.ref a0), .val (.ref a1)] [.null, (.int (0 : Int32)), (.int (0 : Int32)), (.ref a1), (.ref a0)])) (fun t kt => ?_) ?_
  · show Steps p.tables e below (s₁.setTop (mkF m 5 #[.val (.ref a0), .val (.ref a1)] [(.int (0 : Int32)), (.int (0 : Int32)), (.ref a1), (.ref a0)])) t
    refine XS.aconstNull X0.here hx rfl (hb hby d2_5) ?_
    exact kt
  refine OGW.wcallC X0 hx hZ hS hk hEL CR.1 (y := (⟨"java/lang/String", "<init>", "([CIILjava/lang/Void;)V"⟩ : MethodName)) rfl hown (own_wd hw 15 rfl) (own_wd hw 16 rfl) (own_wd hw 10 rfl) (own_wd hw 18 rfl) (by decide) (rm3_0 l Z az hw [] a0 a1 u_coder_a0 h0 n0 Z0 E_a0 F_value_a0 gn_a0 F_coder_a0) (W := 0) (by decide) (by decide) (b := a0) (g := (mkF m 6 #[.val (.ref a0), .val (.ref a1)] [.null, (.int (0 : Int32)), (.int (0 : Int32)), (.ref a1), (.ref a0)])) rfl (by rw [hml]; rfl) (argsL := [(.ref a1), (.int (0 : Int32)), (.int (0 : Int32)), .null]) (rest := []) (lenOf pd_2_0_0 rfl) rfl (by show 2 * 0 + _ ≤ _; exact Nat.le_of_eq rfl) (hb hby d2_6) rfl e0 (by decide) (by decide) ?_
  rintro _ T2 L2 X2 hS hZ hown CS2 ⟨r2_t, rfl, Nq2, K2, P2_0, P2_1, P2_2, P2_3⟩
  have hk := Nat.le_refl T2.heap.size
  have CR := CR.trans CS2
  have KC2 : Keep h0 T2.heap [a0] := (Keep.refl h0 [a0]).trans K2 (allS (Or.inl (List.mem_of_getElem? (i := 0) rfl)) all0)
  have N2 := Fr.app N0 Nq2
  show OGW _ _ _ _ _ _ _ _ _ _ (T2.setTop (mkF m 9 #[.val (.ref a0), .val (.ref a1)] []))
  refine OGW.retV X2 hx hlk hS hk hZ hEL CR rfl hret (hb hby d2_9) ?_ (by decide) (by decide)
  show Q2_0 Z a0 a1 kc u_coder_a0 h0 n0 _ T2.heap _
  exact ⟨r2_t, rfl, N2, KC2, P2_0, P2_1, P2_2, P2_3⟩
theorem own_obs_ne {Z : State} {h : Heap} {a t : Addr} {C : String} {a0 : Array Value} {k : Nat} {bs : List Int32} (E : Exa Z h a C) (wi : (Jvm.Cond.instantiable C k).before a0 Z = true) (F : OBs Z h t bs) : t ≠ a := by
  obtain ⟨kk, cl, A, -⟩ := F
  exact Ne.symm (ne_arr E wi A)
def own_bc (x : Int32) : Int32 := own_by (nar .char x)
/-- the bytes of the String that str makes -/
def own_str (n a b d : Int32) : List Int32 := if n = (0 : Int32) then [] else if n = (1 : Int32) then [own_bc a] else if n = (2 : Int32) then [own_bc a, own_bc b] else [own_bc a, own_bc b, own_bc d]
def own_r (x : Int32) : Prop := 0 ≤ x.toInt ∧ x.toInt ≤ 255
theorem own_n255 (x : Int32) (h : own_r x) : ¬ ((255 : Int32) < nar .char x) := by
  show ¬ ((255 : Int32) < x.toUInt32.toUInt16.toUInt32.toInt32)
  have a1 := c_i2c x; obtain ⟨h1, h2⟩ := h
  rw [Int32.lt_iff_toInt_lt]; simp only [Int32.reduceToInt] at *; omega
theorem own_inj (x y : Int32) (h : own_r x) (g : own_r y) : own_bc x = own_bc y ↔ x = y := by
  refine ⟨fun q => ?_, fun q => by rw [q]⟩
  have q : x.toUInt32.toUInt16.toUInt32.toInt32.toInt8.toInt32.toInt8.toInt32 = y.toUInt32.toUInt16.toUInt32.toInt32.toInt8.toInt32.toInt8.toInt32 := q
  have a0 := c_i2c x; have b0 := c_i2c y
  generalize x.toUInt32.toUInt16.toUInt32.toInt32 = x' at *
  generalize y.toUInt32.toUInt16.toUInt32.toInt32 = y' at *
  have a1 := c_i2b x'; have a2 := c_i2b x'.toInt8.toInt32; have b1 := c_i2b y'; have b2 := c_i2b y'.toInt8.toInt32
  obtain ⟨h1, h2⟩ := h; obtain ⟨g1, g2⟩ := g
  rw [← Int32.toInt_inj] at q ⊢; omega
theorem own_sl (n a b d : Int32) : (own_str n a b d).length ≤ 3 := by
  unfold own_str; repeat' split
  all_goals simp
/-! body 1: com/example/querywire/querywire/HostAllowsPinLaw.str:(ICCC)Ljava/lang/String; -/
theorem d1_0 : decode method_2_code 0 = .ok (.iload_n 0, 1) := by decide +kernel
theorem d1_1 : decode method_2_code 1 = .ok (.ifCond .ne 14, 3) := by decide +kernel
theorem d1_4 : decode method_2_code 4 = .ok (.new 7, 3) := by decide +kernel
theorem d1_7 : decode method_2_code 7 = .ok (.dup, 1) := by decide +kernel
theorem d1_8 : decode method_2_code 8 = .ok (.iconst 0, 1) := by decide +kernel
theorem d1_9 : decode method_2_code 9 = .ok (.newarray .char, 2) := by decide +kernel
theorem d1_11 : decode method_2_code 11 = .ok (.invokespecial 9, 3) := by decide +kernel
theorem d1_14 : decode method_2_code 14 = .ok (.areturn, 1) := by decide +kernel
theorem d1_15 : decode method_2_code 15 = .ok (.iload_n 0, 1) := by decide +kernel
theorem d1_16 : decode method_2_code 16 = .ok (.iconst 1, 1) := by decide +kernel
theorem d1_17 : decode method_2_code 17 = .ok (.if_icmp .ne 18, 3) := by decide +kernel
theorem d1_20 : decode method_2_code 20 = .ok (.new 7, 3) := by decide +kernel
theorem d1_23 : decode method_2_code 23 = .ok (.dup, 1) := by decide +kernel
theorem d1_24 : decode method_2_code 24 = .ok (.iconst 1, 1) := by decide +kernel
theorem d1_25 : decode method_2_code 25 = .ok (.newarray .char, 2) := by decide +kernel
theorem d1_27 : decode method_2_code 27 = .ok (.dup, 1) := by decide +kernel
theorem d1_28 : decode method_2_code 28 = .ok (.iconst 0, 1) := by decide +kernel
theorem d1_29 : decode method_2_code 29 = .ok (.iload_n 1, 1) := by decide +kernel
theorem d1_30 : decode method_2_code 30 = .ok (.castore, 1) := by decide +kernel
theorem d1_31 : decode method_2_code 31 = .ok (.invokespecial 9, 3) := by decide +kernel
theorem d1_34 : decode method_2_code 34 = .ok (.areturn, 1) := by decide +kernel
theorem d1_35 : decode method_2_code 35 = .ok (.iload_n 0, 1) := by decide +kernel
theorem d1_36 : decode method_2_code 36 = .ok (.iconst 2, 1) := by decide +kernel
theorem d1_37 : decode method_2_code 37 = .ok (.if_icmp .ne 22, 3) := by decide +kernel
theorem d1_40 : decode method_2_code 40 = .ok (.new 7, 3) := by decide +kernel
theorem d1_43 : decode method_2_code 43 = .ok (.dup, 1) := by decide +kernel
theorem d1_44 : decode method_2_code 44 = .ok (.iconst 2, 1) := by decide +kernel
theorem d1_45 : decode method_2_code 45 = .ok (.newarray .char, 2) := by decide +kernel
theorem d1_47 : decode method_2_code 47 = .ok (.dup, 1) := by decide +kernel
theorem d1_48 : decode method_2_code 48 = .ok (.iconst 0, 1) := by decide +kernel
theorem d1_49 : decode method_2_code 49 = .ok (.iload_n 1, 1) := by decide +kernel
theorem d1_50 : decode method_2_code 50 = .ok (.castore, 1) := by decide +kernel
theorem d1_51 : decode method_2_code 51 = .ok (.dup, 1) := by decide +kernel
theorem d1_52 : decode method_2_code 52 = .ok (.iconst 1, 1) := by decide +kernel
theorem d1_53 : decode method_2_code 53 = .ok (.iload_n 2, 1) := by decide +kernel
theorem d1_54 : decode method_2_code 54 = .ok (.castore, 1) := by decide +kernel
theorem d1_55 : decode method_2_code 55 = .ok (.invokespecial 9, 3) := by decide +kernel
theorem d1_58 : decode method_2_code 58 = .ok (.areturn, 1) := by decide +kernel
theorem d1_59 : decode method_2_code 59 = .ok (.new 7, 3) := by decide +kernel
theorem d1_62 : decode method_2_code 62 = .ok (.dup, 1) := by decide +kernel
theorem d1_63 : decode method_2_code 63 = .ok (.iconst 3, 1) := by decide +kernel
theorem d1_64 : decode method_2_code 64 = .ok (.newarray .char, 2) := by decide +kernel
theorem d1_66 : decode method_2_code 66 = .ok (.dup, 1) := by decide +kernel
theorem d1_67 : decode method_2_code 67 = .ok (.iconst 0, 1) := by decide +kernel
theorem d1_68 : decode method_2_code 68 = .ok (.iload_n 1, 1) := by decide +kernel
theorem d1_69 : decode method_2_code 69 = .ok (.castore, 1) := by decide +kernel
theorem d1_70 : decode method_2_code 70 = .ok (.dup, 1) := by decide +kernel
theorem d1_71 : decode method_2_code 71 = .ok (.iconst 1, 1) := by decide +kernel
theorem d1_72 : decode method_2_code 72 = .ok (.iload_n 2, 1) := by decide +kernel
theorem d1_73 : decode method_2_code 73 = .ok (.castore, 1) := by decide +kernel
theorem d1_74 : decode method_2_code 74 = .ok (.dup, 1) := by decide +kernel
theorem d1_75 : decode method_2_code 75 = .ok (.iconst 2, 1) := by decide +kernel
theorem d1_76 : decode method_2_code 76 = .ok (.iload_n 3, 1) := by decide +kernel
theorem d1_77 : decode method_2_code 77 = .ok (.castore, 1) := by decide +kernel
theorem d1_78 : decode method_2_code 78 = .ok (.invokespecial 9, 3) := by decide +kernel
theorem d1_81 : decode method_2_code 81 = .ok (.areturn, 1) := by decide +kernel
theorem pn_1 : plainName "com/example/querywire/querywire/HostAllowsPinLaw" = true := by first | (simp [plainName, overriddenIn]; done) | decide +kernel
theorem pd_1_0 : parseMethodDescriptor "([C)V" = some ⟨[(.array .char)], none⟩ := by decide +kernel
theorem ef_1 (m : MethodId) (x0 : Int32) (x1 : Int32) (x2 : Int32) (x3 : Int32) : entryFrame m #[(.int x0), (.int x1), (.int x2), (.int x3)] 4 = mkF m 0 #[.val (.int x0), .val (.int x1), .val (.int x2), .val (.int x3)] [] := by first | (simp [entryFrame, mkF, argsToLocals, Value.category]; done) | rfl
def Q1 (Z : State) (p0 : Int32) (p1 : Int32) (p2 : Int32) (p3 : Int32) (w_COMPACT_STRINGS : Int32) (h0 : Heap) (n0 : Nat) (v : Option Value) (h : Heap) (L : List Loc) : Prop := ∃ r : Addr, ∃ t : Addr, v = some (.ref r) ∧ Fr n0 L ∧ Keep h0 h [] ∧ h0.size ≤ r ∧ Exa Z h r "java/lang/String" ∧ Fld Z h r "java/lang/String" "value" "[B" (.ref t) ∧ Fld Z h r "java/lang/String" "coder" "B" (.int (0 : Int32)) ∧ OBs Z h t (own_str p0 p1 p2 p3)
set_option maxRecDepth 65536 in
set_option maxHeartbeats 40000000 in
theorem rm1 (l : Launch) (Z : State) (az : Array Value) (hw : ∀ d ∈ tables_1, d.before az Z = true) (ws : List Jvm.Cond) (p0 : Int32) (p1 : Int32) (p2 : Int32) (p3 : Int32) (w_COMPACT_STRINGS : Int32) (h0 : Heap) (n0 : Nat) (Z0 : n0 ≤ h0.size) (hC : ¬ (w_COMPACT_STRINGS = (0 : Int32))) (hr1 : own_r p1) (hr2 : own_r p2) (hr3 : own_r p3) (S_String_COMPACT_STRINGS : Sta Z h0 "java/lang/String" "COMPACT_STRINGS" "Z" (.int w_COMPACT_STRINGS)) :
    OCtrW l Z consts_1 (⟨"com/example/querywire/querywire/HostAllowsPinLaw", "str", "(ICCC)Ljava/lang/String;"⟩ : MethodName) method_2_code 4 (some (.object "java/lang/String")) ws ({ frames := 4, cells := 6, slots := 12, locals := 66 } : Room) #[(.int p0), (.int p1), (.int p2), (.int p3)] h0 (Q1 Z p0 p1 p2 p3 w_COMPACT_STRINGS h0 n0) := by
  refine OCtrW.of (plainFor_of_name pn_1) ?_
  intro p e s m below meth c s₁ X0 hx hlk hZ hown0 hnm hby hml0 hret e0 hS CR
  have hown : s.vm.findClass "com/example/querywire/querywire/HostAllowsPinLaw" = some m.cls := hown0
  have hml : c.maxLocals = 4 := hml0
  have N0 := Fr.nil n0
  refine OGW.step (fun t k => castTop (ef_1 m p0 p1 p2 p3) k) ?_
  have hk : h0.size ≤ h0.size := Nat.le_refl _
  have hEL : EW Z az consts_1 := own_EL hw
  refine OGW.step (F' := s₁.setTop (mkF m 1 #[.val (.int p0), .val (.int p1), .val (.int p2), .val (.int p3)] [(.int p0)])) (fun t kt => ?_) ?_
  · show Steps p.tables e below (s₁.setTop (mkF m 0 #[.val (.int p0), .val (.int p1), .val (.int p2), .val (.int p3)] [])) t
    refine XS.iloadN X0.here hx rfl (hb hby d1_0) rfl ?_
    exact kt
  by_cases hc1 : p0 = (0 : Int32)
  · refine OGW.step (F' := s₁.setTop (mkF m 4 #[.val (.int p0), .val (.int p1), .val (.int p2), .val (.int p3)] [])) (fun t kt => ?_) ?_
    · show Steps p.tables e below (s₁.setTop (mkF m 1 #[.val (.int p0), .val (.int p1), .val (.int p2), .val (.int p3)] [(.int p0)])) t
      refine XS.ifNo X0.here hx rfl (hb hby d1_1) rfl ((if0 _ _).trans (teq hc1).2) ?_
      exact kt
    obtain ⟨T1, h1, X1, e1, E1, A1, D1, -, st1⟩ := newO X0 hx hZ hown (own_wd hw 8 rfl) (own_wd hw 9 rfl) (own_wd hw 10 rfl) e0 (g := (mkF m 4 #[.val (.int p0), .val (.int p1), .val (.int p2), .val (.int p3)] [])) rfl (hb hby d1_4) (by decide) (by decide)
    obtain ⟨b1, g1⟩ : ∃ z, z = h0.size := ⟨_, rfl⟩
    rw [← g1] at A1 D1 st1
    have sz_b1 : h0.size ≤ b1 := Nat.le_trans (Keep.refl h0 []).1 (Nat.le_of_eq g1.symm)
    have gn_b1 : n0 ≤ b1 := Nat.le_trans Z0 sz_b1
    have KC1 : Keep h0 h1 [] := (Keep.refl h0 []).ext E1
    have sf_b1 : Safe Z consts_1 _ h1 b1 := Safe.ext E1 CR.1 (Safe.new (Nat.le_of_eq g1.symm))
    have lt_b1 : b1 < h1.size := A1.lt
    have CS1 := CHr.ext E1 CR.1
    have hk := Nat.le_trans hk E1.1
    have CR := CR.trans CS1
    have F1_coder : Fld Z h1 b1 "java/lang/String" "coder" "B" (.int (0 : Int32)) := D1 (Or.inr (own_wd hw 35 rfl)) (ty := .byte) (by decide)
    have F1_value : Fld Z h1 b1 "java/lang/String" "value" "[B" .null := D1 (Or.inr (own_wd hw 37 rfl)) (ty := (.array .byte)) (by decide)
    refine OGW.step st1 ?_
    show OGW _ _ _ _ _ _ _ _ _ _ (T1.setTop (mkF m 7 #[.val (.int p0), .val (.int p1), .val (.int p2), .val (.int p3)] [(.ref b1)]))
    refine OGW.step (F' := T1.setTop (mkF m 9 #[.val (.int p0), .val (.int p1), .val (.int p2), .val (.int p3)] [(.int (0 : Int32)), (.ref b1), (.ref b1)])) (fun t kt => ?_) ?_
    · show Steps p.tables e below (T1.setTop (mkF m 7 #[.val (.int p0), .val (.int p1), .val (.int p2), .val (.int p3)] [(.ref b1)])) t
      refine XS.dup X1.here hx rfl (hb hby d1_7) rfl rfl ?_
      show Steps p.tables e below (T1.setTop (mkF m 8 #[.val (.int p0), .val (.int p1), .val (.int p2), .val (.int p3)] [(.ref b1), (.ref b1)])) t
      refine XS.iconst X1.here hx rfl (hb hby d1_8) ?_
      exact kt
    obtain ⟨T2, h2, k2, X2, e2, E2, A2, st2⟩ := newP X1 hx hZ (own_wd hw 11 rfl) e1 (g := (mkF m 9 #[.val (.int p0), .val (.int p1), .val (.int p2), .val (.int p3)] [(.int (0 : Int32)), (.ref b1), (.ref b1)])) rfl (hb hby d1_9) rfl (by decide) (cap := 0) (by decide) (by decide) (by decide) (by decide)
    obtain ⟨b2, g2⟩ : ∃ z, z = h1.size := ⟨_, rfl⟩
    rw [← g2] at A2 st2
    have sz_b2 : h0.size ≤ b2 := Nat.le_trans KC1.1 (Nat.le_of_eq g2.symm)
    have gn_b2 : n0 ≤ b2 := Nat.le_trans Z0 sz_b2
    have KC2 : Keep h0 h2 [] := KC1.ext E2
    have sf_b2 : Safe Z consts_1 _ h2 b2 := Safe.ext E2 CR.1 (Safe.new (Nat.le_of_eq g2.symm))
    have lt_b2 : b2 < h2.size := A2.lt
    have CS2 := CHr.ext E2 CR.1
    have hk := Nat.le_trans hk E2.1
    have CR := CR.trans CS2
    have V2 : Arv Z h2 b2 k2 .char (0 : Int32) [] (.int (0 : Int32)) := (Arv.new A2 (by decide)).pad (pad_rep [] (.int (0 : Int32)) 0)
    refine OGW.step st2 ?_
    show OGW _ _ _ _ _ _ _ _ _ _ (T2.setTop (mkF m 11 #[.val (.int p0), .val (.int p1), .val (.int p2), .val (.int p3)] [(.ref b2), (.ref b1), (.ref b1)]))
    refine OGW.wcallC X2 hx hZ hS hk hEL CR.1 (y := (⟨"java/lang/String", "<init>", "([C)V"⟩ : MethodName)) rfl hown (own_wd hw 12 rfl) (own_wd hw 13 rfl) (own_wd hw 10 rfl) (own_wd hw 14 rfl) (by decide) (rm2_0 l Z az hw [] b1 b2 k2 (.int (0 : Int32)) h2 n0 (Nat.le_trans Z0 KC2.1) (A1.ext E2) (F1_value.ext E2) V2 (F1_coder.ext E2) gn_b1) (W := 1) (by decide) (by decide) (b := b1) (g := (mkF m 11 #[.val (.int p0), .val (.int p1), .val (.int p2), .val (.int p3)] [(.ref b2), (.ref b1), (.ref b1)])) rfl (by rw [hml]; rfl) (argsL := [(.ref b2)]) (rest := [(.ref b1)]) (lenOf pd_1_0 rfl) rfl (by show 2 * 0 + _ ≤ _; exact Nat.le_of_eq rfl) (hb hby d1_11) rfl e2 (by decide) (by decide) ?_
    rintro _ T3 L3 X3 hS hZ hown CS3 ⟨r3_t, rfl, Nq3, K3, P3_0, P3_1, P3_2, P3_3⟩
    have hk := Nat.le_refl T3.heap.size
    have CR := CR.trans CS3
    have KC3 : Keep h0 T3.heap [] := KC2.trans K3 (allS (Or.inr sz_b1) all0)
    have N3 := Fr.app N0 Nq3
    show OGW _ _ _ _ _ _ _ _ _ _ (T3.setTop (mkF m 14 #[.val (.int p0), .val (.int p1), .val (.int p2), .val (.int p3)] [(.ref b1)]))
    refine OGW.retA X3 hx hlk hS hk hZ hEL CR rfl (t := (.object "java/lang/String")) hret rfl rfl rfl (hb hby d1_14) ?_ (by decide) (by decide)
    show Q1 Z p0 p1 p2 p3 w_COMPACT_STRINGS h0 n0 _ T3.heap _
    exact ⟨b1, r3_t, rfl, N3, KC3, sz_b1, P3_0, P3_1, P3_2, (by rw [own_str, if_pos hc1]; exact P3_3)⟩
  · refine OGW.step (F' := s₁.setTop (mkF m 15 #[.val (.int p0), .val (.int p1), .val (.int p2), .val (.int p3)] [])) (fun t kt => ?_) ?_
    · show Steps p.tables e below (s₁.setTop (mkF m 1 #[.val (.int p0), .val (.int p1), .val (.int p2), .val (.int p3)] [(.int p0)])) t
      refine XS.ifYes X0.here hx rfl (pc0 := 1) (pc' := 15) rfl (hb hby d1_1) rfl ((if0 _ _).trans (feq hc1).2) (by decide) (by decide) ?_
      exact kt
    refine OGW.step (F' := s₁.setTop (mkF m 17 #[.val (.int p0), .val (.int p1), .val (.int p2), .val (.int p3)] [(.int (1 : Int32)), (.int p0)])) (fun t kt => ?_) ?_
    · show Steps p.tables e below (s₁.setTop (mkF m 15 #[.val (.int p0), .val (.int p1), .val (.int p2), .val (.int p3)] [])) t
      refine XS.iloadN X0.here hx rfl (hb hby d1_15) rfl ?_
      show Steps p.tables e below (s₁.setTop (mkF m 16 #[.val (.int p0), .val (.int p1), .val (.int p2), .val (.int p3)] [(.int p0)])) t
      refine XS.iconst X0.here hx rfl (hb hby d1_16) ?_
      exact kt
    by_cases hc17 : p0 = (1 : Int32)
    · refine OGW.step (F' := s₁.setTop (mkF m 20 #[.val (.int p0), .val (.int p1), .val (.int p2), .val (.int p3)] [])) (fun t kt => ?_) ?_
      · show Steps p.tables e below (s₁.setTop (mkF m 17 #[.val (.int p0), .val (.int p1), .val (.int p2), .val (.int p3)] [(.int (1 : Int32)), (.int p0)])) t
        refine XS.icmpNo X0.here hx rfl (hb hby d1_17) rfl (teq hc17).2 ?_
        exact kt
      obtain ⟨T4, h4, X4, e4, E4, A4, D4, -, st4⟩ := newO X0 hx hZ hown (own_wd hw 8 rfl) (own_wd hw 9 rfl) (own_wd hw 10 rfl) e0 (g := (mkF m 20 #[.val (.int p0), .val (.int p1), .val (.int p2), .val (.int p3)] [])) rfl (hb hby d1_20) (by decide) (by decide)
      obtain ⟨b4, g4⟩ : ∃ z, z = h0.size := ⟨_, rfl⟩
      rw [← g4] at A4 D4 st4
      have sz_b4 : h0.size ≤ b4 := Nat.le_trans (Keep.refl h0 []).1 (Nat.le_of_eq g4.symm)
      have gn_b4 : n0 ≤ b4 := Nat.le_trans Z0 sz_b4
      have KC4 : Keep h0 h4 [] := (Keep.refl h0 []).ext E4
      have sf_b4 : Safe Z consts_1 _ h4 b4 := Safe.ext E4 CR.1 (Safe.new (Nat.le_of_eq g4.symm))
      have lt_b4 : b4 < h4.size := A4.lt
      have CS4 := CHr.ext E4 CR.1
      have hk := Nat.le_trans hk E4.1
      have CR := CR.trans CS4
      have F4_coder : Fld Z h4 b4 "java/lang/String" "coder" "B" (.int (0 : Int32)) := D4 (Or.inr (own_wd hw 35 rfl)) (ty := .byte) (by decide)
      have F4_value : Fld Z h4 b4 "java/lang/String" "value" "[B" .null := D4 (Or.inr (own_wd hw 37 rfl)) (ty := (.array .byte)) (by decide)
      refine OGW.step st4 ?_
      show OGW _ _ _ _ _ _ _ _ _ _ (T4.setTop (mkF m 23 #[.val (.int p0), .val (.int p1), .val (.int p2), .val (.int p3)] [(.ref b4)]))
      refine OGW.step (F' := T4.setTop (mkF m 25 #[.val (.int p0), .val (.int p1), .val (.int p2), .val (.int p3)] [(.int (1 : Int32)), (.ref b4), (.ref b4)])) (fun t kt => ?_) ?_
      · show Steps p.tables e below (T4.setTop (mkF m 23 #[.val (.int p0), .val (.int p1), .val (.int p2), .val (.int p3)] [(.ref b4)])) t
        refine XS.dup X4.here hx rfl (hb hby d1_23) rfl rfl ?_
        show Steps p.tables e below (T4.setTop (mkF m 24 #[.val (.int p0), .val (.int p1), .val (.int p2), .val (.int p3)] [(.ref b4), (.ref b4)])) t
        refine XS.iconst X4.here hx rfl (hb hby d1_24) ?_
        exact kt
      obtain ⟨T5, h5, k5, X5, e5, E5, A5, st5⟩ := newP X4 hx hZ (own_wd hw 11 rfl) e4 (g := (mkF m 25 #[.val (.int p0), .val (.int p1), .val (.int p2), .val (.int p3)] [(.int (1 : Int32)), (.ref b4), (.ref b4)])) rfl (hb hby d1_25) rfl (by decide) (cap := 1) (by decide) (by decide) (by decide) (by decide)
      obtain ⟨b5, g5⟩ : ∃ z, z = h4.size := ⟨_, rfl⟩
      rw [← g5] at A5 st5
      have sz_b5 : h0.size ≤ b5 := Nat.le_trans KC4.1 (Nat.le_of_eq g5.symm)
      have gn_b5 : n0 ≤ b5 := Nat.le_trans Z0 sz_b5
      have KC5 : Keep h0 h5 [] := KC4.ext E5
      have sf_b5 : Safe Z consts_1 _ h5 b5 := Safe.ext E5 CR.1 (Safe.new (Nat.le_of_eq g5.symm))
      have lt_b5 : b5 < h5.size := A5.lt
      have CS5 := CHr.ext E5 CR.1
      have hk := Nat.le_trans hk E5.1
      have CR := CR.trans CS5
      have V5 : Arv Z h5 b5 k5 .char (1 : Int32) [(.int (0 : Int32))] (.int (0 : Int32)) := (Arv.new A5 (by decide)).pad (pad_rep [] (.int (0 : Int32)) 1)
      refine OGW.step st5 ?_
      show OGW _ _ _ _ _ _ _ _ _ _ (T5.setTop (mkF m 27 #[.val (.int p0), .val (.int p1), .val (.int p2), .val (.int p3)] [(.ref b5), (.ref b4), (.ref b4)]))
      refine OGW.step (F' := T5.setTop (mkF m 30 #[.val (.int p0), .val (.int p1), .val (.int p2), .val (.int p3)] [(.int p1), (.int (0 : Int32)), (.ref b5), (.ref b5), (.ref b4), (.ref b4)])) (fun t kt => ?_) ?_
      · show Steps p.tables e below (T5.setTop (mkF m 27 #[.val (.int p0), .val (.int p1), .val (.int p2), .val (.int p3)] [(.ref b5), (.ref b4), (.ref b4)])) t
        refine XS.dup X5.here hx rfl (hb hby d1_27) rfl rfl ?_
        show Steps p.tables e below (T5.setTop (mkF m 28 #[.val (.int p0), .val (.int p1), .val (.int p2), .val (.int p3)] [(.ref b5), (.ref b5), (.ref b4), (.ref b4)])) t
        refine XS.iconst X5.here hx rfl (hb hby d1_28) ?_
        show Steps p.tables e below (T5.setTop (mkF m 29 #[.val (.int p0), .val (.int p1), .val (.int p2), .val (.int p3)] [(.int (0 : Int32)), (.ref b5), (.ref b5), (.ref b4), (.ref b4)])) t
        refine XS.iloadN X5.here hx rfl (hb hby d1_29) rfl ?_
        exact kt
      obtain ⟨cl6, Ar6, q6, S6, N6a, H6, G6⟩ := id (V5)
      have hin6 : ¬ ((0 : Int32) < 0 ∨ cl6.slots.size ≤ ((0 : Int32)).toNatClampNeg) := inb_of S6 ⟨by decide, by decide⟩
      obtain ⟨T6, h6, X6, e6, W6, st6⟩ := stC X5 hx hZ e5 Ar6 (j := (0 : Int32)) hin6 (g := (mkF m 30 #[.val (.int p0), .val (.int p1), .val (.int p2), .val (.int p3)] [(.int p1), (.int (0 : Int32)), (.ref b5), (.ref b5), (.ref b4), (.ref b4)])) rfl rfl (hb hby d1_30)
      have V6 : Arv Z h6 b5 k5 .char (1 : Int32) [(.int (nar .char p1))] (.int (0 : Int32)) := Arv.set Ar6 q6 S6 N6a H6 G6 (fits_nar_char _) W6 0 rfl (Nat.le_of_ble_eq_true rfl)
      have KC6 : Keep h0 h6 [] := KC5.wr W6 (Or.inr sz_b5)
      have N6 := Fr.snoc X6 N0 gn_b5
      have CS6 := CHr.wr W6 sf_b5 CR.1
      have hk := Nat.le_trans hk (Nat.le_of_eq W6.size.symm)
      have CR := CR.trans CS6
      refine OGW.step st6 ?_
      show OGW _ _ _ _ _ _ _ _ _ _ (T6.setTop (mkF m 31 #[.val (.int p0), .val (.int p1), .val (.int p2), .val (.int p3)] [(.ref b5), (.ref b4), (.ref b4)]))
      refine OGW.callC X6 hx hZ (y := (⟨"java/lang/String", "<init>", "([C)V"⟩ : MethodName)) rfl hown (own_wd hw 12 rfl) (own_wd hw 13 rfl) (own_wd hw 10 rfl) (own_wd hw 14 rfl) (by decide) (rm2_1 l Z az hw [] b4 b5 k5 (nar .char p1) w_COMPACT_STRINGS (.int (0 : Int32)) .null h6 n0 (Nat.le_trans Z0 KC6.1) V6 hC (Ne.symm (Nat.ne_of_lt (Nat.lt_of_lt_of_le A4.lt (Nat.le_of_eq g5.symm)))) (own_n255 _ hr1) (((S_String_COMPACT_STRINGS.ext E4).ext E5).wr W6) ((A4.ext E5).wr W6) ((F4_coder.ext E5).other W6 (Or.inl (Nat.ne_of_lt (Nat.lt_of_lt_of_le A4.lt (Nat.le_of_eq g5.symm))))) ((F4_value.ext E5).other W6 (Or.inl (Nat.ne_of_lt (Nat.lt_of_lt_of_le A4.lt (Nat.le_of_eq g5.symm))))) gn_b4) (W := 1) (by decide) (by decide) (b := b4) (g := (mkF m 31 #[.val (.int p0), .val (.int p1), .val (.int p2), .val (.int p3)] [(.ref b5), (.ref b4), (.ref b4)])) rfl (by rw [hml]; rfl) (argsL := [(.ref b5)]) (rest := [(.ref b4)]) (lenOf pd_1_0 rfl) rfl (by show 2 * 0 + _ ≤ _; exact Nat.le_of_eq rfl) (hb hby d1_31) rfl e6 (by decide) (by decide) ?_
      rintro _ T7 L7 X7 ⟨r7_t, rfl, Nq7, K7, P7_0, P7_1, P7_2, P7_3⟩
      have CS7 := CHr.keep K7 (allS (CHr.safe (CHr.trans CS5 CS6) lt_b4 sf_b4) all0) CR.1
      have hk := Nat.le_trans hk K7.1
      have CR := CR.trans CS7
      have KC7 : Keep h0 T7.heap [] := KC6.trans K7 (allS (Or.inr sz_b4) all0)
      have N7 := Fr.app N6 Nq7
      show OGW _ _ _ _ _ _ _ _ _ _ (T7.setTop (mkF m 34 #[.val (.int p0), .val (.int p1), .val (.int p2), .val (.int p3)] [(.ref b4)]))
      refine OGW.retA X7 hx hlk hS hk hZ hEL CR rfl (t := (.object "java/lang/String")) hret rfl rfl rfl (hb hby d1_34) ?_ (by decide) (by decide)
      show Q1 Z p0 p1 p2 p3 w_COMPACT_STRINGS h0 n0 _ T7.heap _
      exact ⟨b4, r7_t, rfl, N7, KC7, sz_b4, P7_0, P7_1, P7_2, (by rw [own_str, if_neg hc1, if_pos hc17]; exact P7_3)⟩
    · refine OGW.step (F' := s₁.setTop (mkF m 35 #[.val (.int p0), .val (.int p1), .val (.int p2), .val (.int p3)] [])) (fun t kt => ?_) ?_
      · show Steps p.tables e below (s₁.setTop (mkF m 17 #[.val (.int p0), .val (.int p1), .val (.int p2), .val (.int p3)] [(.int (1 : Int32)), (.int p0)])) t
        refine XS.icmpYes X0.here hx rfl (pc0 := 17) (pc' := 35) rfl (hb hby d1_17) rfl (feq hc17).2 (by decide) (by decide) ?_
        exact kt
      refine OGW.step (F' := s₁.setTop (mkF m 37 #[.val (.int p0), .val (.int p1), .val (.int p2), .val (.int p3)] [(.int (2 : Int32)), (.int p0)])) (fun t kt => ?_) ?_
      · show Steps p.tables e below (s₁.setTop (mkF m 35 #[.val (.int p0), .val (.int p1), .val (.int p2), .val (.int p3)] [])) t
        refine XS.iloadN X0.here hx rfl (hb hby d1_35) rfl ?_
        show Steps p.tables e below (s₁.setTop (mkF m 36 #[.val (.int p0), .val (.int p1), .val (.int p2), .val (.int p3)] [(.int p0)])) t
        refine XS.iconst X0.here hx rfl (hb hby d1_36) ?_
        exact kt
      by_cases hc37 : p0 = (2 : Int32)
      · refine OGW.step (F' := s₁.setTop (mkF m 40 #[.val (.int p0), .val (.int p1), .val (.int p2), .val (.int p3)] [])) (fun t kt => ?_) ?_
        · show Steps p.tables e below (s₁.setTop (mkF m 37 #[.val (.int p0), .val (.int p1), .val (.int p2), .val (.int p3)] [(.int (2 : Int32)), (.int p0)])) t
          refine XS.icmpNo X0.here hx rfl (hb hby d1_37) rfl (teq hc37).2 ?_
          exact kt
        obtain ⟨T8, h8, X8, e8, E8, A8, D8, -, st8⟩ := newO X0 hx hZ hown (own_wd hw 8 rfl) (own_wd hw 9 rfl) (own_wd hw 10 rfl) e0 (g := (mkF m 40 #[.val (.int p0), .val (.int p1), .val (.int p2), .val (.int p3)] [])) rfl (hb hby d1_40) (by decide) (by decide)
        obtain ⟨b8, g8⟩ : ∃ z, z = h0.size := ⟨_, rfl⟩
        rw [← g8] at A8 D8 st8
        have sz_b8 : h0.size ≤ b8 := Nat.le_trans (Keep.refl h0 []).1 (Nat.le_of_eq g8.symm)
        have gn_b8 : n0 ≤ b8 := Nat.le_trans Z0 sz_b8
        have KC8 : Keep h0 h8 [] := (Keep.refl h0 []).ext E8
        have sf_b8 : Safe Z consts_1 _ h8 b8 := Safe.ext E8 CR.1 (Safe.new (Nat.le_of_eq g8.symm))
        have lt_b8 : b8 < h8.size := A8.lt
        have CS8 := CHr.ext E8 CR.1
        have hk := Nat.le_trans hk E8.1
        have CR := CR.trans CS8
        have F8_coder : Fld Z h8 b8 "java/lang/String" "coder" "B" (.int (0 : Int32)) := D8 (Or.inr (own_wd hw 35 rfl)) (ty := .byte) (by decide)
        have F8_value : Fld Z h8 b8 "java/lang/String" "value" "[B" .null := D8 (Or.inr (own_wd hw 37 rfl)) (ty := (.array .byte)) (by decide)
        refine OGW.step st8 ?_
        show OGW _ _ _ _ _ _ _ _ _ _ (T8.setTop (mkF m 43 #[.val (.int p0), .val (.int p1), .val (.int p2), .val (.int p3)] [(.ref b8)]))
        refine OGW.step (F' := T8.setTop (mkF m 45 #[.val (.int p0), .val (.int p1), .val (.int p2), .val (.int p3)] [(.int (2 : Int32)), (.ref b8), (.ref b8)])) (fun t kt => ?_) ?_
        · show Steps p.tables e below (T8.setTop (mkF m 43 #[.val (.int p0), .val (.int p1), .val (.int p2), .val (.int p3)] [(.ref b8)])) t
          refine XS.dup X8.here hx rfl (hb hby d1_43) rfl rfl ?_
          show Steps p.tables e below (T8.setTop (mkF m 44 #[.val (.int p0), .val (.int p1), .val (.int p2), .val (.int p3)] [(.ref b8), (.ref b8)])) t
          refine XS.iconst X8.here hx rfl (hb hby d1_44) ?_
          exact kt
        obtain ⟨T9, h9, k9, X9, e9, E9, A9, st9⟩ := newP X8 hx hZ (own_wd hw 11 rfl) e8 (g := (mkF m 45 #[.val (.int p0), .val (.int p1), .val (.int p2), .val (.int p3)] [(.int (2 : Int32)), (.ref b8), (.ref b8)])) rfl (hb hby d1_45) rfl (by decide) (cap := 2) (by decide) (by decide) (by decide) (by decide)
        obtain ⟨b9, g9⟩ : ∃ z, z = h8.size := ⟨_, rfl⟩
        rw [← g9] at A9 st9
        have sz_b9 : h0.size ≤ b9 := Nat.le_trans KC8.1 (Nat.le_of_eq g9.symm)
        have gn_b9 : n0 ≤ b9 := Nat.le_trans Z0 sz_b9
        have KC9 : Keep h0 h9 [] := KC8.ext E9
        have sf_b9 : Safe Z consts_1 _ h9 b9 := Safe.ext E9 CR.1 (Safe.new (Nat.le_of_eq g9.symm))
        have lt_b9 : b9 < h9.size := A9.lt
        have CS9 := CHr.ext E9 CR.1
        have hk := Nat.le_trans hk E9.1
        have CR := CR.trans CS9
        have V9 : Arv Z h9 b9 k9 .char (2 : Int32) [(.int (0 : Int32)), (.int (0 : Int32))] (.int (0 : Int32)) := (Arv.new A9 (by decide)).pad (pad_rep [] (.int (0 : Int32)) 2)
        refine OGW.step st9 ?_
        show OGW _ _ _ _ _ _ _ _ _ _ (T9.setTop (mkF m 47 #[.val (.int p0), .val (.int p1), .val (.int p2), .val (.int p3)] [(.ref b9), (.ref b8), (.ref b8)]))
        refine OGW.step (F' := T9.setTop (mkF m 50 #[.val (.int p0), .val (.int p1), .val (.int p2), .val (.int p3)] [(.int p1), (.int (0 : Int32)), (.ref b9), (.ref b9), (.ref b8), (.ref b8)])) (fun t kt => ?_) ?_
        · show Steps p.tables e below (T9.setTop (mkF m 47 #[.val (.int p0), .val (.int p1), .val (.int p2), .val (.int p3)] [(.ref b9), (.ref b8), (.ref b8)])) t
          refine XS.dup X9.here hx rfl (hb hby d1_47) rfl rfl ?_
          show Steps p.tables e below (T9.setTop (mkF m 48 #[.val (.int p0), .val (.int p1), .val (.int p2), .val (.int p3)] [(.ref b9), (.ref b9), (.ref b8), (.ref b8)])) t
          refine XS.iconst X9.here hx rfl (hb hby d1_48) ?_
          show Steps p.tables e below (T9.setTop (mkF m 49 #[.val (.int p0), .val (.int p1), .val (.int p2), .val (.int p3)] [(.int (0 : Int32)), (.ref b9), (.ref b9), (.ref b8), (.ref b8)])) t
          refine XS.iloadN X9.here hx rfl (hb hby d1_49) rfl ?_
          exact kt
        obtain ⟨cl10, Ar10, q10, S10, N10a, H10, G10⟩ := id (V9)
        have hin10 : ¬ ((0 : Int32) < 0 ∨ cl10.slots.size ≤ ((0 : Int32)).toNatClampNeg) := inb_of S10 ⟨by decide, by decide⟩
        obtain ⟨T10, h10, X10, e10, W10, st10⟩ := stC X9 hx hZ e9 Ar10 (j := (0 : Int32)) hin10 (g := (mkF m 50 #[.val (.int p0), .val (.int p1), .val (.int p2), .val (.int p3)] [(.int p1), (.int (0 : Int32)), (.ref b9), (.ref b9), (.ref b8), (.ref b8)])) rfl rfl (hb hby d1_50)
        have V10 : Arv Z h10 b9 k9 .char (2 : Int32) [(.int (nar .char p1)), (.int (0 : Int32))] (.int (0 : Int32)) := Arv.set Ar10 q10 S10 N10a H10 G10 (fits_nar_char _) W10 0 rfl (Nat.le_of_ble_eq_true rfl)
        have KC10 : Keep h0 h10 [] := KC9.wr W10 (Or.inr sz_b9)
        have N10 := Fr.snoc X10 N0 gn_b9
        have CS10 := CHr.wr W10 sf_b9 CR.1
        have hk := Nat.le_trans hk (Nat.le_of_eq W10.size.symm)
        have CR := CR.trans CS10
        refine OGW.step st10 ?_
        show OGW _ _ _ _ _ _ _ _ _ _ (T10.setTop (mkF m 51 #[.val (.int p0), .val (.int p1), .val (.int p2), .val (.int p3)] [(.ref b9), (.ref b8), (.ref b8)]))
        refine OGW.step (F' := T10.setTop (mkF m 54 #[.val (.int p0), .val (.int p1), .val (.int p2), .val (.int p3)] [(.int p2), (.int (1 : Int32)), (.ref b9), (.ref b9), (.ref b8), (.ref b8)])) (fun t kt => ?_) ?_
        · show Steps p.tables e below (T10.setTop (mkF m 51 #[.val (.int p0), .val (.int p1), .val (.int p2), .val (.int p3)] [(.ref b9), (.ref b8), (.ref b8)])) t
          refine XS.dup X10.here hx rfl (hb hby d1_51) rfl rfl ?_
          show Steps p.tables e below (T10.setTop (mkF m 52 #[.val (.int p0), .val (.int p1), .val (.int p2), .val (.int p3)] [(.ref b9), (.ref b9), (.ref b8), (.ref b8)])) t
          refine XS.iconst X10.here hx rfl (hb hby d1_52) ?_
          show Steps p.tables e below (T10.setTop (mkF m 53 #[.val (.int p0), .val (.int p1), .val (.int p2), .val (.int p3)] [(.int (1 : Int32)), (.ref b9), (.ref b9), (.ref b8), (.ref b8)])) t
          refine XS.iloadN X10.here hx rfl (hb hby d1_53) rfl ?_
          exact kt
        obtain ⟨cl11, Ar11, q11, S11, N11a, H11, G11⟩ := id (V10)
        have hin11 : ¬ ((1 : Int32) < 0 ∨ cl11.slots.size ≤ ((1 : Int32)).toNatClampNeg) := inb_of S11 ⟨by decide, by decide⟩
        obtain ⟨T11, h11, X11, e11, W11, st11⟩ := stC X10 hx hZ e10 Ar11 (j := (1 : Int32)) hin11 (g := (mkF m 54 #[.val (.int p0), .val (.int p1), .val (.int p2), .val (.int p3)] [(.int p2), (.int (1 : Int32)), (.ref b9), (.ref b9), (.ref b8), (.ref b8)])) rfl rfl (hb hby d1_54)
        have V11 : Arv Z h11 b9 k9 .char (2 : Int32) [(.int (nar .char p1)), (.int (nar .char p2))] (.int (0 : Int32)) := Arv.set Ar11 q11 S11 N11a H11 G11 (fits_nar_char _) W11 1 rfl (Nat.le_of_ble_eq_true rfl)
        have KC11 : Keep h0 h11 [] := KC10.wr W11 (Or.inr sz_b9)
        have N11 := Fr.snoc X11 N10 gn_b9
        have CS11 := CHr.wr W11 (CHr.safe CS10 lt_b9 sf_b9) CR.1
        have hk := Nat.le_trans hk (Nat.le_of_eq W11.size.symm)
        have CR := CR.trans CS11
        refine OGW.step st11 ?_
        show OGW _ _ _ _ _ _ _ _ _ _ (T11.setTop (mkF m 55 #[.val (.int p0), .val (.int p1), .val (.int p2), .val (.int p3)] [(.ref b9), (.ref b8), (.ref b8)]))
        refine OGW.callC X11 hx hZ (y := (⟨"java/lang/String", "<init>", "([C)V"⟩ : MethodName)) rfl hown (own_wd hw 12 rfl) (own_wd hw 13 rfl) (own_wd hw 10 rfl) (own_wd hw 14 rfl) (by decide) (rm2_2 l Z az hw [] b8 b9 k9 (nar .char p1) (nar .char p2) w_COMPACT_STRINGS (.int (0 : Int32)) .null h11 n0 (Nat.le_trans Z0 KC11.1) V11 hC (Ne.symm (Nat.ne_of_lt (Nat.lt_of_lt_of_le A8.lt (Nat.le_of_eq g9.symm)))) (own_n255 _ hr1) (own_n255 _ hr2) ((((S_String_COMPACT_STRINGS.ext E8).ext E9).wr W10).wr W11) (((A8.ext E9).wr W10).wr W11) (((F8_coder.ext E9).other W10 (Or.inl (Nat.ne_of_lt (Nat.lt_of_lt_of_le A8.lt (Nat.le_of_eq g9.symm))))).other W11 (Or.inl (Nat.ne_of_lt (Nat.lt_of_lt_of_le A8.lt (Nat.le_of_eq g9.symm))))) (((F8_value.ext E9).other W10 (Or.inl (Nat.ne_of_lt (Nat.lt_of_lt_of_le A8.lt (Nat.le_of_eq g9.symm))))).other W11 (Or.inl (Nat.ne_of_lt (Nat.lt_of_lt_of_le A8.lt (Nat.le_of_eq g9.symm))))) gn_b8) (W := 1) (by decide) (by decide) (b := b8) (g := (mkF m 55 #[.val (.int p0), .val (.int p1), .val (.int p2), .val (.int p3)] [(.ref b9), (.ref b8), (.ref b8)])) rfl (by rw [hml]; rfl) (argsL := [(.ref b9)]) (rest := [(.ref b8)]) (lenOf pd_1_0 rfl) rfl (by show 2 * 0 + _ ≤ _; exact Nat.le_of_eq rfl) (hb hby d1_55) rfl e11 (by decide) (by decide) ?_
        rintro _ T12 L12 X12 ⟨r12_t, rfl, Nq12, K12, P12_0, P12_1, P12_2, P12_3⟩
        have CS12 := CHr.keep K12 (allS (CHr.safe (CHr.trans (CHr.trans CS9 CS10) CS11) lt_b8 sf_b8) all0) CR.1
        have hk := Nat.le_trans hk K12.1
        have CR := CR.trans CS12
        have KC12 : Keep h0 T12.heap [] := KC11.trans K12 (allS (Or.inr sz_b8) all0)
        have N12 := Fr.app N11 Nq12
        show OGW _ _ _ _ _ _ _ _ _ _ (T12.setTop (mkF m 58 #[.val (.int p0), .val (.int p1), .val (.int p2), .val (.int p3)] [(.ref b8)]))
        refine OGW.retA X12 hx hlk hS hk hZ hEL CR rfl (t := (.object "java/lang/String")) hret rfl rfl rfl (hb hby d1_58) ?_ (by decide) (by decide)
        show Q1 Z p0 p1 p2 p3 w_COMPACT_STRINGS h0 n0 _ T12.heap _
        exact ⟨b8, r12_t, rfl, N12, KC12, sz_b8, P12_0, P12_1, P12_2, (by rw [own_str, if_neg hc1, if_neg hc17, if_pos hc37]; exact P12_3)⟩
      · refine OGW.step (F' := s₁.setTop (mkF m 59 #[.val (.int p0), .val (.int p1), .val (.int p2), .val (.int p3)] [])) (fun t kt => ?_) ?_
        · show Steps p.tables e below (s₁.setTop (mkF m 37 #[.val (.int p0), .val (.int p1), .val (.int p2), .val (.int p3)] [(.int (2 : Int32)), (.int p0)])) t
          refine XS.icmpYes X0.here hx rfl (pc0 := 37) (pc' := 59) rfl (hb hby d1_37) rfl (feq hc37).2 (by decide) (by decide) ?_
          exact kt
        obtain ⟨T13, h13, X13, e13, E13, A13, D13, -, st13⟩ := newO X0 hx hZ hown (own_wd hw 8 rfl) (own_wd hw 9 rfl) (own_wd hw 10 rfl) e0 (g := (mkF m 59 #[.val (.int p0), .val (.int p1), .val (.int p2), .val (.int p3)] [])) rfl (hb hby d1_59) (by decide) (by decide)
        obtain ⟨b13, g13⟩ : ∃ z, z = h0.size := ⟨_, rfl⟩
        rw [← g13] at A13 D13 st13
        have sz_b13 : h0.size ≤ b13 := Nat.le_trans (Keep.refl h0 []).1 (Nat.le_of_eq g13.symm)
        have gn_b13 : n0 ≤ b13 := Nat.le_trans Z0 sz_b13
        have KC13 : Keep h0 h13 [] := (Keep.refl h0 []).ext E13
        have sf_b13 : Safe Z consts_1 _ h13 b13 := Safe.ext E13 CR.1 (Safe.new (Nat.le_of_eq g13.symm))
        have lt_b13 : b13 < h13.size := A13.lt
        have CS13 := CHr.ext E13 CR.1
        have hk := Nat.le_trans hk E13.1
        have CR := CR.trans CS13
        have F13_coder : Fld Z h13 b13 "java/lang/String" "coder" "B" (.int (0 : Int32)) := D13 (Or.inr (own_wd hw 35 rfl)) (ty := .byte) (by decide)
        have F13_value : Fld Z h13 b13 "java/lang/String" "value" "[B" .null := D13 (Or.inr (own_wd hw 37 rfl)) (ty := (.array .byte)) (by decide)
        refine OGW.step st13 ?_
        show OGW _ _ _ _ _ _ _ _ _ _ (T13.setTop (mkF m 62 #[.val (.int p0), .val (.int p1), .val (.int p2), .val (.int p3)] [(.ref b13)]))
        refine OGW.step (F' := T13.setTop (mkF m 64 #[.val (.int p0), .val (.int p1), .val (.int p2), .val (.int p3)] [(.int (3 : Int32)), (.ref b13), (.ref b13)])) (fun t kt => ?_) ?_
        · show Steps p.tables e below (T13.setTop (mkF m 62 #[.val (.int p0), .val (.int p1), .val (.int p2), .val (.int p3)] [(.ref b13)])) t
          refine XS.dup X13.here hx rfl (hb hby d1_62) rfl rfl ?_
          show Steps p.tables e below (T13.setTop (mkF m 63 #[.val (.int p0), .val (.int p1), .val (.int p2), .val (.int p3)] [(.ref b13), (.ref b13)])) t
          refine XS.iconst X13.here hx rfl (hb hby d1_63) ?_
          exact kt
        obtain ⟨T14, h14, k14, X14, e14, E14, A14, st14⟩ := newP X13 hx hZ (own_wd hw 11 rfl) e13 (g := (mkF m 64 #[.val (.int p0), .val (.int p1), .val (.int p2), .val (.int p3)] [(.int (3 : Int32)), (.ref b13), (.ref b13)])) rfl (hb hby d1_64) rfl (by decide) (cap := 3) (by decide) (by decide) (by decide) (by decide)
        obtain ⟨b14, g14⟩ : ∃ z, z = h13.size := ⟨_, rfl⟩
        rw [← g14] at A14 st14
        have sz_b14 : h0.size ≤ b14 := Nat.le_trans KC13.1 (Nat.le_of_eq g14.symm)
        have gn_b14 : n0 ≤ b14 := Nat.le_trans Z0 sz_b14
        have KC14 : Keep h0 h14 [] := KC13.ext E14
        have sf_b14 : Safe Z consts_1 _ h14 b14 := Safe.ext E14 CR.1 (Safe.new (Nat.le_of_eq g14.symm))
        have lt_b14 : b14 < h14.size := A14.lt
        have CS14 := CHr.ext E14 CR.1
        have hk := Nat.le_trans hk E14.1
        have CR := CR.trans CS14
        have V14 : Arv Z h14 b14 k14 .char (3 : Int32) [(.int (0 : Int32)), (.int (0 : Int32)), (.int (0 : Int32))] (.int (0 : Int32)) := (Arv.new A14 (by decide)).pad (pad_rep [] (.int (0 : Int32)) 3)
        refine OGW.step st14 ?_
        show OGW _ _ _ _ _ _ _ _ _ _ (T14.setTop (mkF m 66 #[.val (.int p0), .val (.int p1), .val (.int p2), .val (.int p3)] [(.ref b14), (.ref b13), (.ref b13)]))
        refine OGW.step (F' := T14.setTop (mkF m 69 #[.val (.int p0), .val (.int p1), .val (.int p2), .val (.int p3)] [(.int p1), (.int (0 : Int32)), (.ref b14), (.ref b14), (.ref b13), (.ref b13)])) (fun t kt => ?_) ?_
        · show Steps p.tables e below (T14.setTop (mkF m 66 #[.val (.int p0), .val (.int p1), .val (.int p2), .val (.int p3)] [(.ref b14), (.ref b13), (.ref b13)])) t
          refine XS.dup X14.here hx rfl (hb hby d1_66) rfl rfl ?_
          show Steps p.tables e below (T14.setTop (mkF m 67 #[.val (.int p0), .val (.int p1), .val (.int p2), .val (.int p3)] [(.ref b14), (.ref b14), (.ref b13), (.ref b13)])) t
          refine XS.iconst X14.here hx rfl (hb hby d1_67) ?_
          show Steps p.tables e below (T14.setTop (mkF m 68 #[.val (.int p0), .val (.int p1), .val (.int p2), .val (.int p3)] [(.int (0 : Int32)), (.ref b14), (.ref b14), (.ref b13), (.ref b13)])) t
          refine XS.iloadN X14.here hx rfl (hb hby d1_68) rfl ?_
          exact kt
        obtain ⟨cl15, Ar15, q15, S15, N15a, H15, G15⟩ := id (V14)
        have hin15 : ¬ ((0 : Int32) < 0 ∨ cl15.slots.size ≤ ((0 : Int32)).toNatClampNeg) := inb_of S15 ⟨by decide, by decide⟩
        obtain ⟨T15, h15, X15, e15, W15, st15⟩ := stC X14 hx hZ e14 Ar15 (j := (0 : Int32)) hin15 (g := (mkF m 69 #[.val (.int p0), .val (.int p1), .val (.int p2), .val (.int p3)] [(.int p1), (.int (0 : Int32)), (.ref b14), (.ref b14), (.ref b13), (.ref b13)])) rfl rfl (hb hby d1_69)
        have V15 : Arv Z h15 b14 k14 .char (3 : Int32) [(.int (nar .char p1)), (.int (0 : Int32)), (.int (0 : Int32))] (.int (0 : Int32)) := Arv.set Ar15 q15 S15 N15a H15 G15 (fits_nar_char _) W15 0 rfl (Nat.le_of_ble_eq_true rfl)
        have KC15 : Keep h0 h15 [] := KC14.wr W15 (Or.inr sz_b14)
        have N15 := Fr.snoc X15 N0 gn_b14
        have CS15 := CHr.wr W15 sf_b14 CR.1
        have hk := Nat.le_trans hk (Nat.le_of_eq W15.size.symm)
        have CR := CR.trans CS15
        refine OGW.step st15 ?_
        show OGW _ _ _ _ _ _ _ _ _ _ (T15.setTop (mkF m 70 #[.val (.int p0), .val (.int p1), .val (.int p2), .val (.int p3)] [(.ref b14), (.ref b13), (.ref b13)]))
        refine OGW.step (F' := T15.setTop (mkF m 73 #[.val (.int p0), .val (.int p1), .val (.int p2), .val (.int p3)] [(.int p2), (.int (1 : Int32)), (.ref b14), (.ref b14), (.ref b13), (.ref b13)])) (fun t kt => ?_) ?_
        · show Steps p.tables e below (T15.setTop (mkF m 70 #[.val (.int p0), .val (.int p1), .val (.int p2), .val (.int p3)] [(.ref b14), (.ref b13), (.ref b13)])) t
          refine XS.dup X15.here hx rfl (hb hby d1_70) rfl rfl ?_
          show Steps p.tables e below (T15.setTop (mkF m 71 #[.val (.int p0), .val (.int p1), .val (.int p2), .val (.int p3)] [(.ref b14), (.ref b14), (.ref b13), (.ref b13)])) t
          refine XS.iconst X15.here hx rfl (hb hby d1_71) ?_
          show Steps p.tables e below (T15.setTop (mkF m 72 #[.val (.int p0), .val (.int p1), .val (.int p2), .val (.int p3)] [(.int (1 : Int32)), (.ref b14), (.ref b14), (.ref b13), (.ref b13)])) t
          refine XS.iloadN X15.here hx rfl (hb hby d1_72) rfl ?_
          exact kt
        obtain ⟨cl16, Ar16, q16, S16, N16a, H16, G16⟩ := id (V15)
        have hin16 : ¬ ((1 : Int32) < 0 ∨ cl16.slots.size ≤ ((1 : Int32)).toNatClampNeg) := inb_of S16 ⟨by decide, by decide⟩
        obtain ⟨T16, h16, X16, e16, W16, st16⟩ := stC X15 hx hZ e15 Ar16 (j := (1 : Int32)) hin16 (g := (mkF m 73 #[.val (.int p0), .val (.int p1), .val (.int p2), .val (.int p3)] [(.int p2), (.int (1 : Int32)), (.ref b14), (.ref b14), (.ref b13), (.ref b13)])) rfl rfl (hb hby d1_73)
        have V16 : Arv Z h16 b14 k14 .char (3 : Int32) [(.int (nar .char p1)), (.int (nar .char p2)), (.int (0 : Int32))] (.int (0 : Int32)) := Arv.set Ar16 q16 S16 N16a H16 G16 (fits_nar_char _) W16 1 rfl (Nat.le_of_ble_eq_true rfl)
        have KC16 : Keep h0 h16 [] := KC15.wr W16 (Or.inr sz_b14)
        have N16 := Fr.snoc X16 N15 gn_b14
        have CS16 := CHr.wr W16 (CHr.safe CS15 lt_b14 sf_b14) CR.1
        have hk := Nat.le_trans hk (Nat.le_of_eq W16.size.symm)
        have CR := CR.trans CS16
        refine OGW.step st16 ?_
        show OGW _ _ _ _ _ _ _ _ _ _ (T16.setTop (mkF m 74 #[.val (.int p0), .val (.int p1), .val (.int p2), .val (.int p3)] [(.ref b14), (.ref b13), (.ref b13)]))
        refine OGW.step (F' := T16.setTop (mkF m 77 #[.val (.int p0), .val (.int p1), .val (.int p2), .val (.int p3)] [(.int p3), (.int (2 : Int32)), (.ref b14), (.ref b14), (.ref b13), (.ref b13)])) (fun t kt => ?_) ?_
        · show Steps p.tables e below (T16.setTop (mkF m 74 #[.val (.int p0), .val (.int p1), .val (.int p2), .val (.int p3)] [(.ref b14), (.ref b13), (.ref b13)])) t
          refine XS.dup X16.here hx rfl (hb hby d1_74) rfl rfl ?_
          show Steps p.tables e below (T16.setTop (mkF m 75 #[.val (.int p0), .val (.int p1), .val (.int p2), .val (.int p3)] [(.ref b14), (.ref b14), (.ref b13), (.ref b13)])) t
          refine XS.iconst X16.here hx rfl (hb hby d1_75) ?_
          show Steps p.tables e below (T16.setTop (mkF m 76 #[.val (.int p0), .val (.int p1), .val (.int p2), .val (.int p3)] [(.int (2 : Int32)), (.ref b14), (.ref b14), (.ref b13), (.ref b13)])) t
          refine XS.iloadN X16.here hx rfl (hb hby d1_76) rfl ?_
          exact kt
        obtain ⟨cl17, Ar17, q17, S17, N17a, H17, G17⟩ := id (V16)
        have hin17 : ¬ ((2 : Int32) < 0 ∨ cl17.slots.size ≤ ((2 : Int32)).toNatClampNeg) := inb_of S17 ⟨by decide, by decide⟩
        obtain ⟨T17, h17, X17, e17, W17, st17⟩ := stC X16 hx hZ e16 Ar17 (j := (2 : Int32)) hin17 (g := (mkF m 77 #[.val (.int p0), .val (.int p1), .val (.int p2), .val (.int p3)] [(.int p3), (.int (2 : Int32)), (.ref b14), (.ref b14), (.ref b13), (.ref b13)])) rfl rfl (hb hby d1_77)
        have V17 : Arv Z h17 b14 k14 .char (3 : Int32) [(.int (nar .char p1)), (.int (nar .char p2)), (.int (nar .char p3))] (.int (0 : Int32)) := Arv.set Ar17 q17 S17 N17a H17 G17 (fits_nar_char _) W17 2 rfl (Nat.le_of_ble_eq_true rfl)
        have KC17 : Keep h0 h17 [] := KC16.wr W17 (Or.inr sz_b14)
        have N17 := Fr.snoc X17 N16 gn_b14
        have CS17 := CHr.wr W17 (CHr.safe (CHr.trans CS15 CS16) lt_b14 sf_b14) CR.1
        have hk := Nat.le_trans hk (Nat.le_of_eq W17.size.symm)
        have CR := CR.trans CS17
        refine OGW.step st17 ?_
        show OGW _ _ _ _ _ _ _ _ _ _ (T17.setTop (mkF m 78 #[.val (.int p0), .val (.int p1), .val (.int p2), .val (.int p3)] [(.ref b14), (.ref b13), (.ref b13)]))
        refine OGW.callC X17 hx hZ (y := (⟨"java/lang/String", "<init>", "([C)V"⟩ : MethodName)) rfl hown (own_wd hw 12 rfl) (own_wd hw 13 rfl) (own_wd hw 10 rfl) (own_wd hw 14 rfl) (by decide) (rm2_3 l Z az hw [] b13 b14 k14 (nar .char p1) (nar .char p2) (nar .char p3) w_COMPACT_STRINGS (.int (0 : Int32)) .null h17 n0 (Nat.le_trans Z0 KC17.1) V17 hC (Ne.symm (Nat.ne_of_lt (Nat.lt_of_lt_of_le A13.lt (Nat.le_of_eq g14.symm)))) (own_n255 _ hr1) (own_n255 _ hr2) (own_n255 _ hr3) (((((S_String_COMPACT_STRINGS.ext E13).ext E14).wr W15).wr W16).wr W17) ((((A13.ext E14).wr W15).wr W16).wr W17) ((((F13_coder.ext E14).other W15 (Or.inl (Nat.ne_of_lt (Nat.lt_of_lt_of_le A13.lt (Nat.le_of_eq g14.symm))))).other W16 (Or.inl (Nat.ne_of_lt (Nat.lt_of_lt_of_le A13.lt (Nat.le_of_eq g14.symm))))).other W17 (Or.inl (Nat.ne_of_lt (Nat.lt_of_lt_of_le A13.lt (Nat.le_of_eq g14.symm))))) ((((F13_value.ext E14).other W15 (Or.inl (Nat.ne_of_lt (Nat.lt_of_lt_of_le A13.lt (Nat.le_of_eq g14.symm))))).other W16 (Or.inl (Nat.ne_of_lt (Nat.lt_of_lt_of_le A13.lt (Nat.le_of_eq g14.symm))))).other W17 (Or.inl (Nat.ne_of_lt (Nat.lt_of_lt_of_le A13.lt (Nat.le_of_eq g14.symm))))) gn_b13) (W := 1) (by decide) (by decide) (b := b13) (g := (mkF m 78 #[.val (.int p0), .val (.int p1), .val (.int p2), .val (.int p3)] [(.ref b14), (.ref b13), (.ref b13)])) rfl (by rw [hml]; rfl) (argsL := [(.ref b14)]) (rest := [(.ref b13)]) (lenOf pd_1_0 rfl) rfl (by show 2 * 0 + _ ≤ _; exact Nat.le_of_eq rfl) (hb hby d1_78) rfl e17 (by decide) (by decide) ?_
        rintro _ T18 L18 X18 ⟨r18_t, rfl, Nq18, K18, P18_0, P18_1, P18_2, P18_3⟩
        have CS18 := CHr.keep K18 (allS (CHr.safe (CHr.trans (CHr.trans (CHr.trans CS14 CS15) CS16) CS17) lt_b13 sf_b13) all0) CR.1
        have hk := Nat.le_trans hk K18.1
        have CR := CR.trans CS18
        have KC18 : Keep h0 T18.heap [] := KC17.trans K18 (allS (Or.inr sz_b13) all0)
        have N18 := Fr.app N17 Nq18
        show OGW _ _ _ _ _ _ _ _ _ _ (T18.setTop (mkF m 81 #[.val (.int p0), .val (.int p1), .val (.int p2), .val (.int p3)] [(.ref b13)]))
        refine OGW.retA X18 hx hlk hS hk hZ hEL CR rfl (t := (.object "java/lang/String")) hret rfl rfl rfl (hb hby d1_81) ?_ (by decide) (by decide)
        show Q1 Z p0 p1 p2 p3 w_COMPACT_STRINGS h0 n0 _ T18.heap _
        exact ⟨b13, r18_t, rfl, N18, KC18, sz_b13, P18_0, P18_1, P18_2, (by rw [own_str, if_neg hc1, if_neg hc17, if_neg hc37]; exact P18_3)⟩
/-! body 9: java/lang/Record.<init>:()V -/
theorem d9_0 : decode jdk_30_method_1_code 0 = .ok (.aload_n 0, 1) := by decide +kernel
theorem d9_1 : decode jdk_30_method_1_code 1 = .ok (.invokespecial 1, 3) := by decide +kernel
theorem d9_4 : decode jdk_30_method_1_code 4 = .ok (.return_, 1) := by decide +kernel
theorem pn_9 : plainName "java/lang/Record" = true := by first | (simp [plainName, overriddenIn]; done) | decide +kernel
theorem ef_9 (m : MethodId) (x0 : Addr) : entryFrame m #[(.ref x0)] 1 = mkF m 0 #[.val (.ref x0)] [] := by first | (simp [entryFrame, mkF, argsToLocals, Value.category]; done) | rfl
set_option maxRecDepth 65536 in
set_option maxHeartbeats 40000000 in
theorem rm9 (l : Launch) (Z : State) (az : Array Value) (hw : ∀ d ∈ tables_1, d.before az Z = true) (ws : List Jvm.Cond) (a0 : Addr) (h0 : Heap) (n0 : Nat) (Z0 : n0 ≤ h0.size) :
    OCtr l Z (⟨"java/lang/Record", "<init>", "()V"⟩ : MethodName) jdk_30_method_1_code 1 none ws ({ frames := 1, cells := 0, slots := 0, locals := 12 } : Room) #[(.ref a0)] h0 (OPure none h0 n0) := by
  refine OCtr.of (plainFor_of_name pn_9) ?_
  intro p e s m below meth c s₁ X0 hx hlk hZ hown0 hnm hby hml0 hret e0
  have hown : s.vm.findClass "java/lang/Record" = some m.cls := hown0
  have hml : c.maxLocals = 1 := hml0
  have N0 := Fr.nil n0
  refine OGo.step (fun t k => castTop (ef_9 m a0) k) ?_
  refine OGo.step (F' := s₁.setTop (mkF m 1 #[.val (.ref a0)] [(.ref a0)])) (fun t kt => ?_) ?_
  · show Steps p.tables e below (s₁.setTop (mkF m 0 #[.val (.ref a0)] [])) t
    refine XS.aloadN X0.here hx rfl (hb hby d9_0) rfl rfl ?_
    exact kt
  obtain ⟨T1, X1, e1, st1⟩ := initO X0 hx hZ hown (own_wd hw 46 rfl) (own_wd hw 20 rfl) (own_wd hw 21 rfl) e0 (g := (mkF m 1 #[.val (.ref a0)] [(.ref a0)])) rfl (by rw [hml]; rfl) rfl (hb hby d9_1) (by decide) (W := 0) (by show 2 * 0 + _ ≤ _; exact Nat.le_of_eq rfl) (by decide)
  refine OGo.step st1 ?_
  show OGo _ _ _ _ _ _ _ (T1.setTop (mkF m 4 #[.val (.ref a0)] []))
  refine OGo.retV X1 hx hlk hret (hb hby d9_4) ?_ (by decide) (by decide)
  exact ⟨rfl, N0, e1⟩
/-! body 8: com/example/querywire/querywire/AllowedHosts$Host.<init>:(Ljava/lang/String;I)V -/
theorem d8_0 : decode prog_5_method_1_code 0 = .ok (.aload_n 0, 1) := by decide +kernel
theorem d8_1 : decode prog_5_method_1_code 1 = .ok (.invokespecial 1, 3) := by decide +kernel
theorem d8_4 : decode prog_5_method_1_code 4 = .ok (.aload_n 0, 1) := by decide +kernel
theorem d8_5 : decode prog_5_method_1_code 5 = .ok (.aload_n 1, 1) := by decide +kernel
theorem d8_6 : decode prog_5_method_1_code 6 = .ok (.putfield 7, 3) := by decide +kernel
theorem d8_9 : decode prog_5_method_1_code 9 = .ok (.aload_n 0, 1) := by decide +kernel
theorem d8_10 : decode prog_5_method_1_code 10 = .ok (.iload_n 2, 1) := by decide +kernel
theorem d8_11 : decode prog_5_method_1_code 11 = .ok (.putfield 13, 3) := by decide +kernel
theorem d8_14 : decode prog_5_method_1_code 14 = .ok (.return_, 1) := by decide +kernel
theorem pn_8 : plainName "com/example/querywire/querywire/AllowedHosts$Host" = true := by first | (simp [plainName, overriddenIn]; done) | decide +kernel
theorem pd_8_0 : parseMethodDescriptor "()V" = some ⟨[], none⟩ := by decide +kernel
theorem ef_8 (m : MethodId) (x0 : Addr) (x1 : Addr) (x2 : Int32) : entryFrame m #[(.ref x0), (.ref x1), (.int x2)] 3 = mkF m 0 #[.val (.ref x0), .val (.ref x1), .val (.int x2)] [] := by first | (simp [entryFrame, mkF, argsToLocals, Value.category]; done) | rfl
def Q8 (Z : State) (a0 : Addr) (a1 : Addr) (p2 : Int32) (u_name_a0 : Value) (u_port_a0 : Value) (h0 : Heap) (n0 : Nat) (v : Option Value) (h : Heap) (L : List Loc) : Prop := v = none ∧ Fr n0 L ∧ Keep h0 h [a0] ∧ Exa Z h a0 "com/example/querywire/querywire/AllowedHosts$Host" ∧ Fld Z h a0 "com/example/querywire/querywire/AllowedHosts$Host" "name" "Ljava/lang/String;" (.ref a1) ∧ Fld Z h a0 "com/example/querywire/querywire/AllowedHosts$Host" "port" "I" (.int p2)
set_option maxRecDepth 65536 in
set_option maxHeartbeats 40000000 in
theorem rm8 (l : Launch) (Z : State) (az : Array Value) (hw : ∀ d ∈ tables_1, d.before az Z = true) (ws : List Jvm.Cond) (a0 : Addr) (a1 : Addr) (p2 : Int32) (u_name_a0 : Value) (u_port_a0 : Value) (h0 : Heap) (n0 : Nat) (Z0 : n0 ≤ h0.size) (E_a0 : Exa Z h0 a0 "com/example/querywire/querywire/AllowedHosts$Host") (F_name_a0 : Fld Z h0 a0 "com/example/querywire/querywire/AllowedHosts$Host" "name" "Ljava/lang/String;" u_name_a0) (gn_a0 : n0 ≤ a0) (F_port_a0 : Fld Z h0 a0 "com/example/querywire/querywire/AllowedHosts$Host" "port" "I" u_port_a0) :
    OCtr l Z (⟨"com/example/querywire/querywire/AllowedHosts$Host", "<init>", "(Ljava/lang/String;I)V"⟩ : MethodName) prog_5_method_1_code 3 none ws ({ frames := 2, cells := 0, slots := 0, locals := 24 } : Room) #[(.ref a0), (.ref a1), (.int p2)] h0 (Q8 Z a0 a1 p2 u_name_a0 u_port_a0 h0 n0) := by
  refine OCtr.of (plainFor_of_name pn_8) ?_
  intro p e s m below meth c s₁ X0 hx hlk hZ hown0 hnm hby hml0 hret e0
  have hown : s.vm.findClass "com/example/querywire/querywire/AllowedHosts$Host" = some m.cls := hown0
  have hml : c.maxLocals = 3 := hml0
  have N0 := Fr.nil n0
  refine OGo.step (fun t k => castTop (ef_8 m a0 a1 p2) k) ?_
  refine OGo.step (F' := s₁.setTop (mkF m 1 #[.val (.ref a0), .val (.ref a1), .val (.int p2)] [(.ref a0)])) (fun t kt => ?_) ?_
  · show Steps p.tables e below (s₁.setTop (mkF m 0 #[.val (.ref a0), .val (.ref a1), .val (.int p2)] [])) t
    refine XS.aloadN X0.here hx rfl (hb hby d8_0) rfl rfl ?_
    exact kt
  refine OGo.callC X0 hx hZ (y := (⟨"java/lang/Record", "<init>", "()V"⟩ : MethodName)) rfl hown (own_wd hw 41 rfl) (own_wd hw 42 rfl) (own_wd hw 44 rfl) (own_wd hw 45 rfl) (by decide) (rm9 l Z az hw [] a0 h0 n0 Z0) (W := 0) (by decide) (by decide) (b := a0) (g := (mkF m 1 #[.val (.ref a0), .val (.ref a1), .val (.int p2)] [(.ref a0)])) rfl (by rw [hml]; rfl) (argsL := []) (rest := []) (lenOf pd_8_0 rfl) rfl (by show 2 * 0 + _ ≤ _; exact Nat.le_of_eq rfl) (hb hby d8_1) rfl e0 (by decide) (by decide) ?_
  rintro _ T1 L1 X1 ⟨rfl, Nq1, e1⟩
  have N1 := Fr.app N0 Nq1
  show OGo _ _ _ _ _ _ _ (T1.setTop (mkF m 4 #[.val (.ref a0), .val (.ref a1), .val (.int p2)] []))
  refine OGo.step (F' := T1.setTop (mkF m 6 #[.val (.ref a0), .val (.ref a1), .val (.int p2)] [(.ref a1), (.ref a0)])) (fun t kt => ?_) ?_
  · show Steps p.tables e below (T1.setTop (mkF m 4 #[.val (.ref a0), .val (.ref a1), .val (.int p2)] [])) t
    refine XS.aloadN X1.here hx rfl (hb hby d8_4) rfl rfl ?_
    show Steps p.tables e below (T1.setTop (mkF m 5 #[.val (.ref a0), .val (.ref a1), .val (.int p2)] [(.ref a0)])) t
    refine XS.aloadN X1.here hx rfl (hb hby d8_5) rfl rfl ?_
    exact kt
  obtain ⟨T2, h2, X2, e2, W2, st2⟩ := putF X1 hx hZ hown (host := "") (Or.inl (own_wd hw 47 rfl)) Via.refl e1 F_name_a0 E_a0 (Or.inr ⟨(own_wd hw 48 rfl), rfl, hnm⟩) (own_wd hw 2 rfl) (ty := (.object "java/lang/String")) (by decide) rfl rfl (g := (mkF m 6 #[.val (.ref a0), .val (.ref a1), .val (.int p2)] [(.ref a1), (.ref a0)])) rfl rfl (hb hby d8_6)
  have Fw2 : Fld Z h2 a0 "com/example/querywire/querywire/AllowedHosts$Host" "name" "Ljava/lang/String;" (.ref a1) := F_name_a0.same W2
  have KC2 : Keep h0 h2 [a0] := (Keep.refl h0 [a0]).wr W2 (Or.inl (List.mem_of_getElem? (i := 0) rfl))
  have N2 := Fr.snoc X2 N1 gn_a0
  refine OGo.step st2 ?_
  show OGo _ _ _ _ _ _ _ (T2.setTop (mkF m 9 #[.val (.ref a0), .val (.ref a1), .val (.int p2)] []))
  refine OGo.step (F' := T2.setTop (mkF m 11 #[.val (.ref a0), .val (.ref a1), .val (.int p2)] [(.int p2), (.ref a0)])) (fun t kt => ?_) ?_
  · show Steps p.tables e below (T2.setTop (mkF m 9 #[.val (.ref a0), .val (.ref a1), .val (.int p2)] [])) t
    refine XS.aloadN X2.here hx rfl (hb hby d8_9) rfl rfl ?_
    show Steps p.tables e below (T2.setTop (mkF m 10 #[.val (.ref a0), .val (.ref a1), .val (.int p2)] [(.ref a0)])) t
    refine XS.iloadN X2.here hx rfl (hb hby d8_10) rfl ?_
    exact kt
  obtain ⟨T3, h3, X3, e3, W3, st3⟩ := putF X2 hx hZ hown (host := "") (Or.inl (own_wd hw 49 rfl)) Via.refl e2 (F_port_a0.other W2 (Or.inr (slot_ne (a0 := az) (Or.inr (own_wd hw 50 rfl)) (Or.inr (own_wd hw 48 rfl)) (by decide) (t := .int) (t' := (.object "java/lang/String")) (by decide) (by decide)))) (E_a0.wr W2) (Or.inr ⟨(own_wd hw 50 rfl), rfl, hnm⟩) (own_wd hw 2 rfl) (ty := .int) (by decide) rfl rfl (g := (mkF m 11 #[.val (.ref a0), .val (.ref a1), .val (.int p2)] [(.int p2), (.ref a0)])) rfl rfl (hb hby d8_11)
  have Fw3 : Fld Z h3 a0 "com/example/querywire/querywire/AllowedHosts$Host" "port" "I" (.int p2) := (F_port_a0.other W2 (Or.inr (slot_ne (a0 := az) (Or.inr (own_wd hw 50 rfl)) (Or.inr (own_wd hw 48 rfl)) (by decide) (t := .int) (t' := (.object "java/lang/String")) (by decide) (by decide)))).same W3
  have KC3 : Keep h0 h3 [a0] := KC2.wr W3 (Or.inl (List.mem_of_getElem? (i := 0) rfl))
  have N3 := Fr.snoc X3 N2 gn_a0
  refine OGo.step st3 ?_
  show OGo _ _ _ _ _ _ _ (T3.setTop (mkF m 14 #[.val (.ref a0), .val (.ref a1), .val (.int p2)] []))
  refine OGo.retV X3 hx hlk hret (hb hby d8_14) ?_ (by decide) (by decide)
  show Q8 Z a0 a1 p2 u_name_a0 u_port_a0 h0 n0 _ T3.heap _
  rw [e3]
  exact ⟨rfl, N3, KC3, ((E_a0.wr W2).wr W3), (Fw2.other W3 (Or.inr (slot_ne (a0 := az) (Or.inr (own_wd hw 48 rfl)) (Or.inr (own_wd hw 50 rfl)) (by decide) (t := (.object "java/lang/String")) (t' := .int) (by decide) (by decide)))), Fw3⟩
/-! body 10: com/example/querywire/querywire/AllowedHosts$Host.allows:(Ljava/lang/String;I)Z -/
theorem d10_0 : decode prog_5_method_2_code 0 = .ok (.aload_n 0, 1) := by decide +kernel
theorem d10_1 : decode prog_5_method_2_code 1 = .ok (.getfield 7, 3) := by decide +kernel
theorem d10_4 : decode prog_5_method_2_code 4 = .ok (.aload_n 1, 1) := by decide +kernel
theorem d10_5 : decode prog_5_method_2_code 5 = .ok (.invokevirtual 17, 3) := by decide +kernel
theorem d10_8 : decode prog_5_method_2_code 8 = .ok (.ifCond .eq 22, 3) := by decide +kernel
theorem d10_11 : decode prog_5_method_2_code 11 = .ok (.aload_n 0, 1) := by decide +kernel
theorem d10_12 : decode prog_5_method_2_code 12 = .ok (.getfield 13, 3) := by decide +kernel
theorem d10_15 : decode prog_5_method_2_code 15 = .ok (.ifCond .lt 11, 3) := by decide +kernel
theorem d10_18 : decode prog_5_method_2_code 18 = .ok (.aload_n 0, 1) := by decide +kernel
theorem d10_19 : decode prog_5_method_2_code 19 = .ok (.getfield 13, 3) := by decide +kernel
theorem d10_22 : decode prog_5_method_2_code 22 = .ok (.iload_n 2, 1) := by decide +kernel
theorem d10_23 : decode prog_5_method_2_code 23 = .ok (.if_icmp .ne 7, 3) := by decide +kernel
theorem d10_26 : decode prog_5_method_2_code 26 = .ok (.iconst 1, 1) := by decide +kernel
theorem d10_27 : decode prog_5_method_2_code 27 = .ok (.goto 4, 3) := by decide +kernel
theorem d10_30 : decode prog_5_method_2_code 30 = .ok (.iconst 0, 1) := by decide +kernel
theorem d10_31 : decode prog_5_method_2_code 31 = .ok (.ireturn, 1) := by decide +kernel
theorem pn_10 : plainName "com/example/querywire/querywire/AllowedHosts$Host" = true := by first | (simp [plainName, overriddenIn]; done) | decide +kernel
theorem pd_10_0 : parseMethodDescriptor "(Ljava/lang/Object;)Z" = some ⟨[(.object "java/lang/Object")], some .boolean⟩ := by decide +kernel
theorem ef_10 (m : MethodId) (x0 : Addr) (x1 : Addr) (x2 : Int32) : entryFrame m #[(.ref x0), (.ref x1), (.int x2)] 3 = mkF m 0 #[.val (.ref x0), .val (.ref x1), .val (.int x2)] [] := by first | (simp [entryFrame, mkF, argsToLocals, Value.category]; done) | rfl
def f10 (a1 : Addr) (p2 : Int32) (nm : Addr) (xs : List Int32) (ys : List Int32) (w_port_a0 : Int32) : Int32 :=
  if (f11 nm a1 xs ys) = (0 : Int32) then (0 : Int32)
  else if w_port_a0 < (0 : Int32) then (1 : Int32)
    else if w_port_a0 = p2 then (1 : Int32)
      else (0 : Int32)
theorem fb10 (a1 : Addr) (p2 : Int32) (nm : Addr) (xs : List Int32) (ys : List Int32) (w_port_a0 : Int32) : nar .boolean (f10 a1 p2 nm xs ys w_port_a0) = (f10 a1 p2 nm xs ys w_port_a0) := by
  unfold f10
  repeat' split
  all_goals first | rfl | decide
set_option maxRecDepth 65536 in
set_option maxHeartbeats 40000000 in
theorem rm10 (l : Launch) (Z : State) (az : Array Value) (hw : ∀ d ∈ tables_1, d.before az Z = true) (ws : List Jvm.Cond) (a0 : Addr) (a1 : Addr) (p2 : Int32) (nm : Addr) (t0 : Addr) (t1 : Addr) (xs : List Int32) (ys : List Int32) (w_COMPACT_STRINGS : Int32) (w_port_a0 : Int32) (h0 : Heap) (n0 : Nat) (Z0 : n0 ≤ h0.size) (F_name_a0 : Fld Z h0 a0 "com/example/querywire/querywire/AllowedHosts$Host" "name" "Ljava/lang/String;" (.ref nm)) (E_nm : Exa Z h0 nm "java/lang/String") (E_a1 : Exa Z h0 a1 "java/lang/String") (Fv_nm : Fld Z h0 nm "java/lang/String" "value" "[B" (.ref t0)) (Fv_a1 : Fld Z h0 a1 "java/lang/String" "value" "[B" (.ref t1)) (Fc_nm : Fld Z h0 nm "java/lang/String" "coder" "B" (.int (0 : Int32))) (Fc_a1 : Fld Z h0 a1 "java/lang/String" "coder" "B" (.int (0 : Int32))) (O_t0 : OBs Z h0 t0 xs) (O_t1 : OBs Z h0 t1 ys) (hlx : xs.length ≤ 3) (hly : ys.length ≤ 3) (hC : ¬ (w_COMPACT_STRINGS = (0 : Int32))) (S_String_COMPACT_STRINGS : Sta Z h0 "java/lang/String" "COMPACT_STRINGS" "Z" (.int w_COMPACT_STRINGS)) (F_port_a0 : Fld Z h0 a0 "com/example/querywire/querywire/AllowedHosts$Host" "port" "I" (.int w_port_a0)) :
    OCtr l Z (⟨"com/example/querywire/querywire/AllowedHosts$Host", "allows", "(Ljava/lang/String;I)Z"⟩ : MethodName) prog_5_method_2_code 3 (some .boolean) ws ({ frames := 2, cells := 0, slots := 0, locals := 28 } : Room) #[(.ref a0), (.ref a1), (.int p2)] h0 (OPure (some (.int (f10 a1 p2 nm xs ys w_port_a0))) h0 n0) := by
  refine OCtr.of (plainFor_of_name pn_10) ?_
  intro p e s m below meth c s₁ X0 hx hlk hZ hown0 hnm hby hml0 hret e0
  have hown : s.vm.findClass "com/example/querywire/querywire/AllowedHosts$Host" = some m.cls := hown0
  have hml : c.maxLocals = 3 := hml0
  have N0 := Fr.nil n0
  refine OGo.step (fun t k => castTop (ef_10 m a0 a1 p2) k) ?_
  refine OGo.step (F' := s₁.setTop (mkF m 1 #[.val (.ref a0), .val (.ref a1), .val (.int p2)] [(.ref a0)])) (fun t kt => ?_) ?_
  · show Steps p.tables e below (s₁.setTop (mkF m 0 #[.val (.ref a0), .val (.ref a1), .val (.int p2)] [])) t
    refine XS.aloadN X0.here hx rfl (hb hby d10_0) rfl rfl ?_
    exact kt
  obtain ⟨T1, X1, e1, st1⟩ := getF X0 hx hZ hown (host := "") (Or.inl (own_wd hw 47 rfl)) Via.refl e0 F_name_a0 (g := (mkF m 1 #[.val (.ref a0), .val (.ref a1), .val (.int p2)] [(.ref a0)])) rfl rfl (hb hby d10_1)
  refine OGo.step st1 ?_
  show OGo _ _ _ _ _ _ _ (T1.setTop (mkF m 4 #[.val (.ref a0), .val (.ref a1), .val (.int p2)] [(.ref nm)]))
  refine OGo.step (F' := T1.setTop (mkF m 5 #[.val (.ref a0), .val (.ref a1), .val (.int p2)] [(.ref a1), (.ref nm)])) (fun t kt => ?_) ?_
  · show Steps p.tables e below (T1.setTop (mkF m 4 #[.val (.ref a0), .val (.ref a1), .val (.int p2)] [(.ref nm)])) t
    refine XS.aloadN X1.here hx rfl (hb hby d10_4) rfl rfl ?_
    exact kt
  refine OGo.callV X1 hx hZ (y := (⟨"java/lang/String", "equals", "(Ljava/lang/Object;)Z"⟩ : MethodName)) (z := (⟨"java/lang/String", "equals", "(Ljava/lang/Object;)Z"⟩ : MethodName)) hown (own_wd hw 59 rfl) (own_wd hw 60 rfl) (notFace_of_selects (args := #[]) (mvT hZ (own_wd hw 62 rfl))) (own_wd hw 62 rfl) (own_wd hw 61 rfl) (own_wd hw 10 rfl) (own_wd hw 63 rfl) (by decide) (rm11 l Z az hw [] nm a1 t0 t1 xs ys w_COMPACT_STRINGS h0 n0 Z0 E_a1 Fv_nm Fv_a1 Fc_nm Fc_a1 O_t0 O_t1 hlx hly hC S_String_COMPACT_STRINGS) (W := 0) (by decide) (by decide) E_nm (g := (mkF m 5 #[.val (.ref a0), .val (.ref a1), .val (.int p2)] [(.ref a1), (.ref nm)])) rfl (by rw [hml]; rfl) (argsL := [(.ref a1)]) (rest := []) (lenOf pd_10_0 rfl) rfl (by show 2 * 0 + _ ≤ _; exact Nat.le_of_eq rfl) (hb hby d10_5) rfl e1 (by decide) (by decide) ?_
  rintro _ T2 L2 X2 ⟨rfl, Nq2, e2⟩
  have N2 := Fr.app N0 Nq2
  show OGo _ _ _ _ _ _ _ (T2.setTop (mkF m 8 #[.val (.ref a0), .val (.ref a1), .val (.int p2)] [(.int (f11 nm a1 xs ys))]))
  by_cases hc8 : (f11 nm a1 xs ys) = (0 : Int32)
  · refine OGo.step (F' := T2.setTop (mkF m 30 #[.val (.ref a0), .val (.ref a1), .val (.int p2)] [])) (fun t kt => ?_) ?_
    · show Steps p.tables e below (T2.setTop (mkF m 8 #[.val (.ref a0), .val (.ref a1), .val (.int p2)] [(.int (f11 nm a1 xs ys))])) t
      refine XS.ifYes X2.here hx rfl (pc0 := 8) (pc' := 30) rfl (hb hby d10_8) rfl ((if0 _ _).trans (teq hc8).1) (by decide) (by decide) ?_
      exact kt
    refine OGo.step (F' := T2.setTop (mkF m 31 #[.val (.ref a0), .val (.ref a1), .val (.int p2)] [(.int (0 : Int32))])) (fun t kt => ?_) ?_
    · show Steps p.tables e below (T2.setTop (mkF m 30 #[.val (.ref a0), .val (.ref a1), .val (.int p2)] [])) t
      refine XS.iconst X2.here hx rfl (hb hby d10_30) ?_
      exact kt
    refine OGo.retZ X2 hx hlk (t := .boolean) (z' := (0 : Int32)) hret (by simp) (hb hby d10_31) rfl ?_ (by decide) (by decide)
    exact ⟨(by rw [f10, if_pos hc8]), N2, e2⟩
  · refine OGo.step (F' := T2.setTop (mkF m 11 #[.val (.ref a0), .val (.ref a1), .val (.int p2)] [])) (fun t kt => ?_) ?_
    · show Steps p.tables e below (T2.setTop (mkF m 8 #[.val (.ref a0), .val (.ref a1), .val (.int p2)] [(.int (f11 nm a1 xs ys))])) t
      refine XS.ifNo X2.here hx rfl (hb hby d10_8) rfl ((if0 _ _).trans (feq hc8).1) ?_
      exact kt
    refine OGo.step (F' := T2.setTop (mkF m 12 #[.val (.ref a0), .val (.ref a1), .val (.int p2)] [(.ref a0)])) (fun t kt => ?_) ?_
    · show Steps p.tables e below (T2.setTop (mkF m 11 #[.val (.ref a0), .val (.ref a1), .val (.int p2)] [])) t
      refine XS.aloadN X2.here hx rfl (hb hby d10_11) rfl rfl ?_
      exact kt
    obtain ⟨T3, X3, e3, st3⟩ := getF X2 hx hZ hown (host := "") (Or.inl (own_wd hw 49 rfl)) Via.refl e2 F_port_a0 (g := (mkF m 12 #[.val (.ref a0), .val (.ref a1), .val (.int p2)] [(.ref a0)])) rfl rfl (hb hby d10_12)
    refine OGo.step st3 ?_
    show OGo _ _ _ _ _ _ _ (T3.setTop (mkF m 15 #[.val (.ref a0), .val (.ref a1), .val (.int p2)] [(.int w_port_a0)]))
    by_cases hc15 : w_port_a0 < (0 : Int32)
    · refine OGo.step (F' := T3.setTop (mkF m 26 #[.val (.ref a0), .val (.ref a1), .val (.int p2)] [])) (fun t kt => ?_) ?_
      · show Steps p.tables e below (T3.setTop (mkF m 15 #[.val (.ref a0), .val (.ref a1), .val (.int p2)] [(.int w_port_a0)])) t
        refine XS.ifYes X3.here hx rfl (pc0 := 15) (pc' := 26) rfl (hb hby d10_15) rfl ((if0 _ _).trans (tlt hc15).1) (by decide) (by decide) ?_
        exact kt
      refine OGo.step (F' := T3.setTop (mkF m 31 #[.val (.ref a0), .val (.ref a1), .val (.int p2)] [(.int (1 : Int32))])) (fun t kt => ?_) ?_
      · show Steps p.tables e below (T3.setTop (mkF m 26 #[.val (.ref a0), .val (.ref a1), .val (.int p2)] [])) t
        refine XS.iconst X3.here hx rfl (hb hby d10_26) ?_
        show Steps p.tables e below (T3.setTop (mkF m 27 #[.val (.ref a0), .val (.ref a1), .val (.int p2)] [(.int (1 : Int32))])) t
        refine XS.goto X3.here hx rfl (pc0 := 27) (pc' := 31) rfl (hb hby d10_27) (by decide) (by decide) ?_
        exact kt
      refine OGo.retZ X3 hx hlk (t := .boolean) (z' := (1 : Int32)) hret (by simp) (hb hby d10_31) rfl ?_ (by decide) (by decide)
      exact ⟨(by rw [f10, if_neg hc8, if_pos hc15]), N2, e3⟩
    · refine OGo.step (F' := T3.setTop (mkF m 18 #[.val (.ref a0), .val (.ref a1), .val (.int p2)] [])) (fun t kt => ?_) ?_
      · show Steps p.tables e below (T3.setTop (mkF m 15 #[.val (.ref a0), .val (.ref a1), .val (.int p2)] [(.int w_port_a0)])) t
        refine XS.ifNo X3.here hx rfl (hb hby d10_15) rfl ((if0 _ _).trans (flt hc15).1) ?_
        exact kt
      refine OGo.step (F' := T3.setTop (mkF m 19 #[.val (.ref a0), .val (.ref a1), .val (.int p2)] [(.ref a0)])) (fun t kt => ?_) ?_
      · show Steps p.tables e below (T3.setTop (mkF m 18 #[.val (.ref a0), .val (.ref a1), .val (.int p2)] [])) t
        refine XS.aloadN X3.here hx rfl (hb hby d10_18) rfl rfl ?_
        exact kt
      obtain ⟨T4, X4, e4, st4⟩ := getF X3 hx hZ hown (host := "") (Or.inl (own_wd hw 49 rfl)) Via.refl e3 F_port_a0 (g := (mkF m 19 #[.val (.ref a0), .val (.ref a1), .val (.int p2)] [(.ref a0)])) rfl rfl (hb hby d10_19)
      refine OGo.step st4 ?_
      show OGo _ _ _ _ _ _ _ (T4.setTop (mkF m 22 #[.val (.ref a0), .val (.ref a1), .val (.int p2)] [(.int w_port_a0)]))
      refine OGo.step (F' := T4.setTop (mkF m 23 #[.val (.ref a0), .val (.ref a1), .val (.int p2)] [(.int p2), (.int w_port_a0)])) (fun t kt => ?_) ?_
      · show Steps p.tables e below (T4.setTop (mkF m 22 #[.val (.ref a0), .val (.ref a1), .val (.int p2)] [(.int w_port_a0)])) t
        refine XS.iloadN X4.here hx rfl (hb hby d10_22) rfl ?_
        exact kt
      by_cases hc23 : w_port_a0 = p2
      · refine OGo.step (F' := T4.setTop (mkF m 26 #[.val (.ref a0), .val (.ref a1), .val (.int p2)] [])) (fun t kt => ?_) ?_
        · show Steps p.tables e below (T4.setTop (mkF m 23 #[.val (.ref a0), .val (.ref a1), .val (.int p2)] [(.int p2), (.int w_port_a0)])) t
          refine XS.icmpNo X4.here hx rfl (hb hby d10_23) rfl (teq hc23).2 ?_
          exact kt
        refine OGo.step (F' := T4.setTop (mkF m 31 #[.val (.ref a0), .val (.ref a1), .val (.int p2)] [(.int (1 : Int32))])) (fun t kt => ?_) ?_
        · show Steps p.tables e below (T4.setTop (mkF m 26 #[.val (.ref a0), .val (.ref a1), .val (.int p2)] [])) t
          refine XS.iconst X4.here hx rfl (hb hby d10_26) ?_
          show Steps p.tables e below (T4.setTop (mkF m 27 #[.val (.ref a0), .val (.ref a1), .val (.int p2)] [(.int (1 : Int32))])) t
          refine XS.goto X4.here hx rfl (pc0 := 27) (pc' := 31) rfl (hb hby d10_27) (by decide) (by decide) ?_
          exact kt
        refine OGo.retZ X4 hx hlk (t := .boolean) (z' := (1 : Int32)) hret (by simp) (hb hby d10_31) rfl ?_ (by decide) (by decide)
        exact ⟨(by rw [f10, if_neg hc8, if_neg hc15, if_pos hc23]), N2, e4⟩
      · refine OGo.step (F' := T4.setTop (mkF m 30 #[.val (.ref a0), .val (.ref a1), .val (.int p2)] [])) (fun t kt => ?_) ?_
        · show Steps p.tables e below (T4.setTop (mkF m 23 #[.val (.ref a0), .val (.ref a1), .val (.int p2)] [(.int p2), (.int w_port_a0)])) t
          refine XS.icmpYes X4.here hx rfl (pc0 := 23) (pc' := 30) rfl (hb hby d10_23) rfl (feq hc23).2 (by decide) (by decide) ?_
          exact kt
        refine OGo.step (F' := T4.setTop (mkF m 31 #[.val (.ref a0), .val (.ref a1), .val (.int p2)] [(.int (0 : Int32))])) (fun t kt => ?_) ?_
        · show Steps p.tables e below (T4.setTop (mkF m 30 #[.val (.ref a0), .val (.ref a1), .val (.int p2)] [])) t
          refine XS.iconst X4.here hx rfl (hb hby d10_30) ?_
          exact kt
        refine OGo.retZ X4 hx hlk (t := .boolean) (z' := (0 : Int32)) hret (by simp) (hb hby d10_31) rfl ?_ (by decide) (by decide)
        exact ⟨(by rw [f10, if_neg hc8, if_neg hc15, if_neg hc23]), N2, e4⟩
theorem own_chr (x : Int32) : own_r ((x &&& (255 : Int32)).toUInt32.toUInt16.toUInt32.toInt32) := by
  have h := c_and x (255 : Int32) (by decide)
  generalize x &&& (255 : Int32) = y at *
  have a1 := c_i2c y
  simp only [own_r, Int32.reduceToInt] at *; omega
theorem own_nl (x : Int32) : 0 ≤ (x &&& (3 : Int32)).toInt ∧ (x &&& (3 : Int32)).toInt ≤ 3 := c_and x (3 : Int32) (by decide)
theorem own_pp (x : Int32) : ¬ ((x &&& (2147483647 : Int32)) < (0 : Int32)) := by
  have h := (c_andS x (2147483647 : Int32)).2.2 (by decide)
  rw [Int32.lt_iff_toInt_lt]; simp only [Int32.reduceToInt] at *; omega
/-- what the law looks for -/
def own_ok (nl hl a b d x y z an pt hp : Int32) : Prop := (nl = hl ∧ (nl < (1 : Int32) ∨ a = x) ∧ (nl < (2 : Int32) ∨ b = y) ∧ (nl < (3 : Int32) ∨ d = z)) ∧ (¬ an = (0 : Int32) ∨ pt = hp)
theorem own_names (nl hl a b d x y z : Int32) (h1 : 0 ≤ nl.toInt ∧ nl.toInt ≤ 3) (h2 : 0 ≤ hl.toInt ∧ hl.toInt ≤ 3) (ra : own_r a) (rb : own_r b) (rd : own_r d) (rx : own_r x) (ry : own_r y) (rz : own_r z) :
    own_str nl a b d = own_str hl x y z ↔ (nl = hl ∧ (nl < (1 : Int32) ∨ a = x) ∧ (nl < (2 : Int32) ∨ b = y) ∧ (nl < (3 : Int32) ∨ d = z)) := by
  have e1 : nl = 0 ∨ nl = 1 ∨ nl = 2 ∨ nl = 3 := by simp only [← Int32.toInt_inj, Int32.reduceToInt]; omega
  have e2 : hl = 0 ∨ hl = 1 ∨ hl = 2 ∨ hl = 3 := by simp only [← Int32.toInt_inj, Int32.reduceToInt]; omega
  have i1 := own_inj a x ra rx; have i2 := own_inj b y rb ry; have i3 := own_inj d z rd rz
  rcases e1 with rfl | rfl | rfl | rfl <;> rcases e2 with rfl | rfl | rfl | rfl <;> simp +decide [own_str, i1, i2, i3]
theorem own_fin (r q : Addr) (hrq : ¬ r = q) (nl hl a b d x y z an pt hp : Int32) (h1 : 0 ≤ nl.toInt ∧ nl.toInt ≤ 3) (h2 : 0 ≤ hl.toInt ∧ hl.toInt ≤ 3) (ra : own_r a) (rb : own_r b) (rd : own_r d) (rx : own_r x) (ry : own_r y) (rz : own_r z) (hap : (an = (0 : Int32) ∧ ¬ pt < (0 : Int32)) ∨ (¬ an = (0 : Int32) ∧ pt < (0 : Int32))) :
    (own_ok nl hl a b d x y z an pt hp → (f10 q hp r (own_str nl a b d) (own_str hl x y z) pt) = (1 : Int32)) ∧ (¬ own_ok nl hl a b d x y z an pt hp → (f10 q hp r (own_str nl a b d) (own_str hl x y z) pt) = (0 : Int32)) := by
  have k := own_names nl hl a b d x y z h1 h2 ra rb rd rx ry rz
  unfold own_ok f10 f11 own_eqb
  rw [← k]
  by_cases e : own_str nl a b d = own_str hl x y z <;> rcases hap with ⟨u, v⟩ | ⟨u, v⟩ <;> by_cases w : pt = hp <;> simp [e, hrq, u, v, w]
def own_hl (p : Int32) : Int32 := (((p.toUInt32 >>> ((2 : Int32) &&& 31).toUInt32).toInt32) &&& (3 : Int32))
def own_n0 (p : Int32) : Int32 := ((p &&& (255 : Int32)).toUInt32.toUInt16.toUInt32.toInt32)
theorem own_rn0 (p : Int32) : own_r (own_n0 p) := own_chr _
def own_n1 (p : Int32) : Int32 := ((((p.toUInt32 >>> ((8 : Int32) &&& 31).toUInt32).toInt32) &&& (255 : Int32)).toUInt32.toUInt16.toUInt32.toInt32)
theorem own_rn1 (p : Int32) : own_r (own_n1 p) := own_chr _
def own_n2 (p : Int32) : Int32 := ((((p.toUInt32 >>> ((16 : Int32) &&& 31).toUInt32).toInt32) &&& (255 : Int32)).toUInt32.toUInt16.toUInt32.toInt32)
theorem own_rn2 (p : Int32) : own_r (own_n2 p) := own_chr _
def own_b0 (p : Int32) : Int32 := ((p &&& (255 : Int32)).toUInt32.toUInt16.toUInt32.toInt32)
theorem own_rb0 (p : Int32) : own_r (own_b0 p) := own_chr _
def own_b1 (p : Int32) : Int32 := ((((p.toUInt32 >>> ((8 : Int32) &&& 31).toUInt32).toInt32) &&& (255 : Int32)).toUInt32.toUInt16.toUInt32.toInt32)
theorem own_rb1 (p : Int32) : own_r (own_b1 p) := own_chr _
def own_b2 (p : Int32) : Int32 := ((((p.toUInt32 >>> ((16 : Int32) &&& 31).toUInt32).toInt32) &&& (255 : Int32)).toUInt32.toUInt16.toUInt32.toInt32)
theorem own_rb2 (p : Int32) : own_r (own_b2 p) := own_chr _
/-! body 0: com/example/querywire/querywire/HostAllowsPinLaw.law:(IIIII)Z -/
theorem pn_0 : plainName "com/example/querywire/querywire/HostAllowsPinLaw" = true := by first | (simp [plainName, overriddenIn]; done) | decide +kernel
theorem pd_0_0 : parseMethodDescriptor "(ICCC)Ljava/lang/String;" = some ⟨[.int, .char, .char, .char], some (.object "java/lang/String")⟩ := by decide +kernel
theorem pd_0_1 : parseMethodDescriptor "(Ljava/lang/String;I)V" = some ⟨[(.object "java/lang/String"), .int], none⟩ := by decide +kernel
theorem pd_0_2 : parseMethodDescriptor "(Ljava/lang/String;I)Z" = some ⟨[(.object "java/lang/String"), .int], some .boolean⟩ := by decide +kernel
theorem ef_0 (m : MethodId) (x0 : Int32) (x1 : Int32) (x2 : Int32) (x3 : Int32) (x4 : Int32) : entryFrame m #[(.int x0), (.int x1), (.int x2), (.int x3), (.int x4)] maxLocals = mkF m 0 #[.val (.int x0), .val (.int x1), .val (.int x2), .val (.int x3), .val (.int x4), .unset, .unset, .unset, .unset, .unset, .unset, .unset, .unset, .unset, .unset, .unset, .unset, .unset, .unset, .unset, .unset] [] := by first | (simp [entryFrame, mkF, argsToLocals, Value.category, maxLocals]; done) | rfl
def Q0 (Z : State) (p0 : Int32) (p1 : Int32) (p2 : Int32) (p3 : Int32) (p4 : Int32) (w_COMPACT_STRINGS : Int32) (h0 : Heap) (n0 : Nat) (v : Option Value) (h : Heap) (L : List Loc) : Prop := v = some (.int (1 : Int32)) ∧ Fr n0 L ∧ Keep h0 h []
set_option maxRecDepth 65536 in
set_option maxHeartbeats 40000000 in
theorem rm0 (l : Launch) (Z : State) (az : Array Value) (hw : ∀ d ∈ tables_1, d.before az Z = true) (ws : List Jvm.Cond) (p0 : Int32) (p1 : Int32) (p2 : Int32) (p3 : Int32) (p4 : Int32) (w_COMPACT_STRINGS : Int32) (h0 : Heap) (n0 : Nat) (Z0 : n0 ≤ h0.size) (hC : ¬ (w_COMPACT_STRINGS = (0 : Int32))) (S_String_COMPACT_STRINGS : Sta Z h0 "java/lang/String" "COMPACT_STRINGS" "Z" (.int w_COMPACT_STRINGS)) :
    OCtrW l Z consts_1 x code maxLocals ret ws room_1 #[(.int p0), (.int p1), (.int p2), (.int p3), (.int p4)] h0 (Q0 Z p0 p1 p2 p3 p4 w_COMPACT_STRINGS h0 n0) := by
  refine OCtrW.of (plainFor_of_name pn_0) ?_
  intro p e s m below meth c s₁ X0 hx hlk hZ hown0 hnm hby hml0 hret e0 hS CR
  have hown : s.vm.findClass "com/example/querywire/querywire/HostAllowsPinLaw" = some m.cls := hown0
  have hml : c.maxLocals = 21 := hml0
  have N0 := Fr.nil n0
  refine OGW.step (fun t k => castTop (ef_0 m p0 p1 p2 p3 p4) k) ?_
  have hk : h0.size ≤ h0.size := Nat.le_refl _
  have hEL : EW Z az consts_1 := own_EL hw
  have J : ∀ (x0 x1 x2 an pt hp : Int32), own_r x0 → own_r x1 → own_r x2 → ((an = (0 : Int32) ∧ ¬ pt < (0 : Int32)) ∨ (¬ an = (0 : Int32) ∧ pt < (0 : Int32))) → OGW p e below s Z consts_1 h0 (Q0 Z p0 p1 p2 p3 p4 w_COMPACT_STRINGS h0 n0) room_1.cells room_1.slots (s₁.setTop (mkF m 163 #[.val (.int p0), .val (.int p1), .val (.int p2), .val (.int p3), .val (.int p4), .val (.int (p2 &&& (3 : Int32))), .val (.int (own_hl p2)), .val (.int (own_n0 p0)), .val (.int (own_n1 p0)), .val (.int (own_n2 p0)), .val (.int x0), .val (.int x1), .val (.int x2), .val (.int an), .val (.int pt), .val (.int hp), .unset, .unset, .unset, .unset, .unset] [])) := by
    intro x0 x1 x2 an pt hp hx0 hx1 hx2 hap
    obtain ⟨T1, h1, X1, e1, E1, A1, D1, -, st1⟩ := newO X0 hx hZ hown (own_wd hw 1 rfl) (own_wd hw 2 rfl) (own_wd hw 3 rfl) e0 (g := (mkF m 163 #[.val (.int p0), .val (.int p1), .val (.int p2), .val (.int p3), .val (.int p4), .val (.int (p2 &&& (3 : Int32))), .val (.int (own_hl p2)), .val (.int (own_n0 p0)), .val (.int (own_n1 p0)), .val (.int (own_n2 p0)), .val (.int x0), .val (.int x1), .val (.int x2), .val (.int an), .val (.int pt), .val (.int hp), .unset, .unset, .unset, .unset, .unset] [])) rfl (hb hby at_163) (by decide) (by decide)
    obtain ⟨b1, g1⟩ : ∃ z, z = h0.size := ⟨_, rfl⟩
    rw [← g1] at A1 D1 st1
    have sz_b1 : h0.size ≤ b1 := Nat.le_trans (Keep.refl h0 []).1 (Nat.le_of_eq g1.symm)
    have gn_b1 : n0 ≤ b1 := Nat.le_trans Z0 sz_b1
    have KC1 : Keep h0 h1 [] := (Keep.refl h0 []).ext E1
    have sf_b1 : Safe Z consts_1 _ h1 b1 := Safe.ext E1 CR.1 (Safe.new (Nat.le_of_eq g1.symm))
    have lt_b1 : b1 < h1.size := A1.lt
    have CS1 := CHr.ext E1 CR.1
    have hk := Nat.le_trans hk E1.1
    have CR := CR.trans CS1
    have F1_name : Fld Z h1 b1 "com/example/querywire/querywire/AllowedHosts$Host" "name" "Ljava/lang/String;" .null := D1 (Or.inr (own_wd hw 48 rfl)) (ty := (.object "java/lang/String")) (by decide)
    have F1_port : Fld Z h1 b1 "com/example/querywire/querywire/AllowedHosts$Host" "port" "I" (.int (0 : Int32)) := D1 (Or.inr (own_wd hw 50 rfl)) (ty := .int) (by decide)
    refine OGW.step st1 ?_
    show OGW _ _ _ _ _ _ _ _ _ _ (T1.setTop (mkF m 166 #[.val (.int p0), .val (.int p1), .val (.int p2), .val (.int p3), .val (.int p4), .val (.int (p2 &&& (3 : Int32))), .val (.int (own_hl p2)), .val (.int (own_n0 p0)), .val (.int (own_n1 p0)), .val (.int (own_n2 p0)), .val (.int x0), .val (.int x1), .val (.int x2), .val (.int an), .val (.int pt), .val (.int hp), .unset, .unset, .unset, .unset, .unset] [(.ref b1)]))
    refine OGW.step (F' := T1.setTop (mkF m 175 #[.val (.int p0), .val (.int p1), .val (.int p2), .val (.int p3), .val (.int p4), .val (.int (p2 &&& (3 : Int32))), .val (.int (own_hl p2)), .val (.int (own_n0 p0)), .val (.int (own_n1 p0)), .val (.int (own_n2 p0)), .val (.int x0), .val (.int x1), .val (.int x2), .val (.int an), .val (.int pt), .val (.int hp), .unset, .unset, .unset, .unset, .unset] [(.int (own_n2 p0)), (.int (own_n1 p0)), (.int (own_n0 p0)), (.int (p2 &&& (3 : Int32))), (.ref b1), (.ref b1)])) (fun t kt => ?_) ?_
    · show Steps p.tables e below (T1.setTop (mkF m 166 #[.val (.int p0), .val (.int p1), .val (.int p2), .val (.int p3), .val (.int p4), .val (.int (p2 &&& (3 : Int32))), .val (.int (own_hl p2)), .val (.int (own_n0 p0)), .val (.int (own_n1 p0)), .val (.int (own_n2 p0)), .val (.int x0), .val (.int x1), .val (.int x2), .val (.int an), .val (.int pt), .val (.int hp), .unset, .unset, .unset, .unset, .unset] [(.ref b1)])) t
      refine XS.dup X1.here hx rfl (hb hby at_166) rfl rfl ?_
      refine XS.iload X1.here hx rfl (hb hby at_167) rfl ?_
      refine XS.iload X1.here hx rfl (hb hby at_169) rfl ?_
      refine XS.iload X1.here hx rfl (hb hby at_171) rfl ?_
      refine XS.iload X1.here hx rfl (hb hby at_173) rfl ?_
      exact kt
    refine OGW.wcallS X1 hx hZ hS hk hEL CR.1 (y := (⟨"com/example/querywire/querywire/HostAllowsPinLaw", "str", "(ICCC)Ljava/lang/String;"⟩ : MethodName)) hown (own_wd hw 4 rfl) (own_wd hw 5 rfl) (own_wd hw 6 rfl) (own_wd hw 7 rfl) (by decide) (rm1 l Z az hw [] (p2 &&& (3 : Int32)) (own_n0 p0) (own_n1 p0) (own_n2 p0) w_COMPACT_STRINGS h1 n0 (Nat.le_trans Z0 KC1.1) hC (own_rn0 _) (own_rn1 _) (own_rn2 _) (S_String_COMPACT_STRINGS.ext E1)) (W := 2) (by decide) (by decide) (g := (mkF m 175 #[.val (.int p0), .val (.int p1), .val (.int p2), .val (.int p3), .val (.int p4), .val (.int (p2 &&& (3 : Int32))), .val (.int (own_hl p2)), .val (.int (own_n0 p0)), .val (.int (own_n1 p0)), .val (.int (own_n2 p0)), .val (.int x0), .val (.int x1), .val (.int x2), .val (.int an), .val (.int pt), .val (.int hp), .unset, .unset, .unset, .unset, .unset] [(.int (own_n2 p0)), (.int (own_n1 p0)), (.int (own_n0 p0)), (.int (p2 &&& (3 : Int32))), (.ref b1), (.ref b1)])) rfl (by rw [hml]; rfl) (argsL := [(.int (p2 &&& (3 : Int32))), (.int (own_n0 p0)), (.int (own_n1 p0)), (.int (own_n2 p0))]) (rest := [(.ref b1), (.ref b1)]) (lenOf pd_0_0 rfl) rfl (by show 2 * 0 + _ ≤ _; exact Nat.le_of_eq rfl) (hb hby at_175) rfl e1 (by decide) (by decide) ?_
    rintro _ T2 L2 X2 hS hZ hown CS2 ⟨b2_r, r2_t, rfl, Nq2, K2, sz_b2_r, P2_0, P2_1, P2_2, P2_3⟩
    have hk := Nat.le_refl T2.heap.size
    have CR := CR.trans CS2
    have KC2 : Keep h0 T2.heap [] := KC1.trans K2 all0
    have szo_b2_r := sz_b2_r
    replace sz_b2_r : h0.size ≤ b2_r := Nat.le_trans KC1.1 sz_b2_r
    have gn_b2_r : n0 ≤ b2_r := Nat.le_trans Z0 sz_b2_r
    have N2 := Fr.app N0 Nq2
    show OGW _ _ _ _ _ _ _ _ _ _ (T2.setTop (mkF m 178 #[.val (.int p0), .val (.int p1), .val (.int p2), .val (.int p3), .val (.int p4), .val (.int (p2 &&& (3 : Int32))), .val (.int (own_hl p2)), .val (.int (own_n0 p0)), .val (.int (own_n1 p0)), .val (.int (own_n2 p0)), .val (.int x0), .val (.int x1), .val (.int x2), .val (.int an), .val (.int pt), .val (.int hp), .unset, .unset, .unset, .unset, .unset] [(.ref b2_r), (.ref b1), (.ref b1)]))
    have nq3 : r2_t ≠ b1 := own_obs_ne (A1.keep K2) (own_wd hw 2 rfl) P2_3
    refine OGW.step (F' := T2.setTop (mkF m 180 #[.val (.int p0), .val (.int p1), .val (.int p2), .val (.int p3), .val (.int p4), .val (.int (p2 &&& (3 : Int32))), .val (.int (own_hl p2)), .val (.int (own_n0 p0)), .val (.int (own_n1 p0)), .val (.int (own_n2 p0)), .val (.int x0), .val (.int x1), .val (.int x2), .val (.int an), .val (.int pt), .val (.int hp), .unset, .unset, .unset, .unset, .unset] [(.int pt), (.ref b2_r), (.ref b1), (.ref b1)])) (fun t kt => ?_) ?_
    · show Steps p.tables e below (T2.setTop (mkF m 178 #[.val (.int p0), .val (.int p1), .val (.int p2), .val (.int p3), .val (.int p4), .val (.int (p2 &&& (3 : Int32))), .val (.int (own_hl p2)), .val (.int (own_n0 p0)), .val (.int (own_n1 p0)), .val (.int (own_n2 p0)), .val (.int x0), .val (.int x1), .val (.int x2), .val (.int an), .val (.int pt), .val (.int hp), .unset, .unset, .unset, .unset, .unset] [(.ref b2_r), (.ref b1), (.ref b1)])) t
      refine XS.iload X2.here hx rfl (hb hby at_178) rfl ?_
      exact kt
    refine OGW.callC X2 hx hZ (y := (⟨"com/example/querywire/querywire/AllowedHosts$Host", "<init>", "(Ljava/lang/String;I)V"⟩ : MethodName)) rfl hown (own_wd hw 38 rfl) (own_wd hw 39 rfl) (own_wd hw 3 rfl) (own_wd hw 40 rfl) (by decide) (rm8 l Z az hw [] b1 b2_r pt .null (.int (0 : Int32)) T2.heap n0 (Nat.le_trans Z0 KC2.1) (A1.keep K2) (F1_name.keep K2 nin0) gn_b1 (F1_port.keep K2 nin0)) (W := 1) (by decide) (by decide) (b := b1) (g := (mkF m 180 #[.val (.int p0), .val (.int p1), .val (.int p2), .val (.int p3), .val (.int p4), .val (.int (p2 &&& (3 : Int32))), .val (.int (own_hl p2)), .val (.int (own_n0 p0)), .val (.int (own_n1 p0)), .val (.int (own_n2 p0)), .val (.int x0), .val (.int x1), .val (.int x2), .val (.int an), .val (.int pt), .val (.int hp), .unset, .unset, .unset, .unset, .unset] [(.int pt), (.ref b2_r), (.ref b1), (.ref b1)])) rfl (by rw [hml]; rfl) (argsL := [(.ref b2_r), (.int pt)]) (rest := [(.ref b1)]) (lenOf pd_0_1 rfl) rfl (by show 2 * 0 + _ ≤ _; exact Nat.le_of_eq rfl) (hb hby at_180) rfl rfl (by decide) (by decide) ?_
    rintro _ T4 L4 X4 ⟨rfl, Nq4, K4, P4_0, P4_1, P4_2⟩
    have CS4 := CHr.keep K4 (allS (CHr.safe CS2 lt_b1 sf_b1) all0) CR.1
    have hk := Nat.le_trans hk K4.1
    have CR := CR.trans CS4
    have KC4 : Keep h0 T4.heap [] := KC2.trans K4 (allS (Or.inr sz_b1) all0)
    have N4 := Fr.app N2 Nq4
    show OGW _ _ _ _ _ _ _ _ _ _ (T4.setTop (mkF m 183 #[.val (.int p0), .val (.int p1), .val (.int p2), .val (.int p3), .val (.int p4), .val (.int (p2 &&& (3 : Int32))), .val (.int (own_hl p2)), .val (.int (own_n0 p0)), .val (.int (own_n1 p0)), .val (.int (own_n2 p0)), .val (.int x0), .val (.int x1), .val (.int x2), .val (.int an), .val (.int pt), .val (.int hp), .unset, .unset, .unset, .unset, .unset] [(.ref b1)]))
    refine OGW.step (F' := T4.setTop (mkF m 195 #[.val (.int p0), .val (.int p1), .val (.int p2), .val (.int p3), .val (.int p4), .val (.int (p2 &&& (3 : Int32))), .val (.int (own_hl p2)), .val (.int (own_n0 p0)), .val (.int (own_n1 p0)), .val (.int (own_n2 p0)), .val (.int x0), .val (.int x1), .val (.int x2), .val (.int an), .val (.int pt), .val (.int hp), .val (.ref b1), .unset, .unset, .unset, .unset] [(.int x2), (.int x1), (.int x0), (.int (own_hl p2)), (.ref b1)])) (fun t kt => ?_) ?_
    · show Steps p.tables e below (T4.setTop (mkF m 183 #[.val (.int p0), .val (.int p1), .val (.int p2), .val (.int p3), .val (.int p4), .val (.int (p2 &&& (3 : Int32))), .val (.int (own_hl p2)), .val (.int (own_n0 p0)), .val (.int (own_n1 p0)), .val (.int (own_n2 p0)), .val (.int x0), .val (.int x1), .val (.int x2), .val (.int an), .val (.int pt), .val (.int hp), .unset, .unset, .unset, .unset, .unset] [(.ref b1)])) t
      refine XS.astore X4.here hx rfl (hb hby at_183) rfl rfl (l' := #[.val (.int p0), .val (.int p1), .val (.int p2), .val (.int p3), .val (.int p4), .val (.int (p2 &&& (3 : Int32))), .val (.int (own_hl p2)), .val (.int (own_n0 p0)), .val (.int (own_n1 p0)), .val (.int (own_n2 p0)), .val (.int x0), .val (.int x1), .val (.int x2), .val (.int an), .val (.int pt), .val (.int hp), .val (.ref b1), .unset, .unset, .unset, .unset]) rfl ?_
      refine XS.aload X4.here hx rfl (hb hby at_185) rfl rfl ?_
      refine XS.iload X4.here hx rfl (hb hby at_187) rfl ?_
      refine XS.iload X4.here hx rfl (hb hby at_189) rfl ?_
      refine XS.iload X4.here hx rfl (hb hby at_191) rfl ?_
      refine XS.iload X4.here hx rfl (hb hby at_193) rfl ?_
      exact kt
    refine OGW.wcallS X4 hx hZ hS hk hEL CR.1 (y := (⟨"com/example/querywire/querywire/HostAllowsPinLaw", "str", "(ICCC)Ljava/lang/String;"⟩ : MethodName)) hown (own_wd hw 4 rfl) (own_wd hw 5 rfl) (own_wd hw 6 rfl) (own_wd hw 7 rfl) (by decide) (rm1 l Z az hw [] (own_hl p2) x0 x1 x2 w_COMPACT_STRINGS T4.heap n0 (Nat.le_trans Z0 KC4.1) hC hx0 hx1 hx2 (own_stakeep (own_stakeep (S_String_COMPACT_STRINGS.ext E1) K2 all0) K4 (allS (own_obj (A1.keep K2)) all0))) (W := 1) (by decide) (by decide) (g := (mkF m 195 #[.val (.int p0), .val (.int p1), .val (.int p2), .val (.int p3), .val (.int p4), .val (.int (p2 &&& (3 : Int32))), .val (.int (own_hl p2)), .val (.int (own_n0 p0)), .val (.int (own_n1 p0)), .val (.int (own_n2 p0)), .val (.int x0), .val (.int x1), .val (.int x2), .val (.int an), .val (.int pt), .val (.int hp), .val (.ref b1), .unset, .unset, .unset, .unset] [(.int x2), (.int x1), (.int x0), (.int (own_hl p2)), (.ref b1)])) rfl (by rw [hml]; rfl) (argsL := [(.int (own_hl p2)), (.int x0), (.int x1), (.int x2)]) (rest := [(.ref b1)]) (lenOf pd_0_0 rfl) rfl (by show 2 * 0 + _ ≤ _; exact Nat.le_of_eq rfl) (hb hby at_195) rfl rfl (by decide) (by decide) ?_
    rintro _ T5 L5 X5 hS hZ hown CS5 ⟨b5_r, r5_t, rfl, Nq5, K5, sz_b5_r, P5_0, P5_1, P5_2, P5_3⟩
    have hk := Nat.le_refl T5.heap.size
    have CR := CR.trans CS5
    have KC5 : Keep h0 T5.heap [] := KC4.trans K5 all0
    have szo_b5_r := sz_b5_r
    replace sz_b5_r : h0.size ≤ b5_r := Nat.le_trans KC4.1 sz_b5_r
    have gn_b5_r : n0 ≤ b5_r := Nat.le_trans Z0 sz_b5_r
    have N5 := Fr.app N4 Nq5
    show OGW _ _ _ _ _ _ _ _ _ _ (T5.setTop (mkF m 198 #[.val (.int p0), .val (.int p1), .val (.int p2), .val (.int p3), .val (.int p4), .val (.int (p2 &&& (3 : Int32))), .val (.int (own_hl p2)), .val (.int (own_n0 p0)), .val (.int (own_n1 p0)), .val (.int (own_n2 p0)), .val (.int x0), .val (.int x1), .val (.int x2), .val (.int an), .val (.int pt), .val (.int hp), .val (.ref b1), .unset, .unset, .unset, .unset] [(.ref b5_r), (.ref b1)]))
    refine OGW.step (F' := T5.setTop (mkF m 200 #[.val (.int p0), .val (.int p1), .val (.int p2), .val (.int p3), .val (.int p4), .val (.int (p2 &&& (3 : Int32))), .val (.int (own_hl p2)), .val (.int (own_n0 p0)), .val (.int (own_n1 p0)), .val (.int (own_n2 p0)), .val (.int x0), .val (.int x1), .val (.int x2), .val (.int an), .val (.int pt), .val (.int hp), .val (.ref b1), .unset, .unset, .unset, .unset] [(.int hp), (.ref b5_r), (.ref b1)])) (fun t kt => ?_) ?_
    · show Steps p.tables e below (T5.setTop (mkF m 198 #[.val (.int p0), .val (.int p1), .val (.int p2), .val (.int p3), .val (.int p4), .val (.int (p2 &&& (3 : Int32))), .val (.int (own_hl p2)), .val (.int (own_n0 p0)), .val (.int (own_n1 p0)), .val (.int (own_n2 p0)), .val (.int x0), .val (.int x1), .val (.int x2), .val (.int an), .val (.int pt), .val (.int hp), .val (.ref b1), .unset, .unset, .unset, .unset] [(.ref b5_r), (.ref b1)])) t
      refine XS.iload X5.here hx rfl (hb hby at_198) rfl ?_
      exact kt
    refine OGW.callV X5 hx hZ (y := (⟨"com/example/querywire/querywire/AllowedHosts$Host", "allows", "(Ljava/lang/String;I)Z"⟩ : MethodName)) (z := (⟨"com/example/querywire/querywire/AllowedHosts$Host", "allows", "(Ljava/lang/String;I)Z"⟩ : MethodName)) hown (own_wd hw 54 rfl) (own_wd hw 55 rfl) (notFace_of_selects (args := #[]) (mvT hZ (own_wd hw 57 rfl))) (own_wd hw 57 rfl) (own_wd hw 56 rfl) (own_wd hw 3 rfl) (own_wd hw 58 rfl) (by decide) (rm10 l Z az hw [] b1 b5_r hp b2_r r2_t r5_t (own_str (p2 &&& (3 : Int32)) (own_n0 p0) (own_n1 p0) (own_n2 p0)) (own_str (own_hl p2) x0 x1 x2) w_COMPACT_STRINGS pt T5.heap n0 (Nat.le_trans Z0 KC5.1) (P4_1.keep K5 nin0) ((P2_0.keep K4).keep K5) P5_0 ((P2_1.keep K4 (ninS (Ne.symm (Nat.ne_of_lt (Nat.lt_of_lt_of_le A1.lt szo_b2_r))) nin0)).keep K5 nin0) P5_1 ((P2_2.keep K4 (ninS (Ne.symm (Nat.ne_of_lt (Nat.lt_of_lt_of_le A1.lt szo_b2_r))) nin0)).keep K5 nin0) P5_2 ((P2_3.keep K4 (ninS nq3 nin0)).keep K5 nin0) P5_3 (own_sl _ _ _ _) (own_sl _ _ _ _) hC (own_stakeep (own_stakeep (own_stakeep (S_String_COMPACT_STRINGS.ext E1) K2 all0) K4 (allS (own_obj (A1.keep K2)) all0)) K5 all0) (P4_2.keep K5 nin0)) (W := 0) (by decide) (by decide) (P4_0.keep K5) (g := (mkF m 200 #[.val (.int p0), .val (.int p1), .val (.int p2), .val (.int p3), .val (.int p4), .val (.int (p2 &&& (3 : Int32))), .val (.int (own_hl p2)), .val (.int (own_n0 p0)), .val (.int (own_n1 p0)), .val (.int (own_n2 p0)), .val (.int x0), .val (.int x1), .val (.int x2), .val (.int an), .val (.int pt), .val (.int hp), .val (.ref b1), .unset, .unset, .unset, .unset] [(.int hp), (.ref b5_r), (.ref b1)])) rfl (by rw [hml]; rfl) (argsL := [(.ref b5_r), (.int hp)]) (rest := []) (lenOf pd_0_2 rfl) rfl (by show 2 * 0 + _ ≤ _; exact Nat.le_of_eq rfl) (hb hby at_200) rfl rfl (by decide) (by decide) ?_
    rintro _ T6 L6 X6 ⟨rfl, Nq6, e6⟩
    have N6 := Fr.app N5 Nq6
    show OGW _ _ _ _ _ _ _ _ _ _ (T6.setTop (mkF m 203 #[.val (.int p0), .val (.int p1), .val (.int p2), .val (.int p3), .val (.int p4), .val (.int (p2 &&& (3 : Int32))), .val (.int (own_hl p2)), .val (.int (own_n0 p0)), .val (.int (own_n1 p0)), .val (.int (own_n2 p0)), .val (.int x0), .val (.int x1), .val (.int x2), .val (.int an), .val (.int pt), .val (.int hp), .val (.ref b1), .unset, .unset, .unset, .unset] [(.int (f10 b5_r hp b2_r (own_str (p2 &&& (3 : Int32)) (own_n0 p0) (own_n1 p0) (own_n2 p0)) (own_str (own_hl p2) x0 x1 x2) pt))]))
    refine OGW.step (F' := T6.setTop (mkF m 209 #[.val (.int p0), .val (.int p1), .val (.int p2), .val (.int p3), .val (.int p4), .val (.int (p2 &&& (3 : Int32))), .val (.int (own_hl p2)), .val (.int (own_n0 p0)), .val (.int (own_n1 p0)), .val (.int (own_n2 p0)), .val (.int x0), .val (.int x1), .val (.int x2), .val (.int an), .val (.int pt), .val (.int hp), .val (.ref b1), .val (.int (f10 b5_r hp b2_r (own_str (p2 &&& (3 : Int32)) (own_n0 p0) (own_n1 p0) (own_n2 p0)) (own_str (own_hl p2) x0 x1 x2) pt)), .unset, .unset, .unset] [(.int (own_hl p2)), (.int (p2 &&& (3 : Int32)))])) (fun t kt => ?_) ?_
    · show Steps p.tables e below (T6.setTop (mkF m 203 #[.val (.int p0), .val (.int p1), .val (.int p2), .val (.int p3), .val (.int p4), .val (.int (p2 &&& (3 : Int32))), .val (.int (own_hl p2)), .val (.int (own_n0 p0)), .val (.int (own_n1 p0)), .val (.int (own_n2 p0)), .val (.int x0), .val (.int x1), .val (.int x2), .val (.int an), .val (.int pt), .val (.int hp), .val (.ref b1), .unset, .unset, .unset, .unset] [(.int (f10 b5_r hp b2_r (own_str (p2 &&& (3 : Int32)) (own_n0 p0) (own_n1 p0) (own_n2 p0)) (own_str (own_hl p2) x0 x1 x2) pt))])) t
      refine XS.istore X6.here hx rfl (hb hby at_203) rfl (l' := #[.val (.int p0), .val (.int p1), .val (.int p2), .val (.int p3), .val (.int p4), .val (.int (p2 &&& (3 : Int32))), .val (.int (own_hl p2)), .val (.int (own_n0 p0)), .val (.int (own_n1 p0)), .val (.int (own_n2 p0)), .val (.int x0), .val (.int x1), .val (.int x2), .val (.int an), .val (.int pt), .val (.int hp), .val (.ref b1), .val (.int (f10 b5_r hp b2_r (own_str (p2 &&& (3 : Int32)) (own_n0 p0) (own_n1 p0) (own_n2 p0)) (own_str (own_hl p2) x0 x1 x2) pt)), .unset, .unset, .unset]) rfl ?_
      refine XS.iload X6.here hx rfl (hb hby at_205) rfl ?_
      refine XS.iload X6.here hx rfl (hb hby at_207) rfl ?_
      exact kt
    by_cases hc209 : (p2 &&& (3 : Int32)) = (own_hl p2)
    · refine OGW.step (F' := T6.setTop (mkF m 212 #[.val (.int p0), .val (.int p1), .val (.int p2), .val (.int p3), .val (.int p4), .val (.int (p2 &&& (3 : Int32))), .val (.int (own_hl p2)), .val (.int (own_n0 p0)), .val (.int (own_n1 p0)), .val (.int (own_n2 p0)), .val (.int x0), .val (.int x1), .val (.int x2), .val (.int an), .val (.int pt), .val (.int hp), .val (.ref b1), .val (.int (f10 b5_r hp b2_r (own_str (p2 &&& (3 : Int32)) (own_n0 p0) (own_n1 p0) (own_n2 p0)) (own_str (own_hl p2) x0 x1 x2) pt)), .unset, .unset, .unset] [])) (fun t kt => ?_) ?_
      · show Steps p.tables e below (T6.setTop (mkF m 209 #[.val (.int p0), .val (.int p1), .val (.int p2), .val (.int p3), .val (.int p4), .val (.int (p2 &&& (3 : Int32))), .val (.int (own_hl p2)), .val (.int (own_n0 p0)), .val (.int (own_n1 p0)), .val (.int (own_n2 p0)), .val (.int x0), .val (.int x1), .val (.int x2), .val (.int an), .val (.int pt), .val (.int hp), .val (.ref b1), .val (.int (f10 b5_r hp b2_r (own_str (p2 &&& (3 : Int32)) (own_n0 p0) (own_n1 p0) (own_n2 p0)) (own_str (own_hl p2) x0 x1 x2) pt)), .unset, .unset, .unset] [(.int (own_hl p2)), (.int (p2 &&& (3 : Int32)))])) t
        refine XS.icmpNo X6.here hx rfl (hb hby at_209) rfl (teq hc209).2 ?_
        exact kt
      refine OGW.step (F' := T6.setTop (mkF m 215 #[.val (.int p0), .val (.int p1), .val (.int p2), .val (.int p3), .val (.int p4), .val (.int (p2 &&& (3 : Int32))), .val (.int (own_hl p2)), .val (.int (own_n0 p0)), .val (.int (own_n1 p0)), .val (.int (own_n2 p0)), .val (.int x0), .val (.int x1), .val (.int x2), .val (.int an), .val (.int pt), .val (.int hp), .val (.ref b1), .val (.int (f10 b5_r hp b2_r (own_str (p2 &&& (3 : Int32)) (own_n0 p0) (own_n1 p0) (own_n2 p0)) (own_str (own_hl p2) x0 x1 x2) pt)), .unset, .unset, .unset] [(.int (1 : Int32)), (.int (p2 &&& (3 : Int32)))])) (fun t kt => ?_) ?_
      · show Steps p.tables e below (T6.setTop (mkF m 212 #[.val (.int p0), .val (.int p1), .val (.int p2), .val (.int p3), .val (.int p4), .val (.int (p2 &&& (3 : Int32))), .val (.int (own_hl p2)), .val (.int (own_n0 p0)), .val (.int (own_n1 p0)), .val (.int (own_n2 p0)), .val (.int x0), .val (.int x1), .val (.int x2), .val (.int an), .val (.int pt), .val (.int hp), .val (.ref b1), .val (.int (f10 b5_r hp b2_r (own_str (p2 &&& (3 : Int32)) (own_n0 p0) (own_n1 p0) (own_n2 p0)) (own_str (own_hl p2) x0 x1 x2) pt)), .unset, .unset, .unset] [])) t
        refine XS.iload X6.here hx rfl (hb hby at_212) rfl ?_
        refine XS.iconst X6.here hx rfl (hb hby at_214) ?_
        exact kt
      by_cases hc215 : (p2 &&& (3 : Int32)) < (1 : Int32)
      · refine OGW.step (F' := T6.setTop (mkF m 225 #[.val (.int p0), .val (.int p1), .val (.int p2), .val (.int p3), .val (.int p4), .val (.int (p2 &&& (3 : Int32))), .val (.int (own_hl p2)), .val (.int (own_n0 p0)), .val (.int (own_n1 p0)), .val (.int (own_n2 p0)), .val (.int x0), .val (.int x1), .val (.int x2), .val (.int an), .val (.int pt), .val (.int hp), .val (.ref b1), .val (.int (f10 b5_r hp b2_r (own_str (p2 &&& (3 : Int32)) (own_n0 p0) (own_n1 p0) (own_n2 p0)) (own_str (own_hl p2) x0 x1 x2) pt)), .unset, .unset, .unset] [])) (fun t kt => ?_) ?_
        · show Steps p.tables e below (T6.setTop (mkF m 215 #[.val (.int p0), .val (.int p1), .val (.int p2), .val (.int p3), .val (.int p4), .val (.int (p2 &&& (3 : Int32))), .val (.int (own_hl p2)), .val (.int (own_n0 p0)), .val (.int (own_n1 p0)), .val (.int (own_n2 p0)), .val (.int x0), .val (.int x1), .val (.int x2), .val (.int an), .val (.int pt), .val (.int hp), .val (.ref b1), .val (.int (f10 b5_r hp b2_r (own_str (p2 &&& (3 : Int32)) (own_n0 p0) (own_n1 p0) (own_n2 p0)) (own_str (own_hl p2) x0 x1 x2) pt)), .unset, .unset, .unset] [(.int (1 : Int32)), (.int (p2 &&& (3 : Int32)))])) t
          refine XS.icmpYes X6.here hx rfl (pc0 := 215) (pc' := 225) rfl (hb hby at_215) rfl (tlt hc215).1 (by decide) (by decide) ?_
          exact kt
        refine OGW.step (F' := T6.setTop (mkF m 228 #[.val (.int p0), .val (.int p1), .val (.int p2), .val (.int p3), .val (.int p4), .val (.int (p2 &&& (3 : Int32))), .val (.int (own_hl p2)), .val (.int (own_n0 p0)), .val (.int (own_n1 p0)), .val (.int (own_n2 p0)), .val (.int x0), .val (.int x1), .val (.int x2), .val (.int an), .val (.int pt), .val (.int hp), .val (.ref b1), .val (.int (f10 b5_r hp b2_r (own_str (p2 &&& (3 : Int32)) (own_n0 p0) (own_n1 p0) (own_n2 p0)) (own_str (own_hl p2) x0 x1 x2) pt)), .unset, .unset, .unset] [(.int (2 : Int32)), (.int (p2 &&& (3 : Int32)))])) (fun t kt => ?_) ?_
        · show Steps p.tables e below (T6.setTop (mkF m 225 #[.val (.int p0), .val (.int p1), .val (.int p2), .val (.int p3), .val (.int p4), .val (.int (p2 &&& (3 : Int32))), .val (.int (own_hl p2)), .val (.int (own_n0 p0)), .val (.int (own_n1 p0)), .val (.int (own_n2 p0)), .val (.int x0), .val (.int x1), .val (.int x2), .val (.int an), .val (.int pt), .val (.int hp), .val (.ref b1), .val (.int (f10 b5_r hp b2_r (own_str (p2 &&& (3 : Int32)) (own_n0 p0) (own_n1 p0) (own_n2 p0)) (own_str (own_hl p2) x0 x1 x2) pt)), .unset, .unset, .unset] [])) t
          refine XS.iload X6.here hx rfl (hb hby at_225) rfl ?_
          refine XS.iconst X6.here hx rfl (hb hby at_227) ?_
          exact kt
        by_cases hc228 : (p2 &&& (3 : Int32)) < (2 : Int32)
        · refine OGW.step (F' := T6.setTop (mkF m 238 #[.val (.int p0), .val (.int p1), .val (.int p2), .val (.int p3), .val (.int p4), .val (.int (p2 &&& (3 : Int32))), .val (.int (own_hl p2)), .val (.int (own_n0 p0)), .val (.int (own_n1 p0)), .val (.int (own_n2 p0)), .val (.int x0), .val (.int x1), .val (.int x2), .val (.int an), .val (.int pt), .val (.int hp), .val (.ref b1), .val (.int (f10 b5_r hp b2_r (own_str (p2 &&& (3 : Int32)) (own_n0 p0) (own_n1 p0) (own_n2 p0)) (own_str (own_hl p2) x0 x1 x2) pt)), .unset, .unset, .unset] [])) (fun t kt => ?_) ?_
          · show Steps p.tables e below (T6.setTop (mkF m 228 #[.val (.int p0), .val (.int p1), .val (.int p2), .val (.int p3), .val (.int p4), .val (.int (p2 &&& (3 : Int32))), .val (.int (own_hl p2)), .val (.int (own_n0 p0)), .val (.int (own_n1 p0)), .val (.int (own_n2 p0)), .val (.int x0), .val (.int x1), .val (.int x2), .val (.int an), .val (.int pt), .val (.int hp), .val (.ref b1), .val (.int (f10 b5_r hp b2_r (own_str (p2 &&& (3 : Int32)) (own_n0 p0) (own_n1 p0) (own_n2 p0)) (own_str (own_hl p2) x0 x1 x2) pt)), .unset, .unset, .unset] [(.int (2 : Int32)), (.int (p2 &&& (3 : Int32)))])) t
            refine XS.icmpYes X6.here hx rfl (pc0 := 228) (pc' := 238) rfl (hb hby at_228) rfl (tlt hc228).1 (by decide) (by decide) ?_
            exact kt
          refine OGW.step (F' := T6.setTop (mkF m 241 #[.val (.int p0), .val (.int p1), .val (.int p2), .val (.int p3), .val (.int p4), .val (.int (p2 &&& (3 : Int32))), .val (.int (own_hl p2)), .val (.int (own_n0 p0)), .val (.int (own_n1 p0)), .val (.int (own_n2 p0)), .val (.int x0), .val (.int x1), .val (.int x2), .val (.int an), .val (.int pt), .val (.int hp), .val (.ref b1), .val (.int (f10 b5_r hp b2_r (own_str (p2 &&& (3 : Int32)) (own_n0 p0) (own_n1 p0) (own_n2 p0)) (own_str (own_hl p2) x0 x1 x2) pt)), .unset, .unset, .unset] [(.int (3 : Int32)), (.int (p2 &&& (3 : Int32)))])) (fun t kt => ?_) ?_
          · show Steps p.tables e below (T6.setTop (mkF m 238 #[.val (.int p0), .val (.int p1), .val (.int p2), .val (.int p3), .val (.int p4), .val (.int (p2 &&& (3 : Int32))), .val (.int (own_hl p2)), .val (.int (own_n0 p0)), .val (.int (own_n1 p0)), .val (.int (own_n2 p0)), .val (.int x0), .val (.int x1), .val (.int x2), .val (.int an), .val (.int pt), .val (.int hp), .val (.ref b1), .val (.int (f10 b5_r hp b2_r (own_str (p2 &&& (3 : Int32)) (own_n0 p0) (own_n1 p0) (own_n2 p0)) (own_str (own_hl p2) x0 x1 x2) pt)), .unset, .unset, .unset] [])) t
            refine XS.iload X6.here hx rfl (hb hby at_238) rfl ?_
            refine XS.iconst X6.here hx rfl (hb hby at_240) ?_
            exact kt
          by_cases hc241 : (p2 &&& (3 : Int32)) < (3 : Int32)
          · refine OGW.step (F' := T6.setTop (mkF m 251 #[.val (.int p0), .val (.int p1), .val (.int p2), .val (.int p3), .val (.int p4), .val (.int (p2 &&& (3 : Int32))), .val (.int (own_hl p2)), .val (.int (own_n0 p0)), .val (.int (own_n1 p0)), .val (.int (own_n2 p0)), .val (.int x0), .val (.int x1), .val (.int x2), .val (.int an), .val (.int pt), .val (.int hp), .val (.ref b1), .val (.int (f10 b5_r hp b2_r (own_str (p2 &&& (3 : Int32)) (own_n0 p0) (own_n1 p0) (own_n2 p0)) (own_str (own_hl p2) x0 x1 x2) pt)), .unset, .unset, .unset] [])) (fun t kt => ?_) ?_
            · show Steps p.tables e below (T6.setTop (mkF m 241 #[.val (.int p0), .val (.int p1), .val (.int p2), .val (.int p3), .val (.int p4), .val (.int (p2 &&& (3 : Int32))), .val (.int (own_hl p2)), .val (.int (own_n0 p0)), .val (.int (own_n1 p0)), .val (.int (own_n2 p0)), .val (.int x0), .val (.int x1), .val (.int x2), .val (.int an), .val (.int pt), .val (.int hp), .val (.ref b1), .val (.int (f10 b5_r hp b2_r (own_str (p2 &&& (3 : Int32)) (own_n0 p0) (own_n1 p0) (own_n2 p0)) (own_str (own_hl p2) x0 x1 x2) pt)), .unset, .unset, .unset] [(.int (3 : Int32)), (.int (p2 &&& (3 : Int32)))])) t
              refine XS.icmpYes X6.here hx rfl (pc0 := 241) (pc' := 251) rfl (hb hby at_241) rfl (tlt hc241).1 (by decide) (by decide) ?_
              exact kt
            refine OGW.step (F' := T6.setTop (mkF m 260 #[.val (.int p0), .val (.int p1), .val (.int p2), .val (.int p3), .val (.int p4), .val (.int (p2 &&& (3 : Int32))), .val (.int (own_hl p2)), .val (.int (own_n0 p0)), .val (.int (own_n1 p0)), .val (.int (own_n2 p0)), .val (.int x0), .val (.int x1), .val (.int x2), .val (.int an), .val (.int pt), .val (.int hp), .val (.ref b1), .val (.int (f10 b5_r hp b2_r (own_str (p2 &&& (3 : Int32)) (own_n0 p0) (own_n1 p0) (own_n2 p0)) (own_str (own_hl p2) x0 x1 x2) pt)), .val (.int (1 : Int32)), .unset, .unset] [(.int an)])) (fun t kt => ?_) ?_
            · show Steps p.tables e below (T6.setTop (mkF m 251 #[.val (.int p0), .val (.int p1), .val (.int p2), .val (.int p3), .val (.int p4), .val (.int (p2 &&& (3 : Int32))), .val (.int (own_hl p2)), .val (.int (own_n0 p0)), .val (.int (own_n1 p0)), .val (.int (own_n2 p0)), .val (.int x0), .val (.int x1), .val (.int x2), .val (.int an), .val (.int pt), .val (.int hp), .val (.ref b1), .val (.int (f10 b5_r hp b2_r (own_str (p2 &&& (3 : Int32)) (own_n0 p0) (own_n1 p0) (own_n2 p0)) (own_str (own_hl p2) x0 x1 x2) pt)), .unset, .unset, .unset] [])) t
              refine XS.iconst X6.here hx rfl (hb hby at_251) ?_
              refine XS.goto X6.here hx rfl (pc0 := 252) (pc' := 256) rfl (hb hby at_252) (by decide) (by decide) ?_
              refine XS.istore X6.here hx rfl (hb hby at_256) rfl (l' := #[.val (.int p0), .val (.int p1), .val (.int p2), .val (.int p3), .val (.int p4), .val (.int (p2 &&& (3 : Int32))), .val (.int (own_hl p2)), .val (.int (own_n0 p0)), .val (.int (own_n1 p0)), .val (.int (own_n2 p0)), .val (.int x0), .val (.int x1), .val (.int x2), .val (.int an), .val (.int pt), .val (.int hp), .val (.ref b1), .val (.int (f10 b5_r hp b2_r (own_str (p2 &&& (3 : Int32)) (own_n0 p0) (own_n1 p0) (own_n2 p0)) (own_str (own_hl p2) x0 x1 x2) pt)), .val (.int (1 : Int32)), .unset, .unset]) rfl ?_
              refine XS.iload X6.here hx rfl (hb hby at_258) rfl ?_
              exact kt
            by_cases hc260 : an = (0 : Int32)
            · refine OGW.step (F' := T6.setTop (mkF m 263 #[.val (.int p0), .val (.int p1), .val (.int p2), .val (.int p3), .val (.int p4), .val (.int (p2 &&& (3 : Int32))), .val (.int (own_hl p2)), .val (.int (own_n0 p0)), .val (.int (own_n1 p0)), .val (.int (own_n2 p0)), .val (.int x0), .val (.int x1), .val (.int x2), .val (.int an), .val (.int pt), .val (.int hp), .val (.ref b1), .val (.int (f10 b5_r hp b2_r (own_str (p2 &&& (3 : Int32)) (own_n0 p0) (own_n1 p0) (own_n2 p0)) (own_str (own_hl p2) x0 x1 x2) pt)), .val (.int (1 : Int32)), .unset, .unset] [])) (fun t kt => ?_) ?_
              · show Steps p.tables e below (T6.setTop (mkF m 260 #[.val (.int p0), .val (.int p1), .val (.int p2), .val (.int p3), .val (.int p4), .val (.int (p2 &&& (3 : Int32))), .val (.int (own_hl p2)), .val (.int (own_n0 p0)), .val (.int (own_n1 p0)), .val (.int (own_n2 p0)), .val (.int x0), .val (.int x1), .val (.int x2), .val (.int an), .val (.int pt), .val (.int hp), .val (.ref b1), .val (.int (f10 b5_r hp b2_r (own_str (p2 &&& (3 : Int32)) (own_n0 p0) (own_n1 p0) (own_n2 p0)) (own_str (own_hl p2) x0 x1 x2) pt)), .val (.int (1 : Int32)), .unset, .unset] [(.int an)])) t
                refine XS.ifNo X6.here hx rfl (hb hby at_260) rfl ((if0 _ _).trans (teq hc260).2) ?_
                exact kt
              refine OGW.step (F' := T6.setTop (mkF m 267 #[.val (.int p0), .val (.int p1), .val (.int p2), .val (.int p3), .val (.int p4), .val (.int (p2 &&& (3 : Int32))), .val (.int (own_hl p2)), .val (.int (own_n0 p0)), .val (.int (own_n1 p0)), .val (.int (own_n2 p0)), .val (.int x0), .val (.int x1), .val (.int x2), .val (.int an), .val (.int pt), .val (.int hp), .val (.ref b1), .val (.int (f10 b5_r hp b2_r (own_str (p2 &&& (3 : Int32)) (own_n0 p0) (own_n1 p0) (own_n2 p0)) (own_str (own_hl p2) x0 x1 x2) pt)), .val (.int (1 : Int32)), .unset, .unset] [(.int hp), (.int pt)])) (fun t kt => ?_) ?_
              · show Steps p.tables e below (T6.setTop (mkF m 263 #[.val (.int p0), .val (.int p1), .val (.int p2), .val (.int p3), .val (.int p4), .val (.int (p2 &&& (3 : Int32))), .val (.int (own_hl p2)), .val (.int (own_n0 p0)), .val (.int (own_n1 p0)), .val (.int (own_n2 p0)), .val (.int x0), .val (.int x1), .val (.int x2), .val (.int an), .val (.int pt), .val (.int hp), .val (.ref b1), .val (.int (f10 b5_r hp b2_r (own_str (p2 &&& (3 : Int32)) (own_n0 p0) (own_n1 p0) (own_n2 p0)) (own_str (own_hl p2) x0 x1 x2) pt)), .val (.int (1 : Int32)), .unset, .unset] [])) t
                refine XS.iload X6.here hx rfl (hb hby at_263) rfl ?_
                refine XS.iload X6.here hx rfl (hb hby at_265) rfl ?_
                exact kt
              by_cases hc267 : pt = hp
              · refine OGW.step (F' := T6.setTop (mkF m 270 #[.val (.int p0), .val (.int p1), .val (.int p2), .val (.int p3), .val (.int p4), .val (.int (p2 &&& (3 : Int32))), .val (.int (own_hl p2)), .val (.int (own_n0 p0)), .val (.int (own_n1 p0)), .val (.int (own_n2 p0)), .val (.int x0), .val (.int x1), .val (.int x2), .val (.int an), .val (.int pt), .val (.int hp), .val (.ref b1), .val (.int (f10 b5_r hp b2_r (own_str (p2 &&& (3 : Int32)) (own_n0 p0) (own_n1 p0) (own_n2 p0)) (own_str (own_hl p2) x0 x1 x2) pt)), .val (.int (1 : Int32)), .unset, .unset] [])) (fun t kt => ?_) ?_
                · show Steps p.tables e below (T6.setTop (mkF m 267 #[.val (.int p0), .val (.int p1), .val (.int p2), .val (.int p3), .val (.int p4), .val (.int (p2 &&& (3 : Int32))), .val (.int (own_hl p2)), .val (.int (own_n0 p0)), .val (.int (own_n1 p0)), .val (.int (own_n2 p0)), .val (.int x0), .val (.int x1), .val (.int x2), .val (.int an), .val (.int pt), .val (.int hp), .val (.ref b1), .val (.int (f10 b5_r hp b2_r (own_str (p2 &&& (3 : Int32)) (own_n0 p0) (own_n1 p0) (own_n2 p0)) (own_str (own_hl p2) x0 x1 x2) pt)), .val (.int (1 : Int32)), .unset, .unset] [(.int hp), (.int pt)])) t
                  refine XS.icmpNo X6.here hx rfl (hb hby at_267) rfl (teq hc267).2 ?_
                  exact kt
                refine OGW.step (F' := T6.setTop (mkF m 306 #[.val (.int p0), .val (.int p1), .val (.int p2), .val (.int p3), .val (.int p4), .val (.int (p2 &&& (3 : Int32))), .val (.int (own_hl p2)), .val (.int (own_n0 p0)), .val (.int (own_n1 p0)), .val (.int (own_n2 p0)), .val (.int x0), .val (.int x1), .val (.int x2), .val (.int an), .val (.int pt), .val (.int hp), .val (.ref b1), .val (.int (f10 b5_r hp b2_r (own_str (p2 &&& (3 : Int32)) (own_n0 p0) (own_n1 p0) (own_n2 p0)) (own_str (own_hl p2) x0 x1 x2) pt)), .val (.int (1 : Int32)), .val (.int (1 : Int32)), .val (.int (1 : Int32))] [(.int (1 : Int32))])) (fun t kt => ?_) ?_
                · show Steps p.tables e below (T6.setTop (mkF m 270 #[.val (.int p0), .val (.int p1), .val (.int p2), .val (.int p3), .val (.int p4), .val (.int (p2 &&& (3 : Int32))), .val (.int (own_hl p2)), .val (.int (own_n0 p0)), .val (.int (own_n1 p0)), .val (.int (own_n2 p0)), .val (.int x0), .val (.int x1), .val (.int x2), .val (.int an), .val (.int pt), .val (.int hp), .val (.ref b1), .val (.int (f10 b5_r hp b2_r (own_str (p2 &&& (3 : Int32)) (own_n0 p0) (own_n1 p0) (own_n2 p0)) (own_str (own_hl p2) x0 x1 x2) pt)), .val (.int (1 : Int32)), .unset, .unset] [])) t
                  refine XS.iconst X6.here hx rfl (hb hby at_270) ?_
                  refine XS.goto X6.here hx rfl (pc0 := 271) (pc' := 275) rfl (hb hby at_271) (by decide) (by decide) ?_
                  refine XS.istore X6.here hx rfl (hb hby at_275) rfl (l' := #[.val (.int p0), .val (.int p1), .val (.int p2), .val (.int p3), .val (.int p4), .val (.int (p2 &&& (3 : Int32))), .val (.int (own_hl p2)), .val (.int (own_n0 p0)), .val (.int (own_n1 p0)), .val (.int (own_n2 p0)), .val (.int x0), .val (.int x1), .val (.int x2), .val (.int an), .val (.int pt), .val (.int hp), .val (.ref b1), .val (.int (f10 b5_r hp b2_r (own_str (p2 &&& (3 : Int32)) (own_n0 p0) (own_n1 p0) (own_n2 p0)) (own_str (own_hl p2) x0 x1 x2) pt)), .val (.int (1 : Int32)), .val (.int (1 : Int32)), .unset]) rfl ?_
                  refine XS.iload X6.here hx rfl (hb hby at_277) rfl ?_
                  refine XS.ifNo X6.here hx rfl (hb hby at_279) rfl ((if0 _ _).trans (feq (by decide : ¬ ((1 : Int32) = (0 : Int32)))).1) ?_
                  refine XS.iload X6.here hx rfl (hb hby at_282) rfl ?_
                  refine XS.ifNo X6.here hx rfl (hb hby at_284) rfl ((if0 _ _).trans (feq (by decide : ¬ ((1 : Int32) = (0 : Int32)))).1) ?_
                  refine XS.iconst X6.here hx rfl (hb hby at_287) ?_
                  refine XS.goto X6.here hx rfl (pc0 := 288) (pc' := 292) rfl (hb hby at_288) (by decide) (by decide) ?_
                  refine XS.istore X6.here hx rfl (hb hby at_292) rfl (l' := #[.val (.int p0), .val (.int p1), .val (.int p2), .val (.int p3), .val (.int p4), .val (.int (p2 &&& (3 : Int32))), .val (.int (own_hl p2)), .val (.int (own_n0 p0)), .val (.int (own_n1 p0)), .val (.int (own_n2 p0)), .val (.int x0), .val (.int x1), .val (.int x2), .val (.int an), .val (.int pt), .val (.int hp), .val (.ref b1), .val (.int (f10 b5_r hp b2_r (own_str (p2 &&& (3 : Int32)) (own_n0 p0) (own_n1 p0) (own_n2 p0)) (own_str (own_hl p2) x0 x1 x2) pt)), .val (.int (1 : Int32)), .val (.int (1 : Int32)), .val (.int (1 : Int32))]) rfl ?_
                  refine XS.iload X6.here hx rfl (hb hby at_294) rfl ?_
                  refine XS.iload X6.here hx rfl (hb hby at_296) rfl ?_
                  refine XS.icmpNo X6.here hx rfl (hb hby at_298) rfl (teq ((own_fin _ _ (Nat.ne_of_lt (Nat.lt_of_lt_of_le (P2_0.keep K4).lt szo_b5_r)) _ _ _ _ _ _ _ _ _ _ _ (own_nl _) (own_nl _) (own_rn0 _) (own_rn1 _) (own_rn2 _) hx0 hx1 hx2 hap).1 ⟨⟨hc209, Or.inl hc215, Or.inl hc228, Or.inl hc241⟩, Or.inr hc267⟩)).2 ?_
                  refine XS.iconst X6.here hx rfl (hb hby at_301) ?_
                  refine XS.goto X6.here hx rfl (pc0 := 302) (pc' := 306) rfl (hb hby at_302) (by decide) (by decide) ?_
                  exact kt
                refine OGW.retZ X6 hx hlk hS hk hZ hEL CR e6 (t := .boolean) (z' := (1 : Int32)) hret (by simp) (hb hby at_306) rfl ?_ (by decide) (by decide)
                show Q0 Z p0 p1 p2 p3 p4 w_COMPACT_STRINGS h0 n0 _ T6.heap _
                rw [e6]
                exact ⟨rfl, N6, KC5⟩
              · refine OGW.step (F' := T6.setTop (mkF m 274 #[.val (.int p0), .val (.int p1), .val (.int p2), .val (.int p3), .val (.int p4), .val (.int (p2 &&& (3 : Int32))), .val (.int (own_hl p2)), .val (.int (own_n0 p0)), .val (.int (own_n1 p0)), .val (.int (own_n2 p0)), .val (.int x0), .val (.int x1), .val (.int x2), .val (.int an), .val (.int pt), .val (.int hp), .val (.ref b1), .val (.int (f10 b5_r hp b2_r (own_str (p2 &&& (3 : Int32)) (own_n0 p0) (own_n1 p0) (own_n2 p0)) (own_str (own_hl p2) x0 x1 x2) pt)), .val (.int (1 : Int32)), .unset, .unset] [])) (fun t kt => ?_) ?_
                · show Steps p.tables e below (T6.setTop (mkF m 267 #[.val (.int p0), .val (.int p1), .val (.int p2), .val (.int p3), .val (.int p4), .val (.int (p2 &&& (3 : Int32))), .val (.int (own_hl p2)), .val (.int (own_n0 p0)), .val (.int (own_n1 p0)), .val (.int (own_n2 p0)), .val (.int x0), .val (.int x1), .val (.int x2), .val (.int an), .val (.int pt), .val (.int hp), .val (.ref b1), .val (.int (f10 b5_r hp b2_r (own_str (p2 &&& (3 : Int32)) (own_n0 p0) (own_n1 p0) (own_n2 p0)) (own_str (own_hl p2) x0 x1 x2) pt)), .val (.int (1 : Int32)), .unset, .unset] [(.int hp), (.int pt)])) t
                  refine XS.icmpYes X6.here hx rfl (pc0 := 267) (pc' := 274) rfl (hb hby at_267) rfl (feq hc267).2 (by decide) (by decide) ?_
                  exact kt
                refine OGW.step (F' := T6.setTop (mkF m 306 #[.val (.int p0), .val (.int p1), .val (.int p2), .val (.int p3), .val (.int p4), .val (.int (p2 &&& (3 : Int32))), .val (.int (own_hl p2)), .val (.int (own_n0 p0)), .val (.int (own_n1 p0)), .val (.int (own_n2 p0)), .val (.int x0), .val (.int x1), .val (.int x2), .val (.int an), .val (.int pt), .val (.int hp), .val (.ref b1), .val (.int (f10 b5_r hp b2_r (own_str (p2 &&& (3 : Int32)) (own_n0 p0) (own_n1 p0) (own_n2 p0)) (own_str (own_hl p2) x0 x1 x2) pt)), .val (.int (1 : Int32)), .val (.int (0 : Int32)), .val (.int (0 : Int32))] [(.int (1 : Int32))])) (fun t kt => ?_) ?_
                · show Steps p.tables e below (T6.setTop (mkF m 274 #[.val (.int p0), .val (.int p1), .val (.int p2), .val (.int p3), .val (.int p4), .val (.int (p2 &&& (3 : Int32))), .val (.int (own_hl p2)), .val (.int (own_n0 p0)), .val (.int (own_n1 p0)), .val (.int (own_n2 p0)), .val (.int x0), .val (.int x1), .val (.int x2), .val (.int an), .val (.int pt), .val (.int hp), .val (.ref b1), .val (.int (f10 b5_r hp b2_r (own_str (p2 &&& (3 : Int32)) (own_n0 p0) (own_n1 p0) (own_n2 p0)) (own_str (own_hl p2) x0 x1 x2) pt)), .val (.int (1 : Int32)), .unset, .unset] [])) t
                  refine XS.iconst X6.here hx rfl (hb hby at_274) ?_
                  refine XS.istore X6.here hx rfl (hb hby at_275) rfl (l' := #[.val (.int p0), .val (.int p1), .val (.int p2), .val (.int p3), .val (.int p4), .val (.int (p2 &&& (3 : Int32))), .val (.int (own_hl p2)), .val (.int (own_n0 p0)), .val (.int (own_n1 p0)), .val (.int (own_n2 p0)), .val (.int x0), .val (.int x1), .val (.int x2), .val (.int an), .val (.int pt), .val (.int hp), .val (.ref b1), .val (.int (f10 b5_r hp b2_r (own_str (p2 &&& (3 : Int32)) (own_n0 p0) (own_n1 p0) (own_n2 p0)) (own_str (own_hl p2) x0 x1 x2) pt)), .val (.int (1 : Int32)), .val (.int (0 : Int32)), .unset]) rfl ?_
                  refine XS.iload X6.here hx rfl (hb hby at_277) rfl ?_
                  refine XS.ifNo X6.here hx rfl (hb hby at_279) rfl ((if0 _ _).trans (feq (by decide : ¬ ((1 : Int32) = (0 : Int32)))).1) ?_
                  refine XS.iload X6.here hx rfl (hb hby at_282) rfl ?_
                  refine XS.ifYes X6.here hx rfl (pc0 := 284) (pc' := 291) rfl (hb hby at_284) rfl ((if0 _ _).trans (teq (by decide : (0 : Int32) = (0 : Int32))).1) (by decide) (by decide) ?_
                  refine XS.iconst X6.here hx rfl (hb hby at_291) ?_
                  refine XS.istore X6.here hx rfl (hb hby at_292) rfl (l' := #[.val (.int p0), .val (.int p1), .val (.int p2), .val (.int p3), .val (.int p4), .val (.int (p2 &&& (3 : Int32))), .val (.int (own_hl p2)), .val (.int (own_n0 p0)), .val (.int (own_n1 p0)), .val (.int (own_n2 p0)), .val (.int x0), .val (.int x1), .val (.int x2), .val (.int an), .val (.int pt), .val (.int hp), .val (.ref b1), .val (.int (f10 b5_r hp b2_r (own_str (p2 &&& (3 : Int32)) (own_n0 p0) (own_n1 p0) (own_n2 p0)) (own_str (own_hl p2) x0 x1 x2) pt)), .val (.int (1 : Int32)), .val (.int (0 : Int32)), .val (.int (0 : Int32))]) rfl ?_
                  refine XS.iload X6.here hx rfl (hb hby at_294) rfl ?_
                  refine XS.iload X6.here hx rfl (hb hby at_296) rfl ?_
                  refine XS.icmpNo X6.here hx rfl (hb hby at_298) rfl (teq ((own_fin _ _ (Nat.ne_of_lt (Nat.lt_of_lt_of_le (P2_0.keep K4).lt szo_b5_r)) _ _ _ _ _ _ _ _ _ _ _ (own_nl _) (own_nl _) (own_rn0 _) (own_rn1 _) (own_rn2 _) hx0 hx1 hx2 hap).2 (fun q => q.2.elim (fun z => z hc260) hc267))).2 ?_
                  refine XS.iconst X6.here hx rfl (hb hby at_301) ?_
                  refine XS.goto X6.here hx rfl (pc0 := 302) (pc' := 306) rfl (hb hby at_302) (by decide) (by decide) ?_
                  exact kt
                refine OGW.retZ X6 hx hlk hS hk hZ hEL CR e6 (t := .boolean) (z' := (1 : Int32)) hret (by simp) (hb hby at_306) rfl ?_ (by decide) (by decide)
                show Q0 Z p0 p1 p2 p3 p4 w_COMPACT_STRINGS h0 n0 _ T6.heap _
                rw [e6]
                exact ⟨rfl, N6, KC5⟩
            · refine OGW.step (F' := T6.setTop (mkF m 270 #[.val (.int p0), .val (.int p1), .val (.int p2), .val (.int p3), .val (.int p4), .val (.int (p2 &&& (3 : Int32))), .val (.int (own_hl p2)), .val (.int (own_n0 p0)), .val (.int (own_n1 p0)), .val (.int (own_n2 p0)), .val (.int x0), .val (.int x1), .val (.int x2), .val (.int an), .val (.int pt), .val (.int hp), .val (.ref b1), .val (.int (f10 b5_r hp b2_r (own_str (p2 &&& (3 : Int32)) (own_n0 p0) (own_n1 p0) (own_n2 p0)) (own_str (own_hl p2) x0 x1 x2) pt)), .val (.int (1 : Int32)), .unset, .unset] [])) (fun t kt => ?_) ?_
              · show Steps p.tables e below (T6.setTop (mkF m 260 #[.val (.int p0), .val (.int p1), .val (.int p2), .val (.int p3), .val (.int p4), .val (.int (p2 &&& (3 : Int32))), .val (.int (own_hl p2)), .val (.int (own_n0 p0)), .val (.int (own_n1 p0)), .val (.int (own_n2 p0)), .val (.int x0), .val (.int x1), .val (.int x2), .val (.int an), .val (.int pt), .val (.int hp), .val (.ref b1), .val (.int (f10 b5_r hp b2_r (own_str (p2 &&& (3 : Int32)) (own_n0 p0) (own_n1 p0) (own_n2 p0)) (own_str (own_hl p2) x0 x1 x2) pt)), .val (.int (1 : Int32)), .unset, .unset] [(.int an)])) t
                refine XS.ifYes X6.here hx rfl (pc0 := 260) (pc' := 270) rfl (hb hby at_260) rfl ((if0 _ _).trans (feq hc260).2) (by decide) (by decide) ?_
                exact kt
              refine OGW.step (F' := T6.setTop (mkF m 306 #[.val (.int p0), .val (.int p1), .val (.int p2), .val (.int p3), .val (.int p4), .val (.int (p2 &&& (3 : Int32))), .val (.int (own_hl p2)), .val (.int (own_n0 p0)), .val (.int (own_n1 p0)), .val (.int (own_n2 p0)), .val (.int x0), .val (.int x1), .val (.int x2), .val (.int an), .val (.int pt), .val (.int hp), .val (.ref b1), .val (.int (f10 b5_r hp b2_r (own_str (p2 &&& (3 : Int32)) (own_n0 p0) (own_n1 p0) (own_n2 p0)) (own_str (own_hl p2) x0 x1 x2) pt)), .val (.int (1 : Int32)), .val (.int (1 : Int32)), .val (.int (1 : Int32))] [(.int (1 : Int32))])) (fun t kt => ?_) ?_
              · show Steps p.tables e below (T6.setTop (mkF m 270 #[.val (.int p0), .val (.int p1), .val (.int p2), .val (.int p3), .val (.int p4), .val (.int (p2 &&& (3 : Int32))), .val (.int (own_hl p2)), .val (.int (own_n0 p0)), .val (.int (own_n1 p0)), .val (.int (own_n2 p0)), .val (.int x0), .val (.int x1), .val (.int x2), .val (.int an), .val (.int pt), .val (.int hp), .val (.ref b1), .val (.int (f10 b5_r hp b2_r (own_str (p2 &&& (3 : Int32)) (own_n0 p0) (own_n1 p0) (own_n2 p0)) (own_str (own_hl p2) x0 x1 x2) pt)), .val (.int (1 : Int32)), .unset, .unset] [])) t
                refine XS.iconst X6.here hx rfl (hb hby at_270) ?_
                refine XS.goto X6.here hx rfl (pc0 := 271) (pc' := 275) rfl (hb hby at_271) (by decide) (by decide) ?_
                refine XS.istore X6.here hx rfl (hb hby at_275) rfl (l' := #[.val (.int p0), .val (.int p1), .val (.int p2), .val (.int p3), .val (.int p4), .val (.int (p2 &&& (3 : Int32))), .val (.int (own_hl p2)), .val (.int (own_n0 p0)), .val (.int (own_n1 p0)), .val (.int (own_n2 p0)), .val (.int x0), .val (.int x1), .val (.int x2), .val (.int an), .val (.int pt), .val (.int hp), .val (.ref b1), .val (.int (f10 b5_r hp b2_r (own_str (p2 &&& (3 : Int32)) (own_n0 p0) (own_n1 p0) (own_n2 p0)) (own_str (own_hl p2) x0 x1 x2) pt)), .val (.int (1 : Int32)), .val (.int (1 : Int32)), .unset]) rfl ?_
                refine XS.iload X6.here hx rfl (hb hby at_277) rfl ?_
                refine XS.ifNo X6.here hx rfl (hb hby at_279) rfl ((if0 _ _).trans (feq (by decide : ¬ ((1 : Int32) = (0 : Int32)))).1) ?_
                refine XS.iload X6.here hx rfl (hb hby at_282) rfl ?_
                refine XS.ifNo X6.here hx rfl (hb hby at_284) rfl ((if0 _ _).trans (feq (by decide : ¬ ((1 : Int32) = (0 : Int32)))).1) ?_
                refine XS.iconst X6.here hx rfl (hb hby at_287) ?_
                refine XS.goto X6.here hx rfl (pc0 := 288) (pc' := 292) rfl (hb hby at_288) (by decide) (by decide) ?_
                refine XS.istore X6.here hx rfl (hb hby at_292) rfl (l' := #[.val (.int p0), .val (.int p1), .val (.int p2), .val (.int p3), .val (.int p4), .val (.int (p2 &&& (3 : Int32))), .val (.int (own_hl p2)), .val (.int (own_n0 p0)), .val (.int (own_n1 p0)), .val (.int (own_n2 p0)), .val (.int x0), .val (.int x1), .val (.int x2), .val (.int an), .val (.int pt), .val (.int hp), .val (.ref b1), .val (.int (f10 b5_r hp b2_r (own_str (p2 &&& (3 : Int32)) (own_n0 p0) (own_n1 p0) (own_n2 p0)) (own_str (own_hl p2) x0 x1 x2) pt)), .val (.int (1 : Int32)), .val (.int (1 : Int32)), .val (.int (1 : Int32))]) rfl ?_
                refine XS.iload X6.here hx rfl (hb hby at_294) rfl ?_
                refine XS.iload X6.here hx rfl (hb hby at_296) rfl ?_
                refine XS.icmpNo X6.here hx rfl (hb hby at_298) rfl (teq ((own_fin _ _ (Nat.ne_of_lt (Nat.lt_of_lt_of_le (P2_0.keep K4).lt szo_b5_r)) _ _ _ _ _ _ _ _ _ _ _ (own_nl _) (own_nl _) (own_rn0 _) (own_rn1 _) (own_rn2 _) hx0 hx1 hx2 hap).1 ⟨⟨hc209, Or.inl hc215, Or.inl hc228, Or.inl hc241⟩, Or.inl hc260⟩)).2 ?_
                refine XS.iconst X6.here hx rfl (hb hby at_301) ?_
                refine XS.goto X6.here hx rfl (pc0 := 302) (pc' := 306) rfl (hb hby at_302) (by decide) (by decide) ?_
                exact kt
              refine OGW.retZ X6 hx hlk hS hk hZ hEL CR e6 (t := .boolean) (z' := (1 : Int32)) hret (by simp) (hb hby at_306) rfl ?_ (by decide) (by decide)
              show Q0 Z p0 p1 p2 p3 p4 w_COMPACT_STRINGS h0 n0 _ T6.heap _
              rw [e6]
              exact ⟨rfl, N6, KC5⟩
          · refine OGW.step (F' := T6.setTop (mkF m 244 #[.val (.int p0), .val (.int p1), .val (.int p2), .val (.int p3), .val (.int p4), .val (.int (p2 &&& (3 : Int32))), .val (.int (own_hl p2)), .val (.int (own_n0 p0)), .val (.int (own_n1 p0)), .val (.int (own_n2 p0)), .val (.int x0), .val (.int x1), .val (.int x2), .val (.int an), .val (.int pt), .val (.int hp), .val (.ref b1), .val (.int (f10 b5_r hp b2_r (own_str (p2 &&& (3 : Int32)) (own_n0 p0) (own_n1 p0) (own_n2 p0)) (own_str (own_hl p2) x0 x1 x2) pt)), .unset, .unset, .unset] [])) (fun t kt => ?_) ?_
            · show Steps p.tables e below (T6.setTop (mkF m 241 #[.val (.int p0), .val (.int p1), .val (.int p2), .val (.int p3), .val (.int p4), .val (.int (p2 &&& (3 : Int32))), .val (.int (own_hl p2)), .val (.int (own_n0 p0)), .val (.int (own_n1 p0)), .val (.int (own_n2 p0)), .val (.int x0), .val (.int x1), .val (.int x2), .val (.int an), .val (.int pt), .val (.int hp), .val (.ref b1), .val (.int (f10 b5_r hp b2_r (own_str (p2 &&& (3 : Int32)) (own_n0 p0) (own_n1 p0) (own_n2 p0)) (own_str (own_hl p2) x0 x1 x2) pt)), .unset, .unset, .unset] [(.int (3 : Int32)), (.int (p2 &&& (3 : Int32)))])) t
              refine XS.icmpNo X6.here hx rfl (hb hby at_241) rfl (flt hc241).1 ?_
              exact kt
            refine OGW.step (F' := T6.setTop (mkF m 248 #[.val (.int p0), .val (.int p1), .val (.int p2), .val (.int p3), .val (.int p4), .val (.int (p2 &&& (3 : Int32))), .val (.int (own_hl p2)), .val (.int (own_n0 p0)), .val (.int (own_n1 p0)), .val (.int (own_n2 p0)), .val (.int x0), .val (.int x1), .val (.int x2), .val (.int an), .val (.int pt), .val (.int hp), .val (.ref b1), .val (.int (f10 b5_r hp b2_r (own_str (p2 &&& (3 : Int32)) (own_n0 p0) (own_n1 p0) (own_n2 p0)) (own_str (own_hl p2) x0 x1 x2) pt)), .unset, .unset, .unset] [(.int x2), (.int (own_n2 p0))])) (fun t kt => ?_) ?_
            · show Steps p.tables e below (T6.setTop (mkF m 244 #[.val (.int p0), .val (.int p1), .val (.int p2), .val (.int p3), .val (.int p4), .val (.int (p2 &&& (3 : Int32))), .val (.int (own_hl p2)), .val (.int (own_n0 p0)), .val (.int (own_n1 p0)), .val (.int (own_n2 p0)), .val (.int x0), .val (.int x1), .val (.int x2), .val (.int an), .val (.int pt), .val (.int hp), .val (.ref b1), .val (.int (f10 b5_r hp b2_r (own_str (p2 &&& (3 : Int32)) (own_n0 p0) (own_n1 p0) (own_n2 p0)) (own_str (own_hl p2) x0 x1 x2) pt)), .unset, .unset, .unset] [])) t
              refine XS.iload X6.here hx rfl (hb hby at_244) rfl ?_
              refine XS.iload X6.here hx rfl (hb hby at_246) rfl ?_
              exact kt
            by_cases hc248 : (own_n2 p0) = x2
            · refine OGW.step (F' := T6.setTop (mkF m 251 #[.val (.int p0), .val (.int p1), .val (.int p2), .val (.int p3), .val (.int p4), .val (.int (p2 &&& (3 : Int32))), .val (.int (own_hl p2)), .val (.int (own_n0 p0)), .val (.int (own_n1 p0)), .val (.int (own_n2 p0)), .val (.int x0), .val (.int x1), .val (.int x2), .val (.int an), .val (.int pt), .val (.int hp), .val (.ref b1), .val (.int (f10 b5_r hp b2_r (own_str (p2 &&& (3 : Int32)) (own_n0 p0) (own_n1 p0) (own_n2 p0)) (own_str (own_hl p2) x0 x1 x2) pt)), .unset, .unset, .unset] [])) (fun t kt => ?_) ?_
              · show Steps p.tables e below (T6.setTop (mkF m 248 #[.val (.int p0), .val (.int p1), .val (.int p2), .val (.int p3), .val (.int p4), .val (.int (p2 &&& (3 : Int32))), .val (.int (own_hl p2)), .val (.int (own_n0 p0)), .val (.int (own_n1 p0)), .val (.int (own_n2 p0)), .val (.int x0), .val (.int x1), .val (.int x2), .val (.int an), .val (.int pt), .val (.int hp), .val (.ref b1), .val (.int (f10 b5_r hp b2_r (own_str (p2 &&& (3 : Int32)) (own_n0 p0) (own_n1 p0) (own_n2 p0)) (own_str (own_hl p2) x0 x1 x2) pt)), .unset, .unset, .unset] [(.int x2), (.int (own_n2 p0))])) t
                refine XS.icmpNo X6.here hx rfl (hb hby at_248) rfl (teq hc248).2 ?_
                exact kt
              refine OGW.step (F' := T6.setTop (mkF m 260 #[.val (.int p0), .val (.int p1), .val (.int p2), .val (.int p3), .val (.int p4), .val (.int (p2 &&& (3 : Int32))), .val (.int (own_hl p2)), .val (.int (own_n0 p0)), .val (.int (own_n1 p0)), .val (.int (own_n2 p0)), .val (.int x0), .val (.int x1), .val (.int x2), .val (.int an), .val (.int pt), .val (.int hp), .val (.ref b1), .val (.int (f10 b5_r hp b2_r (own_str (p2 &&& (3 : Int32)) (own_n0 p0) (own_n1 p0) (own_n2 p0)) (own_str (own_hl p2) x0 x1 x2) pt)), .val (.int (1 : Int32)), .unset, .unset] [(.int an)])) (fun t kt => ?_) ?_
              · show Steps p.tables e below (T6.setTop (mkF m 251 #[.val (.int p0), .val (.int p1), .val (.int p2), .val (.int p3), .val (.int p4), .val (.int (p2 &&& (3 : Int32))), .val (.int (own_hl p2)), .val (.int (own_n0 p0)), .val (.int (own_n1 p0)), .val (.int (own_n2 p0)), .val (.int x0), .val (.int x1), .val (.int x2), .val (.int an), .val (.int pt), .val (.int hp), .val (.ref b1), .val (.int (f10 b5_r hp b2_r (own_str (p2 &&& (3 : Int32)) (own_n0 p0) (own_n1 p0) (own_n2 p0)) (own_str (own_hl p2) x0 x1 x2) pt)), .unset, .unset, .unset] [])) t
                refine XS.iconst X6.here hx rfl (hb hby at_251) ?_
                refine XS.goto X6.here hx rfl (pc0 := 252) (pc' := 256) rfl (hb hby at_252) (by decide) (by decide) ?_
                refine XS.istore X6.here hx rfl (hb hby at_256) rfl (l' := #[.val (.int p0), .val (.int p1), .val (.int p2), .val (.int p3), .val (.int p4), .val (.int (p2 &&& (3 : Int32))), .val (.int (own_hl p2)), .val (.int (own_n0 p0)), .val (.int (own_n1 p0)), .val (.int (own_n2 p0)), .val (.int x0), .val (.int x1), .val (.int x2), .val (.int an), .val (.int pt), .val (.int hp), .val (.ref b1), .val (.int (f10 b5_r hp b2_r (own_str (p2 &&& (3 : Int32)) (own_n0 p0) (own_n1 p0) (own_n2 p0)) (own_str (own_hl p2) x0 x1 x2) pt)), .val (.int (1 : Int32)), .unset, .unset]) rfl ?_
                refine XS.iload X6.here hx rfl (hb hby at_258) rfl ?_
                exact kt
              by_cases hc260 : an = (0 : Int32)
              · refine OGW.step (F' := T6.setTop (mkF m 263 #[.val (.int p0), .val (.int p1), .val (.int p2), .val (.int p3), .val (.int p4), .val (.int (p2 &&& (3 : Int32))), .val (.int (own_hl p2)), .val (.int (own_n0 p0)), .val (.int (own_n1 p0)), .val (.int (own_n2 p0)), .val (.int x0), .val (.int x1), .val (.int x2), .val (.int an), .val (.int pt), .val (.int hp), .val (.ref b1), .val (.int (f10 b5_r hp b2_r (own_str (p2 &&& (3 : Int32)) (own_n0 p0) (own_n1 p0) (own_n2 p0)) (own_str (own_hl p2) x0 x1 x2) pt)), .val (.int (1 : Int32)), .unset, .unset] [])) (fun t kt => ?_) ?_
                · show Steps p.tables e below (T6.setTop (mkF m 260 #[.val (.int p0), .val (.int p1), .val (.int p2), .val (.int p3), .val (.int p4), .val (.int (p2 &&& (3 : Int32))), .val (.int (own_hl p2)), .val (.int (own_n0 p0)), .val (.int (own_n1 p0)), .val (.int (own_n2 p0)), .val (.int x0), .val (.int x1), .val (.int x2), .val (.int an), .val (.int pt), .val (.int hp), .val (.ref b1), .val (.int (f10 b5_r hp b2_r (own_str (p2 &&& (3 : Int32)) (own_n0 p0) (own_n1 p0) (own_n2 p0)) (own_str (own_hl p2) x0 x1 x2) pt)), .val (.int (1 : Int32)), .unset, .unset] [(.int an)])) t
                  refine XS.ifNo X6.here hx rfl (hb hby at_260) rfl ((if0 _ _).trans (teq hc260).2) ?_
                  exact kt
                refine OGW.step (F' := T6.setTop (mkF m 267 #[.val (.int p0), .val (.int p1), .val (.int p2), .val (.int p3), .val (.int p4), .val (.int (p2 &&& (3 : Int32))), .val (.int (own_hl p2)), .val (.int (own_n0 p0)), .val (.int (own_n1 p0)), .val (.int (own_n2 p0)), .val (.int x0), .val (.int x1), .val (.int x2), .val (.int an), .val (.int pt), .val (.int hp), .val (.ref b1), .val (.int (f10 b5_r hp b2_r (own_str (p2 &&& (3 : Int32)) (own_n0 p0) (own_n1 p0) (own_n2 p0)) (own_str (own_hl p2) x0 x1 x2) pt)), .val (.int (1 : Int32)), .unset, .unset] [(.int hp), (.int pt)])) (fun t kt => ?_) ?_
                · show Steps p.tables e below (T6.setTop (mkF m 263 #[.val (.int p0), .val (.int p1), .val (.int p2), .val (.int p3), .val (.int p4), .val (.int (p2 &&& (3 : Int32))), .val (.int (own_hl p2)), .val (.int (own_n0 p0)), .val (.int (own_n1 p0)), .val (.int (own_n2 p0)), .val (.int x0), .val (.int x1), .val (.int x2), .val (.int an), .val (.int pt), .val (.int hp), .val (.ref b1), .val (.int (f10 b5_r hp b2_r (own_str (p2 &&& (3 : Int32)) (own_n0 p0) (own_n1 p0) (own_n2 p0)) (own_str (own_hl p2) x0 x1 x2) pt)), .val (.int (1 : Int32)), .unset, .unset] [])) t
                  refine XS.iload X6.here hx rfl (hb hby at_263) rfl ?_
                  refine XS.iload X6.here hx rfl (hb hby at_265) rfl ?_
                  exact kt
                by_cases hc267 : pt = hp
                · refine OGW.step (F' := T6.setTop (mkF m 270 #[.val (.int p0), .val (.int p1), .val (.int p2), .val (.int p3), .val (.int p4), .val (.int (p2 &&& (3 : Int32))), .val (.int (own_hl p2)), .val (.int (own_n0 p0)), .val (.int (own_n1 p0)), .val (.int (own_n2 p0)), .val (.int x0), .val (.int x1), .val (.int x2), .val (.int an), .val (.int pt), .val (.int hp), .val (.ref b1), .val (.int (f10 b5_r hp b2_r (own_str (p2 &&& (3 : Int32)) (own_n0 p0) (own_n1 p0) (own_n2 p0)) (own_str (own_hl p2) x0 x1 x2) pt)), .val (.int (1 : Int32)), .unset, .unset] [])) (fun t kt => ?_) ?_
                  · show Steps p.tables e below (T6.setTop (mkF m 267 #[.val (.int p0), .val (.int p1), .val (.int p2), .val (.int p3), .val (.int p4), .val (.int (p2 &&& (3 : Int32))), .val (.int (own_hl p2)), .val (.int (own_n0 p0)), .val (.int (own_n1 p0)), .val (.int (own_n2 p0)), .val (.int x0), .val (.int x1), .val (.int x2), .val (.int an), .val (.int pt), .val (.int hp), .val (.ref b1), .val (.int (f10 b5_r hp b2_r (own_str (p2 &&& (3 : Int32)) (own_n0 p0) (own_n1 p0) (own_n2 p0)) (own_str (own_hl p2) x0 x1 x2) pt)), .val (.int (1 : Int32)), .unset, .unset] [(.int hp), (.int pt)])) t
                    refine XS.icmpNo X6.here hx rfl (hb hby at_267) rfl (teq hc267).2 ?_
                    exact kt
                  refine OGW.step (F' := T6.setTop (mkF m 306 #[.val (.int p0), .val (.int p1), .val (.int p2), .val (.int p3), .val (.int p4), .val (.int (p2 &&& (3 : Int32))), .val (.int (own_hl p2)), .val (.int (own_n0 p0)), .val (.int (own_n1 p0)), .val (.int (own_n2 p0)), .val (.int x0), .val (.int x1), .val (.int x2), .val (.int an), .val (.int pt), .val (.int hp), .val (.ref b1), .val (.int (f10 b5_r hp b2_r (own_str (p2 &&& (3 : Int32)) (own_n0 p0) (own_n1 p0) (own_n2 p0)) (own_str (own_hl p2) x0 x1 x2) pt)), .val (.int (1 : Int32)), .val (.int (1 : Int32)), .val (.int (1 : Int32))] [(.int (1 : Int32))])) (fun t kt => ?_) ?_
                  · show Steps p.tables e below (T6.setTop (mkF m 270 #[.val (.int p0), .val (.int p1), .val (.int p2), .val (.int p3), .val (.int p4), .val (.int (p2 &&& (3 : Int32))), .val (.int (own_hl p2)), .val (.int (own_n0 p0)), .val (.int (own_n1 p0)), .val (.int (own_n2 p0)), .val (.int x0), .val (.int x1), .val (.int x2), .val (.int an), .val (.int pt), .val (.int hp), .val (.ref b1), .val (.int (f10 b5_r hp b2_r (own_str (p2 &&& (3 : Int32)) (own_n0 p0) (own_n1 p0) (own_n2 p0)) (own_str (own_hl p2) x0 x1 x2) pt)), .val (.int (1 : Int32)), .unset, .unset] [])) t
                    refine XS.iconst X6.here hx rfl (hb hby at_270) ?_
                    refine XS.goto X6.here hx rfl (pc0 := 271) (pc' := 275) rfl (hb hby at_271) (by decide) (by decide) ?_
                    refine XS.istore X6.here hx rfl (hb hby at_275) rfl (l' := #[.val (.int p0), .val (.int p1), .val (.int p2), .val (.int p3), .val (.int p4), .val (.int (p2 &&& (3 : Int32))), .val (.int (own_hl p2)), .val (.int (own_n0 p0)), .val (.int (own_n1 p0)), .val (.int (own_n2 p0)), .val (.int x0), .val (.int x1), .val (.int x2), .val (.int an), .val (.int pt), .val (.int hp), .val (.ref b1), .val (.int (f10 b5_r hp b2_r (own_str (p2 &&& (3 : Int32)) (own_n0 p0) (own_n1 p0) (own_n2 p0)) (own_str (own_hl p2) x0 x1 x2) pt)), .val (.int (1 : Int32)), .val (.int (1 : Int32)), .unset]) rfl ?_
                    refine XS.iload X6.here hx rfl (hb hby at_277) rfl ?_
                    refine XS.ifNo X6.here hx rfl (hb hby at_279) rfl ((if0 _ _).trans (feq (by decide : ¬ ((1 : Int32) = (0 : Int32)))).1) ?_
                    refine XS.iload X6.here hx rfl (hb hby at_282) rfl ?_
                    refine XS.ifNo X6.here hx rfl (hb hby at_284) rfl ((if0 _ _).trans (feq (by decide : ¬ ((1 : Int32) = (0 : Int32)))).1) ?_
                    refine XS.iconst X6.here hx rfl (hb hby at_287) ?_
                    refine XS.goto X6.here hx rfl (pc0 := 288) (pc' := 292) rfl (hb hby at_288) (by decide) (by decide) ?_
                    refine XS.istore X6.here hx rfl (hb hby at_292) rfl (l' := #[.val (.int p0), .val (.int p1), .val (.int p2), .val (.int p3), .val (.int p4), .val (.int (p2 &&& (3 : Int32))), .val (.int (own_hl p2)), .val (.int (own_n0 p0)), .val (.int (own_n1 p0)), .val (.int (own_n2 p0)), .val (.int x0), .val (.int x1), .val (.int x2), .val (.int an), .val (.int pt), .val (.int hp), .val (.ref b1), .val (.int (f10 b5_r hp b2_r (own_str (p2 &&& (3 : Int32)) (own_n0 p0) (own_n1 p0) (own_n2 p0)) (own_str (own_hl p2) x0 x1 x2) pt)), .val (.int (1 : Int32)), .val (.int (1 : Int32)), .val (.int (1 : Int32))]) rfl ?_
                    refine XS.iload X6.here hx rfl (hb hby at_294) rfl ?_
                    refine XS.iload X6.here hx rfl (hb hby at_296) rfl ?_
                    refine XS.icmpNo X6.here hx rfl (hb hby at_298) rfl (teq ((own_fin _ _ (Nat.ne_of_lt (Nat.lt_of_lt_of_le (P2_0.keep K4).lt szo_b5_r)) _ _ _ _ _ _ _ _ _ _ _ (own_nl _) (own_nl _) (own_rn0 _) (own_rn1 _) (own_rn2 _) hx0 hx1 hx2 hap).1 ⟨⟨hc209, Or.inl hc215, Or.inl hc228, Or.inr hc248⟩, Or.inr hc267⟩)).2 ?_
                    refine XS.iconst X6.here hx rfl (hb hby at_301) ?_
                    refine XS.goto X6.here hx rfl (pc0 := 302) (pc' := 306) rfl (hb hby at_302) (by decide) (by decide) ?_
                    exact kt
                  refine OGW.retZ X6 hx hlk hS hk hZ hEL CR e6 (t := .boolean) (z' := (1 : Int32)) hret (by simp) (hb hby at_306) rfl ?_ (by decide) (by decide)
                  show Q0 Z p0 p1 p2 p3 p4 w_COMPACT_STRINGS h0 n0 _ T6.heap _
                  rw [e6]
                  exact ⟨rfl, N6, KC5⟩
                · refine OGW.step (F' := T6.setTop (mkF m 274 #[.val (.int p0), .val (.int p1), .val (.int p2), .val (.int p3), .val (.int p4), .val (.int (p2 &&& (3 : Int32))), .val (.int (own_hl p2)), .val (.int (own_n0 p0)), .val (.int (own_n1 p0)), .val (.int (own_n2 p0)), .val (.int x0), .val (.int x1), .val (.int x2), .val (.int an), .val (.int pt), .val (.int hp), .val (.ref b1), .val (.int (f10 b5_r hp b2_r (own_str (p2 &&& (3 : Int32)) (own_n0 p0) (own_n1 p0) (own_n2 p0)) (own_str (own_hl p2) x0 x1 x2) pt)), .val (.int (1 : Int32)), .unset, .unset] [])) (fun t kt => ?_) ?_
                  · show Steps p.tables e below (T6.setTop (mkF m 267 #[.val (.int p0), .val (.int p1), .val (.int p2), .val (.int p3), .val (.int p4), .val (.int (p2 &&& (3 : Int32))), .val (.int (own_hl p2)), .val (.int (own_n0 p0)), .val (.int (own_n1 p0)), .val (.int (own_n2 p0)), .val (.int x0), .val (.int x1), .val (.int x2), .val (.int an), .val (.int pt), .val (.int hp), .val (.ref b1), .val (.int (f10 b5_r hp b2_r (own_str (p2 &&& (3 : Int32)) (own_n0 p0) (own_n1 p0) (own_n2 p0)) (own_str (own_hl p2) x0 x1 x2) pt)), .val (.int (1 : Int32)), .unset, .unset] [(.int hp), (.int pt)])) t
                    refine XS.icmpYes X6.here hx rfl (pc0 := 267) (pc' := 274) rfl (hb hby at_267) rfl (feq hc267).2 (by decide) (by decide) ?_
                    exact kt
                  refine OGW.step (F' := T6.setTop (mkF m 306 #[.val (.int p0), .val (.int p1), .val (.int p2), .val (.int p3), .val (.int p4), .val (.int (p2 &&& (3 : Int32))), .val (.int (own_hl p2)), .val (.int (own_n0 p0)), .val (.int (own_n1 p0)), .val (.int (own_n2 p0)), .val (.int x0), .val (.int x1), .val (.int x2), .val (.int an), .val (.int pt), .val (.int hp), .val (.ref b1), .val (.int (f10 b5_r hp b2_r (own_str (p2 &&& (3 : Int32)) (own_n0 p0) (own_n1 p0) (own_n2 p0)) (own_str (own_hl p2) x0 x1 x2) pt)), .val (.int (1 : Int32)), .val (.int (0 : Int32)), .val (.int (0 : Int32))] [(.int (1 : Int32))])) (fun t kt => ?_) ?_
                  · show Steps p.tables e below (T6.setTop (mkF m 274 #[.val (.int p0), .val (.int p1), .val (.int p2), .val (.int p3), .val (.int p4), .val (.int (p2 &&& (3 : Int32))), .val (.int (own_hl p2)), .val (.int (own_n0 p0)), .val (.int (own_n1 p0)), .val (.int (own_n2 p0)), .val (.int x0), .val (.int x1), .val (.int x2), .val (.int an), .val (.int pt), .val (.int hp), .val (.ref b1), .val (.int (f10 b5_r hp b2_r (own_str (p2 &&& (3 : Int32)) (own_n0 p0) (own_n1 p0) (own_n2 p0)) (own_str (own_hl p2) x0 x1 x2) pt)), .val (.int (1 : Int32)), .unset, .unset] [])) t
                    refine XS.iconst X6.here hx rfl (hb hby at_274) ?_
                    refine XS.istore X6.here hx rfl (hb hby at_275) rfl (l' := #[.val (.int p0), .val (.int p1), .val (.int p2), .val (.int p3), .val (.int p4), .val (.int (p2 &&& (3 : Int32))), .val (.int (own_hl p2)), .val (.int (own_n0 p0)), .val (.int (own_n1 p0)), .val (.int (own_n2 p0)), .val (.int x0), .val (.int x1), .val (.int x2), .val (.int an), .val (.int pt), .val (.int hp), .val (.ref b1), .val (.int (f10 b5_r hp b2_r (own_str (p2 &&& (3 : Int32)) (own_n0 p0) (own_n1 p0) (own_n2 p0)) (own_str (own_hl p2) x0 x1 x2) pt)), .val (.int (1 : Int32)), .val (.int (0 : Int32)), .unset]) rfl ?_
                    refine XS.iload X6.here hx rfl (hb hby at_277) rfl ?_
                    refine XS.ifNo X6.here hx rfl (hb hby at_279) rfl ((if0 _ _).trans (feq (by decide : ¬ ((1 : Int32) = (0 : Int32)))).1) ?_
                    refine XS.iload X6.here hx rfl (hb hby at_282) rfl ?_
                    refine XS.ifYes X6.here hx rfl (pc0 := 284) (pc' := 291) rfl (hb hby at_284) rfl ((if0 _ _).trans (teq (by decide : (0 : Int32) = (0 : Int32))).1) (by decide) (by decide) ?_
                    refine XS.iconst X6.here hx rfl (hb hby at_291) ?_
                    refine XS.istore X6.here hx rfl (hb hby at_292) rfl (l' := #[.val (.int p0), .val (.int p1), .val (.int p2), .val (.int p3), .val (.int p4), .val (.int (p2 &&& (3 : Int32))), .val (.int (own_hl p2)), .val (.int (own_n0 p0)), .val (.int (own_n1 p0)), .val (.int (own_n2 p0)), .val (.int x0), .val (.int x1), .val (.int x2), .val (.int an), .val (.int pt), .val (.int hp), .val (.ref b1), .val (.int (f10 b5_r hp b2_r (own_str (p2 &&& (3 : Int32)) (own_n0 p0) (own_n1 p0) (own_n2 p0)) (own_str (own_hl p2) x0 x1 x2) pt)), .val (.int (1 : Int32)), .val (.int (0 : Int32)), .val (.int (0 : Int32))]) rfl ?_
                    refine XS.iload X6.here hx rfl (hb hby at_294) rfl ?_
                    refine XS.iload X6.here hx rfl (hb hby at_296) rfl ?_
                    refine XS.icmpNo X6.here hx rfl (hb hby at_298) rfl (teq ((own_fin _ _ (Nat.ne_of_lt (Nat.lt_of_lt_of_le (P2_0.keep K4).lt szo_b5_r)) _ _ _ _ _ _ _ _ _ _ _ (own_nl _) (own_nl _) (own_rn0 _) (own_rn1 _) (own_rn2 _) hx0 hx1 hx2 hap).2 (fun q => q.2.elim (fun z => z hc260) hc267))).2 ?_
                    refine XS.iconst X6.here hx rfl (hb hby at_301) ?_
                    refine XS.goto X6.here hx rfl (pc0 := 302) (pc' := 306) rfl (hb hby at_302) (by decide) (by decide) ?_
                    exact kt
                  refine OGW.retZ X6 hx hlk hS hk hZ hEL CR e6 (t := .boolean) (z' := (1 : Int32)) hret (by simp) (hb hby at_306) rfl ?_ (by decide) (by decide)
                  show Q0 Z p0 p1 p2 p3 p4 w_COMPACT_STRINGS h0 n0 _ T6.heap _
                  rw [e6]
                  exact ⟨rfl, N6, KC5⟩
              · refine OGW.step (F' := T6.setTop (mkF m 270 #[.val (.int p0), .val (.int p1), .val (.int p2), .val (.int p3), .val (.int p4), .val (.int (p2 &&& (3 : Int32))), .val (.int (own_hl p2)), .val (.int (own_n0 p0)), .val (.int (own_n1 p0)), .val (.int (own_n2 p0)), .val (.int x0), .val (.int x1), .val (.int x2), .val (.int an), .val (.int pt), .val (.int hp), .val (.ref b1), .val (.int (f10 b5_r hp b2_r (own_str (p2 &&& (3 : Int32)) (own_n0 p0) (own_n1 p0) (own_n2 p0)) (own_str (own_hl p2) x0 x1 x2) pt)), .val (.int (1 : Int32)), .unset, .unset] [])) (fun t kt => ?_) ?_
                · show Steps p.tables e below (T6.setTop (mkF m 260 #[.val (.int p0), .val (.int p1), .val (.int p2), .val (.int p3), .val (.int p4), .val (.int (p2 &&& (3 : Int32))), .val (.int (own_hl p2)), .val (.int (own_n0 p0)), .val (.int (own_n1 p0)), .val (.int (own_n2 p0)), .val (.int x0), .val (.int x1), .val (.int x2), .val (.int an), .val (.int pt), .val (.int hp), .val (.ref b1), .val (.int (f10 b5_r hp b2_r (own_str (p2 &&& (3 : Int32)) (own_n0 p0) (own_n1 p0) (own_n2 p0)) (own_str (own_hl p2) x0 x1 x2) pt)), .val (.int (1 : Int32)), .unset, .unset] [(.int an)])) t
                  refine XS.ifYes X6.here hx rfl (pc0 := 260) (pc' := 270) rfl (hb hby at_260) rfl ((if0 _ _).trans (feq hc260).2) (by decide) (by decide) ?_
                  exact kt
                refine OGW.step (F' := T6.setTop (mkF m 306 #[.val (.int p0), .val (.int p1), .val (.int p2), .val (.int p3), .val (.int p4), .val (.int (p2 &&& (3 : Int32))), .val (.int (own_hl p2)), .val (.int (own_n0 p0)), .val (.int (own_n1 p0)), .val (.int (own_n2 p0)), .val (.int x0), .val (.int x1), .val (.int x2), .val (.int an), .val (.int pt), .val (.int hp), .val (.ref b1), .val (.int (f10 b5_r hp b2_r (own_str (p2 &&& (3 : Int32)) (own_n0 p0) (own_n1 p0) (own_n2 p0)) (own_str (own_hl p2) x0 x1 x2) pt)), .val (.int (1 : Int32)), .val (.int (1 : Int32)), .val (.int (1 : Int32))] [(.int (1 : Int32))])) (fun t kt => ?_) ?_
                · show Steps p.tables e below (T6.setTop (mkF m 270 #[.val (.int p0), .val (.int p1), .val (.int p2), .val (.int p3), .val (.int p4), .val (.int (p2 &&& (3 : Int32))), .val (.int (own_hl p2)), .val (.int (own_n0 p0)), .val (.int (own_n1 p0)), .val (.int (own_n2 p0)), .val (.int x0), .val (.int x1), .val (.int x2), .val (.int an), .val (.int pt), .val (.int hp), .val (.ref b1), .val (.int (f10 b5_r hp b2_r (own_str (p2 &&& (3 : Int32)) (own_n0 p0) (own_n1 p0) (own_n2 p0)) (own_str (own_hl p2) x0 x1 x2) pt)), .val (.int (1 : Int32)), .unset, .unset] [])) t
                  refine XS.iconst X6.here hx rfl (hb hby at_270) ?_
                  refine XS.goto X6.here hx rfl (pc0 := 271) (pc' := 275) rfl (hb hby at_271) (by decide) (by decide) ?_
                  refine XS.istore X6.here hx rfl (hb hby at_275) rfl (l' := #[.val (.int p0), .val (.int p1), .val (.int p2), .val (.int p3), .val (.int p4), .val (.int (p2 &&& (3 : Int32))), .val (.int (own_hl p2)), .val (.int (own_n0 p0)), .val (.int (own_n1 p0)), .val (.int (own_n2 p0)), .val (.int x0), .val (.int x1), .val (.int x2), .val (.int an), .val (.int pt), .val (.int hp), .val (.ref b1), .val (.int (f10 b5_r hp b2_r (own_str (p2 &&& (3 : Int32)) (own_n0 p0) (own_n1 p0) (own_n2 p0)) (own_str (own_hl p2) x0 x1 x2) pt)), .val (.int (1 : Int32)), .val (.int (1 : Int32)), .unset]) rfl ?_
                  refine XS.iload X6.here hx rfl (hb hby at_277) rfl ?_
                  refine XS.ifNo X6.here hx rfl (hb hby at_279) rfl ((if0 _ _).trans (feq (by decide : ¬ ((1 : Int32) = (0 : Int32)))).1) ?_
                  refine XS.iload X6.here hx rfl (hb hby at_282) rfl ?_
                  refine XS.ifNo X6.here hx rfl (hb hby at_284) rfl ((if0 _ _).trans (feq (by decide : ¬ ((1 : Int32) = (0 : Int32)))).1) ?_
                  refine XS.iconst X6.here hx rfl (hb hby at_287) ?_
                  refine XS.goto X6.here hx rfl (pc0 := 288) (pc' := 292) rfl (hb hby at_288) (by decide) (by decide) ?_
                  refine XS.istore X6.here hx rfl (hb hby at_292) rfl (l' := #[.val (.int p0), .val (.int p1), .val (.int p2), .val (.int p3), .val (.int p4), .val (.int (p2 &&& (3 : Int32))), .val (.int (own_hl p2)), .val (.int (own_n0 p0)), .val (.int (own_n1 p0)), .val (.int (own_n2 p0)), .val (.int x0), .val (.int x1), .val (.int x2), .val (.int an), .val (.int pt), .val (.int hp), .val (.ref b1), .val (.int (f10 b5_r hp b2_r (own_str (p2 &&& (3 : Int32)) (own_n0 p0) (own_n1 p0) (own_n2 p0)) (own_str (own_hl p2) x0 x1 x2) pt)), .val (.int (1 : Int32)), .val (.int (1 : Int32)), .val (.int (1 : Int32))]) rfl ?_
                  refine XS.iload X6.here hx rfl (hb hby at_294) rfl ?_
                  refine XS.iload X6.here hx rfl (hb hby at_296) rfl ?_
                  refine XS.icmpNo X6.here hx rfl (hb hby at_298) rfl (teq ((own_fin _ _ (Nat.ne_of_lt (Nat.lt_of_lt_of_le (P2_0.keep K4).lt szo_b5_r)) _ _ _ _ _ _ _ _ _ _ _ (own_nl _) (own_nl _) (own_rn0 _) (own_rn1 _) (own_rn2 _) hx0 hx1 hx2 hap).1 ⟨⟨hc209, Or.inl hc215, Or.inl hc228, Or.inr hc248⟩, Or.inl hc260⟩)).2 ?_
                  refine XS.iconst X6.here hx rfl (hb hby at_301) ?_
                  refine XS.goto X6.here hx rfl (pc0 := 302) (pc' := 306) rfl (hb hby at_302) (by decide) (by decide) ?_
                  exact kt
                refine OGW.retZ X6 hx hlk hS hk hZ hEL CR e6 (t := .boolean) (z' := (1 : Int32)) hret (by simp) (hb hby at_306) rfl ?_ (by decide) (by decide)
                show Q0 Z p0 p1 p2 p3 p4 w_COMPACT_STRINGS h0 n0 _ T6.heap _
                rw [e6]
                exact ⟨rfl, N6, KC5⟩
            · refine OGW.step (F' := T6.setTop (mkF m 255 #[.val (.int p0), .val (.int p1), .val (.int p2), .val (.int p3), .val (.int p4), .val (.int (p2 &&& (3 : Int32))), .val (.int (own_hl p2)), .val (.int (own_n0 p0)), .val (.int (own_n1 p0)), .val (.int (own_n2 p0)), .val (.int x0), .val (.int x1), .val (.int x2), .val (.int an), .val (.int pt), .val (.int hp), .val (.ref b1), .val (.int (f10 b5_r hp b2_r (own_str (p2 &&& (3 : Int32)) (own_n0 p0) (own_n1 p0) (own_n2 p0)) (own_str (own_hl p2) x0 x1 x2) pt)), .unset, .unset, .unset] [])) (fun t kt => ?_) ?_
              · show Steps p.tables e below (T6.setTop (mkF m 248 #[.val (.int p0), .val (.int p1), .val (.int p2), .val (.int p3), .val (.int p4), .val (.int (p2 &&& (3 : Int32))), .val (.int (own_hl p2)), .val (.int (own_n0 p0)), .val (.int (own_n1 p0)), .val (.int (own_n2 p0)), .val (.int x0), .val (.int x1), .val (.int x2), .val (.int an), .val (.int pt), .val (.int hp), .val (.ref b1), .val (.int (f10 b5_r hp b2_r (own_str (p2 &&& (3 : Int32)) (own_n0 p0) (own_n1 p0) (own_n2 p0)) (own_str (own_hl p2) x0 x1 x2) pt)), .unset, .unset, .unset] [(.int x2), (.int (own_n2 p0))])) t
                refine XS.icmpYes X6.here hx rfl (pc0 := 248) (pc' := 255) rfl (hb hby at_248) rfl (feq hc248).2 (by decide) (by decide) ?_
                exact kt
              refine OGW.step (F' := T6.setTop (mkF m 260 #[.val (.int p0), .val (.int p1), .val (.int p2), .val (.int p3), .val (.int p4), .val (.int (p2 &&& (3 : Int32))), .val (.int (own_hl p2)), .val (.int (own_n0 p0)), .val (.int (own_n1 p0)), .val (.int (own_n2 p0)), .val (.int x0), .val (.int x1), .val (.int x2), .val (.int an), .val (.int pt), .val (.int hp), .val (.ref b1), .val (.int (f10 b5_r hp b2_r (own_str (p2 &&& (3 : Int32)) (own_n0 p0) (own_n1 p0) (own_n2 p0)) (own_str (own_hl p2) x0 x1 x2) pt)), .val (.int (0 : Int32)), .unset, .unset] [(.int an)])) (fun t kt => ?_) ?_
              · show Steps p.tables e below (T6.setTop (mkF m 255 #[.val (.int p0), .val (.int p1), .val (.int p2), .val (.int p3), .val (.int p4), .val (.int (p2 &&& (3 : Int32))), .val (.int (own_hl p2)), .val (.int (own_n0 p0)), .val (.int (own_n1 p0)), .val (.int (own_n2 p0)), .val (.int x0), .val (.int x1), .val (.int x2), .val (.int an), .val (.int pt), .val (.int hp), .val (.ref b1), .val (.int (f10 b5_r hp b2_r (own_str (p2 &&& (3 : Int32)) (own_n0 p0) (own_n1 p0) (own_n2 p0)) (own_str (own_hl p2) x0 x1 x2) pt)), .unset, .unset, .unset] [])) t
                refine XS.iconst X6.here hx rfl (hb hby at_255) ?_
                refine XS.istore X6.here hx rfl (hb hby at_256) rfl (l' := #[.val (.int p0), .val (.int p1), .val (.int p2), .val (.int p3), .val (.int p4), .val (.int (p2 &&& (3 : Int32))), .val (.int (own_hl p2)), .val (.int (own_n0 p0)), .val (.int (own_n1 p0)), .val (.int (own_n2 p0)), .val (.int x0), .val (.int x1), .val (.int x2), .val (.int an), .val (.int pt), .val (.int hp), .val (.ref b1), .val (.int (f10 b5_r hp b2_r (own_str (p2 &&& (3 : Int32)) (own_n0 p0) (own_n1 p0) (own_n2 p0)) (own_str (own_hl p2) x0 x1 x2) pt)), .val (.int (0 : Int32)), .unset, .unset]) rfl ?_
                refine XS.iload X6.here hx rfl (hb hby at_258) rfl ?_
                exact kt
              by_cases hc260 : an = (0 : Int32)
              · refine OGW.step (F' := T6.setTop (mkF m 263 #[.val (.int p0), .val (.int p1), .val (.int p2), .val (.int p3), .val (.int p4), .val (.int (p2 &&& (3 : Int32))), .val (.int (own_hl p2)), .val (.int (own_n0 p0)), .val (.int (own_n1 p0)), .val (.int (own_n2 p0)), .val (.int x0), .val (.int x1), .val (.int x2), .val (.int an), .val (.int pt), .val (.int hp), .val (.ref b1), .val (.int (f10 b5_r hp b2_r (own_str (p2 &&& (3 : Int32)) (own_n0 p0) (own_n1 p0) (own_n2 p0)) (own_str (own_hl p2) x0 x1 x2) pt)), .val (.int (0 : Int32)), .unset, .unset] [])) (fun t kt => ?_) ?_
                · show Steps p.tables e below (T6.setTop (mkF m 260 #[.val (.int p0), .val (.int p1), .val (.int p2), .val (.int p3), .val (.int p4), .val (.int (p2 &&& (3 : Int32))), .val (.int (own_hl p2)), .val (.int (own_n0 p0)), .val (.int (own_n1 p0)), .val (.int (own_n2 p0)), .val (.int x0), .val (.int x1), .val (.int x2), .val (.int an), .val (.int pt), .val (.int hp), .val (.ref b1), .val (.int (f10 b5_r hp b2_r (own_str (p2 &&& (3 : Int32)) (own_n0 p0) (own_n1 p0) (own_n2 p0)) (own_str (own_hl p2) x0 x1 x2) pt)), .val (.int (0 : Int32)), .unset, .unset] [(.int an)])) t
                  refine XS.ifNo X6.here hx rfl (hb hby at_260) rfl ((if0 _ _).trans (teq hc260).2) ?_
                  exact kt
                refine OGW.step (F' := T6.setTop (mkF m 267 #[.val (.int p0), .val (.int p1), .val (.int p2), .val (.int p3), .val (.int p4), .val (.int (p2 &&& (3 : Int32))), .val (.int (own_hl p2)), .val (.int (own_n0 p0)), .val (.int (own_n1 p0)), .val (.int (own_n2 p0)), .val (.int x0), .val (.int x1), .val (.int x2), .val (.int an), .val (.int pt), .val (.int hp), .val (.ref b1), .val (.int (f10 b5_r hp b2_r (own_str (p2 &&& (3 : Int32)) (own_n0 p0) (own_n1 p0) (own_n2 p0)) (own_str (own_hl p2) x0 x1 x2) pt)), .val (.int (0 : Int32)), .unset, .unset] [(.int hp), (.int pt)])) (fun t kt => ?_) ?_
                · show Steps p.tables e below (T6.setTop (mkF m 263 #[.val (.int p0), .val (.int p1), .val (.int p2), .val (.int p3), .val (.int p4), .val (.int (p2 &&& (3 : Int32))), .val (.int (own_hl p2)), .val (.int (own_n0 p0)), .val (.int (own_n1 p0)), .val (.int (own_n2 p0)), .val (.int x0), .val (.int x1), .val (.int x2), .val (.int an), .val (.int pt), .val (.int hp), .val (.ref b1), .val (.int (f10 b5_r hp b2_r (own_str (p2 &&& (3 : Int32)) (own_n0 p0) (own_n1 p0) (own_n2 p0)) (own_str (own_hl p2) x0 x1 x2) pt)), .val (.int (0 : Int32)), .unset, .unset] [])) t
                  refine XS.iload X6.here hx rfl (hb hby at_263) rfl ?_
                  refine XS.iload X6.here hx rfl (hb hby at_265) rfl ?_
                  exact kt
                by_cases hc267 : pt = hp
                · refine OGW.step (F' := T6.setTop (mkF m 270 #[.val (.int p0), .val (.int p1), .val (.int p2), .val (.int p3), .val (.int p4), .val (.int (p2 &&& (3 : Int32))), .val (.int (own_hl p2)), .val (.int (own_n0 p0)), .val (.int (own_n1 p0)), .val (.int (own_n2 p0)), .val (.int x0), .val (.int x1), .val (.int x2), .val (.int an), .val (.int pt), .val (.int hp), .val (.ref b1), .val (.int (f10 b5_r hp b2_r (own_str (p2 &&& (3 : Int32)) (own_n0 p0) (own_n1 p0) (own_n2 p0)) (own_str (own_hl p2) x0 x1 x2) pt)), .val (.int (0 : Int32)), .unset, .unset] [])) (fun t kt => ?_) ?_
                  · show Steps p.tables e below (T6.setTop (mkF m 267 #[.val (.int p0), .val (.int p1), .val (.int p2), .val (.int p3), .val (.int p4), .val (.int (p2 &&& (3 : Int32))), .val (.int (own_hl p2)), .val (.int (own_n0 p0)), .val (.int (own_n1 p0)), .val (.int (own_n2 p0)), .val (.int x0), .val (.int x1), .val (.int x2), .val (.int an), .val (.int pt), .val (.int hp), .val (.ref b1), .val (.int (f10 b5_r hp b2_r (own_str (p2 &&& (3 : Int32)) (own_n0 p0) (own_n1 p0) (own_n2 p0)) (own_str (own_hl p2) x0 x1 x2) pt)), .val (.int (0 : Int32)), .unset, .unset] [(.int hp), (.int pt)])) t
                    refine XS.icmpNo X6.here hx rfl (hb hby at_267) rfl (teq hc267).2 ?_
                    exact kt
                  refine OGW.step (F' := T6.setTop (mkF m 306 #[.val (.int p0), .val (.int p1), .val (.int p2), .val (.int p3), .val (.int p4), .val (.int (p2 &&& (3 : Int32))), .val (.int (own_hl p2)), .val (.int (own_n0 p0)), .val (.int (own_n1 p0)), .val (.int (own_n2 p0)), .val (.int x0), .val (.int x1), .val (.int x2), .val (.int an), .val (.int pt), .val (.int hp), .val (.ref b1), .val (.int (f10 b5_r hp b2_r (own_str (p2 &&& (3 : Int32)) (own_n0 p0) (own_n1 p0) (own_n2 p0)) (own_str (own_hl p2) x0 x1 x2) pt)), .val (.int (0 : Int32)), .val (.int (1 : Int32)), .val (.int (0 : Int32))] [(.int (1 : Int32))])) (fun t kt => ?_) ?_
                  · show Steps p.tables e below (T6.setTop (mkF m 270 #[.val (.int p0), .val (.int p1), .val (.int p2), .val (.int p3), .val (.int p4), .val (.int (p2 &&& (3 : Int32))), .val (.int (own_hl p2)), .val (.int (own_n0 p0)), .val (.int (own_n1 p0)), .val (.int (own_n2 p0)), .val (.int x0), .val (.int x1), .val (.int x2), .val (.int an), .val (.int pt), .val (.int hp), .val (.ref b1), .val (.int (f10 b5_r hp b2_r (own_str (p2 &&& (3 : Int32)) (own_n0 p0) (own_n1 p0) (own_n2 p0)) (own_str (own_hl p2) x0 x1 x2) pt)), .val (.int (0 : Int32)), .unset, .unset] [])) t
                    refine XS.iconst X6.here hx rfl (hb hby at_270) ?_
                    refine XS.goto X6.here hx rfl (pc0 := 271) (pc' := 275) rfl (hb hby at_271) (by decide) (by decide) ?_
                    refine XS.istore X6.here hx rfl (hb hby at_275) rfl (l' := #[.val (.int p0), .val (.int p1), .val (.int p2), .val (.int p3), .val (.int p4), .val (.int (p2 &&& (3 : Int32))), .val (.int (own_hl p2)), .val (.int (own_n0 p0)), .val (.int (own_n1 p0)), .val (.int (own_n2 p0)), .val (.int x0), .val (.int x1), .val (.int x2), .val (.int an), .val (.int pt), .val (.int hp), .val (.ref b1), .val (.int (f10 b5_r hp b2_r (own_str (p2 &&& (3 : Int32)) (own_n0 p0) (own_n1 p0) (own_n2 p0)) (own_str (own_hl p2) x0 x1 x2) pt)), .val (.int (0 : Int32)), .val (.int (1 : Int32)), .unset]) rfl ?_
                    refine XS.iload X6.here hx rfl (hb hby at_277) rfl ?_
                    refine XS.ifYes X6.here hx rfl (pc0 := 279) (pc' := 291) rfl (hb hby at_279) rfl ((if0 _ _).trans (teq (by decide : (0 : Int32) = (0 : Int32))).1) (by decide) (by decide) ?_
                    refine XS.iconst X6.here hx rfl (hb hby at_291) ?_
                    refine XS.istore X6.here hx rfl (hb hby at_292) rfl (l' := #[.val (.int p0), .val (.int p1), .val (.int p2), .val (.int p3), .val (.int p4), .val (.int (p2 &&& (3 : Int32))), .val (.int (own_hl p2)), .val (.int (own_n0 p0)), .val (.int (own_n1 p0)), .val (.int (own_n2 p0)), .val (.int x0), .val (.int x1), .val (.int x2), .val (.int an), .val (.int pt), .val (.int hp), .val (.ref b1), .val (.int (f10 b5_r hp b2_r (own_str (p2 &&& (3 : Int32)) (own_n0 p0) (own_n1 p0) (own_n2 p0)) (own_str (own_hl p2) x0 x1 x2) pt)), .val (.int (0 : Int32)), .val (.int (1 : Int32)), .val (.int (0 : Int32))]) rfl ?_
                    refine XS.iload X6.here hx rfl (hb hby at_294) rfl ?_
                    refine XS.iload X6.here hx rfl (hb hby at_296) rfl ?_
                    refine XS.icmpNo X6.here hx rfl (hb hby at_298) rfl (teq ((own_fin _ _ (Nat.ne_of_lt (Nat.lt_of_lt_of_le (P2_0.keep K4).lt szo_b5_r)) _ _ _ _ _ _ _ _ _ _ _ (own_nl _) (own_nl _) (own_rn0 _) (own_rn1 _) (own_rn2 _) hx0 hx1 hx2 hap).2 (fun q => q.1.2.2.2.elim hc241 hc248))).2 ?_
                    refine XS.iconst X6.here hx rfl (hb hby at_301) ?_
                    refine XS.goto X6.here hx rfl (pc0 := 302) (pc' := 306) rfl (hb hby at_302) (by decide) (by decide) ?_
                    exact kt
                  refine OGW.retZ X6 hx hlk hS hk hZ hEL CR e6 (t := .boolean) (z' := (1 : Int32)) hret (by simp) (hb hby at_306) rfl ?_ (by decide) (by decide)
                  show Q0 Z p0 p1 p2 p3 p4 w_COMPACT_STRINGS h0 n0 _ T6.heap _
                  rw [e6]
                  exact ⟨rfl, N6, KC5⟩
                · refine OGW.step (F' := T6.setTop (mkF m 274 #[.val (.int p0), .val (.int p1), .val (.int p2), .val (.int p3), .val (.int p4), .val (.int (p2 &&& (3 : Int32))), .val (.int (own_hl p2)), .val (.int (own_n0 p0)), .val (.int (own_n1 p0)), .val (.int (own_n2 p0)), .val (.int x0), .val (.int x1), .val (.int x2), .val (.int an), .val (.int pt), .val (.int hp), .val (.ref b1), .val (.int (f10 b5_r hp b2_r (own_str (p2 &&& (3 : Int32)) (own_n0 p0) (own_n1 p0) (own_n2 p0)) (own_str (own_hl p2) x0 x1 x2) pt)), .val (.int (0 : Int32)), .unset, .unset] [])) (fun t kt => ?_) ?_
                  · show Steps p.tables e below (T6.setTop (mkF m 267 #[.val (.int p0), .val (.int p1), .val (.int p2), .val (.int p3), .val (.int p4), .val (.int (p2 &&& (3 : Int32))), .val (.int (own_hl p2)), .val (.int (own_n0 p0)), .val (.int (own_n1 p0)), .val (.int (own_n2 p0)), .val (.int x0), .val (.int x1), .val (.int x2), .val (.int an), .val (.int pt), .val (.int hp), .val (.ref b1), .val (.int (f10 b5_r hp b2_r (own_str (p2 &&& (3 : Int32)) (own_n0 p0) (own_n1 p0) (own_n2 p0)) (own_str (own_hl p2) x0 x1 x2) pt)), .val (.int (0 : Int32)), .unset, .unset] [(.int hp), (.int pt)])) t
                    refine XS.icmpYes X6.here hx rfl (pc0 := 267) (pc' := 274) rfl (hb hby at_267) rfl (feq hc267).2 (by decide) (by decide) ?_
                    exact kt
                  refine OGW.step (F' := T6.setTop (mkF m 306 #[.val (.int p0), .val (.int p1), .val (.int p2), .val (.int p3), .val (.int p4), .val (.int (p2 &&& (3 : Int32))), .val (.int (own_hl p2)), .val (.int (own_n0 p0)), .val (.int (own_n1 p0)), .val (.int (own_n2 p0)), .val (.int x0), .val (.int x1), .val (.int x2), .val (.int an), .val (.int pt), .val (.int hp), .val (.ref b1), .val (.int (f10 b5_r hp b2_r (own_str (p2 &&& (3 : Int32)) (own_n0 p0) (own_n1 p0) (own_n2 p0)) (own_str (own_hl p2) x0 x1 x2) pt)), .val (.int (0 : Int32)), .val (.int (0 : Int32)), .val (.int (0 : Int32))] [(.int (1 : Int32))])) (fun t kt => ?_) ?_
                  · show Steps p.tables e below (T6.setTop (mkF m 274 #[.val (.int p0), .val (.int p1), .val (.int p2), .val (.int p3), .val (.int p4), .val (.int (p2 &&& (3 : Int32))), .val (.int (own_hl p2)), .val (.int (own_n0 p0)), .val (.int (own_n1 p0)), .val (.int (own_n2 p0)), .val (.int x0), .val (.int x1), .val (.int x2), .val (.int an), .val (.int pt), .val (.int hp), .val (.ref b1), .val (.int (f10 b5_r hp b2_r (own_str (p2 &&& (3 : Int32)) (own_n0 p0) (own_n1 p0) (own_n2 p0)) (own_str (own_hl p2) x0 x1 x2) pt)), .val (.int (0 : Int32)), .unset, .unset] [])) t
                    refine XS.iconst X6.here hx rfl (hb hby at_274) ?_
                    refine XS.istore X6.here hx rfl (hb hby at_275) rfl (l' := #[.val (.int p0), .val (.int p1), .val (.int p2), .val (.int p3), .val (.int p4), .val (.int (p2 &&& (3 : Int32))), .val (.int (own_hl p2)), .val (.int (own_n0 p0)), .val (.int (own_n1 p0)), .val (.int (own_n2 p0)), .val (.int x0), .val (.int x1), .val (.int x2), .val (.int an), .val (.int pt), .val (.int hp), .val (.ref b1), .val (.int (f10 b5_r hp b2_r (own_str (p2 &&& (3 : Int32)) (own_n0 p0) (own_n1 p0) (own_n2 p0)) (own_str (own_hl p2) x0 x1 x2) pt)), .val (.int (0 : Int32)), .val (.int (0 : Int32)), .unset]) rfl ?_
                    refine XS.iload X6.here hx rfl (hb hby at_277) rfl ?_
                    refine XS.ifYes X6.here hx rfl (pc0 := 279) (pc' := 291) rfl (hb hby at_279) rfl ((if0 _ _).trans (teq (by decide : (0 : Int32) = (0 : Int32))).1) (by decide) (by decide) ?_
                    refine XS.iconst X6.here hx rfl (hb hby at_291) ?_
                    refine XS.istore X6.here hx rfl (hb hby at_292) rfl (l' := #[.val (.int p0), .val (.int p1), .val (.int p2), .val (.int p3), .val (.int p4), .val (.int (p2 &&& (3 : Int32))), .val (.int (own_hl p2)), .val (.int (own_n0 p0)), .val (.int (own_n1 p0)), .val (.int (own_n2 p0)), .val (.int x0), .val (.int x1), .val (.int x2), .val (.int an), .val (.int pt), .val (.int hp), .val (.ref b1), .val (.int (f10 b5_r hp b2_r (own_str (p2 &&& (3 : Int32)) (own_n0 p0) (own_n1 p0) (own_n2 p0)) (own_str (own_hl p2) x0 x1 x2) pt)), .val (.int (0 : Int32)), .val (.int (0 : Int32)), .val (.int (0 : Int32))]) rfl ?_
                    refine XS.iload X6.here hx rfl (hb hby at_294) rfl ?_
                    refine XS.iload X6.here hx rfl (hb hby at_296) rfl ?_
                    refine XS.icmpNo X6.here hx rfl (hb hby at_298) rfl (teq ((own_fin _ _ (Nat.ne_of_lt (Nat.lt_of_lt_of_le (P2_0.keep K4).lt szo_b5_r)) _ _ _ _ _ _ _ _ _ _ _ (own_nl _) (own_nl _) (own_rn0 _) (own_rn1 _) (own_rn2 _) hx0 hx1 hx2 hap).2 (fun q => q.1.2.2.2.elim hc241 hc248))).2 ?_
                    refine XS.iconst X6.here hx rfl (hb hby at_301) ?_
                    refine XS.goto X6.here hx rfl (pc0 := 302) (pc' := 306) rfl (hb hby at_302) (by decide) (by decide) ?_
                    exact kt
                  refine OGW.retZ X6 hx hlk hS hk hZ hEL CR e6 (t := .boolean) (z' := (1 : Int32)) hret (by simp) (hb hby at_306) rfl ?_ (by decide) (by decide)
                  show Q0 Z p0 p1 p2 p3 p4 w_COMPACT_STRINGS h0 n0 _ T6.heap _
                  rw [e6]
                  exact ⟨rfl, N6, KC5⟩
              · refine OGW.step (F' := T6.setTop (mkF m 270 #[.val (.int p0), .val (.int p1), .val (.int p2), .val (.int p3), .val (.int p4), .val (.int (p2 &&& (3 : Int32))), .val (.int (own_hl p2)), .val (.int (own_n0 p0)), .val (.int (own_n1 p0)), .val (.int (own_n2 p0)), .val (.int x0), .val (.int x1), .val (.int x2), .val (.int an), .val (.int pt), .val (.int hp), .val (.ref b1), .val (.int (f10 b5_r hp b2_r (own_str (p2 &&& (3 : Int32)) (own_n0 p0) (own_n1 p0) (own_n2 p0)) (own_str (own_hl p2) x0 x1 x2) pt)), .val (.int (0 : Int32)), .unset, .unset] [])) (fun t kt => ?_) ?_
                · show Steps p.tables e below (T6.setTop (mkF m 260 #[.val (.int p0), .val (.int p1), .val (.int p2), .val (.int p3), .val (.int p4), .val (.int (p2 &&& (3 : Int32))), .val (.int (own_hl p2)), .val (.int (own_n0 p0)), .val (.int (own_n1 p0)), .val (.int (own_n2 p0)), .val (.int x0), .val (.int x1), .val (.int x2), .val (.int an), .val (.int pt), .val (.int hp), .val (.ref b1), .val (.int (f10 b5_r hp b2_r (own_str (p2 &&& (3 : Int32)) (own_n0 p0) (own_n1 p0) (own_n2 p0)) (own_str (own_hl p2) x0 x1 x2) pt)), .val (.int (0 : Int32)), .unset, .unset] [(.int an)])) t
                  refine XS.ifYes X6.here hx rfl (pc0 := 260) (pc' := 270) rfl (hb hby at_260) rfl ((if0 _ _).trans (feq hc260).2) (by decide) (by decide) ?_
                  exact kt
                refine OGW.step (F' := T6.setTop (mkF m 306 #[.val (.int p0), .val (.int p1), .val (.int p2), .val (.int p3), .val (.int p4), .val (.int (p2 &&& (3 : Int32))), .val (.int (own_hl p2)), .val (.int (own_n0 p0)), .val (.int (own_n1 p0)), .val (.int (own_n2 p0)), .val (.int x0), .val (.int x1), .val (.int x2), .val (.int an), .val (.int pt), .val (.int hp), .val (.ref b1), .val (.int (f10 b5_r hp b2_r (own_str (p2 &&& (3 : Int32)) (own_n0 p0) (own_n1 p0) (own_n2 p0)) (own_str (own_hl p2) x0 x1 x2) pt)), .val (.int (0 : Int32)), .val (.int (1 : Int32)), .val (.int (0 : Int32))] [(.int (1 : Int32))])) (fun t kt => ?_) ?_
                · show Steps p.tables e below (T6.setTop (mkF m 270 #[.val (.int p0), .val (.int p1), .val (.int p2), .val (.int p3), .val (.int p4), .val (.int (p2 &&& (3 : Int32))), .val (.int (own_hl p2)), .val (.int (own_n0 p0)), .val (.int (own_n1 p0)), .val (.int (own_n2 p0)), .val (.int x0), .val (.int x1), .val (.int x2), .val (.int an), .val (.int pt), .val (.int hp), .val (.ref b1), .val (.int (f10 b5_r hp b2_r (own_str (p2 &&& (3 : Int32)) (own_n0 p0) (own_n1 p0) (own_n2 p0)) (own_str (own_hl p2) x0 x1 x2) pt)), .val (.int (0 : Int32)), .unset, .unset] [])) t
                  refine XS.iconst X6.here hx rfl (hb hby at_270) ?_
                  refine XS.goto X6.here hx rfl (pc0 := 271) (pc' := 275) rfl (hb hby at_271) (by decide) (by decide) ?_
                  refine XS.istore X6.here hx rfl (hb hby at_275) rfl (l' := #[.val (.int p0), .val (.int p1), .val (.int p2), .val (.int p3), .val (.int p4), .val (.int (p2 &&& (3 : Int32))), .val (.int (own_hl p2)), .val (.int (own_n0 p0)), .val (.int (own_n1 p0)), .val (.int (own_n2 p0)), .val (.int x0), .val (.int x1), .val (.int x2), .val (.int an), .val (.int pt), .val (.int hp), .val (.ref b1), .val (.int (f10 b5_r hp b2_r (own_str (p2 &&& (3 : Int32)) (own_n0 p0) (own_n1 p0) (own_n2 p0)) (own_str (own_hl p2) x0 x1 x2) pt)), .val (.int (0 : Int32)), .val (.int (1 : Int32)), .unset]) rfl ?_
                  refine XS.iload X6.here hx rfl (hb hby at_277) rfl ?_
                  refine XS.ifYes X6.here hx rfl (pc0 := 279) (pc' := 291) rfl (hb hby at_279) rfl ((if0 _ _).trans (teq (by decide : (0 : Int32) = (0 : Int32))).1) (by decide) (by decide) ?_
                  refine XS.iconst X6.here hx rfl (hb hby at_291) ?_
                  refine XS.istore X6.here hx rfl (hb hby at_292) rfl (l' := #[.val (.int p0), .val (.int p1), .val (.int p2), .val (.int p3), .val (.int p4), .val (.int (p2 &&& (3 : Int32))), .val (.int (own_hl p2)), .val (.int (own_n0 p0)), .val (.int (own_n1 p0)), .val (.int (own_n2 p0)), .val (.int x0), .val (.int x1), .val (.int x2), .val (.int an), .val (.int pt), .val (.int hp), .val (.ref b1), .val (.int (f10 b5_r hp b2_r (own_str (p2 &&& (3 : Int32)) (own_n0 p0) (own_n1 p0) (own_n2 p0)) (own_str (own_hl p2) x0 x1 x2) pt)), .val (.int (0 : Int32)), .val (.int (1 : Int32)), .val (.int (0 : Int32))]) rfl ?_
                  refine XS.iload X6.here hx rfl (hb hby at_294) rfl ?_
                  refine XS.iload X6.here hx rfl (hb hby at_296) rfl ?_
                  refine XS.icmpNo X6.here hx rfl (hb hby at_298) rfl (teq ((own_fin _ _ (Nat.ne_of_lt (Nat.lt_of_lt_of_le (P2_0.keep K4).lt szo_b5_r)) _ _ _ _ _ _ _ _ _ _ _ (own_nl _) (own_nl _) (own_rn0 _) (own_rn1 _) (own_rn2 _) hx0 hx1 hx2 hap).2 (fun q => q.1.2.2.2.elim hc241 hc248))).2 ?_
                  refine XS.iconst X6.here hx rfl (hb hby at_301) ?_
                  refine XS.goto X6.here hx rfl (pc0 := 302) (pc' := 306) rfl (hb hby at_302) (by decide) (by decide) ?_
                  exact kt
                refine OGW.retZ X6 hx hlk hS hk hZ hEL CR e6 (t := .boolean) (z' := (1 : Int32)) hret (by simp) (hb hby at_306) rfl ?_ (by decide) (by decide)
                show Q0 Z p0 p1 p2 p3 p4 w_COMPACT_STRINGS h0 n0 _ T6.heap _
                rw [e6]
                exact ⟨rfl, N6, KC5⟩
        · refine OGW.step (F' := T6.setTop (mkF m 231 #[.val (.int p0), .val (.int p1), .val (.int p2), .val (.int p3), .val (.int p4), .val (.int (p2 &&& (3 : Int32))), .val (.int (own_hl p2)), .val (.int (own_n0 p0)), .val (.int (own_n1 p0)), .val (.int (own_n2 p0)), .val (.int x0), .val (.int x1), .val (.int x2), .val (.int an), .val (.int pt), .val (.int hp), .val (.ref b1), .val (.int (f10 b5_r hp b2_r (own_str (p2 &&& (3 : Int32)) (own_n0 p0) (own_n1 p0) (own_n2 p0)) (own_str (own_hl p2) x0 x1 x2) pt)), .unset, .unset, .unset] [])) (fun t kt => ?_) ?_
          · show Steps p.tables e below (T6.setTop (mkF m 228 #[.val (.int p0), .val (.int p1), .val (.int p2), .val (.int p3), .val (.int p4), .val (.int (p2 &&& (3 : Int32))), .val (.int (own_hl p2)), .val (.int (own_n0 p0)), .val (.int (own_n1 p0)), .val (.int (own_n2 p0)), .val (.int x0), .val (.int x1), .val (.int x2), .val (.int an), .val (.int pt), .val (.int hp), .val (.ref b1), .val (.int (f10 b5_r hp b2_r (own_str (p2 &&& (3 : Int32)) (own_n0 p0) (own_n1 p0) (own_n2 p0)) (own_str (own_hl p2) x0 x1 x2) pt)), .unset, .unset, .unset] [(.int (2 : Int32)), (.int (p2 &&& (3 : Int32)))])) t
            refine XS.icmpNo X6.here hx rfl (hb hby at_228) rfl (flt hc228).1 ?_
            exact kt
          refine OGW.step (F' := T6.setTop (mkF m 235 #[.val (.int p0), .val (.int p1), .val (.int p2), .val (.int p3), .val (.int p4), .val (.int (p2 &&& (3 : Int32))), .val (.int (own_hl p2)), .val (.int (own_n0 p0)), .val (.int (own_n1 p0)), .val (.int (own_n2 p0)), .val (.int x0), .val (.int x1), .val (.int x2), .val (.int an), .val (.int pt), .val (.int hp), .val (.ref b1), .val (.int (f10 b5_r hp b2_r (own_str (p2 &&& (3 : Int32)) (own_n0 p0) (own_n1 p0) (own_n2 p0)) (own_str (own_hl p2) x0 x1 x2) pt)), .unset, .unset, .unset] [(.int x1), (.int (own_n1 p0))])) (fun t kt => ?_) ?_
          · show Steps p.tables e below (T6.setTop (mkF m 231 #[.val (.int p0), .val (.int p1), .val (.int p2), .val (.int p3), .val (.int p4), .val (.int (p2 &&& (3 : Int32))), .val (.int (own_hl p2)), .val (.int (own_n0 p0)), .val (.int (own_n1 p0)), .val (.int (own_n2 p0)), .val (.int x0), .val (.int x1), .val (.int x2), .val (.int an), .val (.int pt), .val (.int hp), .val (.ref b1), .val (.int (f10 b5_r hp b2_r (own_str (p2 &&& (3 : Int32)) (own_n0 p0) (own_n1 p0) (own_n2 p0)) (own_str (own_hl p2) x0 x1 x2) pt)), .unset, .unset, .unset] [])) t
            refine XS.iload X6.here hx rfl (hb hby at_231) rfl ?_
            refine XS.iload X6.here hx rfl (hb hby at_233) rfl ?_
            exact kt
          by_cases hc235 : (own_n1 p0) = x1
          · refine OGW.step (F' := T6.setTop (mkF m 238 #[.val (.int p0), .val (.int p1), .val (.int p2), .val (.int p3), .val (.int p4), .val (.int (p2 &&& (3 : Int32))), .val (.int (own_hl p2)), .val (.int (own_n0 p0)), .val (.int (own_n1 p0)), .val (.int (own_n2 p0)), .val (.int x0), .val (.int x1), .val (.int x2), .val (.int an), .val (.int pt), .val (.int hp), .val (.ref b1), .val (.int (f10 b5_r hp b2_r (own_str (p2 &&& (3 : Int32)) (own_n0 p0) (own_n1 p0) (own_n2 p0)) (own_str (own_hl p2) x0 x1 x2) pt)), .unset, .unset, .unset] [])) (fun t kt => ?_) ?_
            · show Steps p.tables e below (T6.setTop (mkF m 235 #[.val (.int p0), .val (.int p1), .val (.int p2), .val (.int p3), .val (.int p4), .val (.int (p2 &&& (3 : Int32))), .val (.int (own_hl p2)), .val (.int (own_n0 p0)), .val (.int (own_n1 p0)), .val (.int (own_n2 p0)), .val (.int x0), .val (.int x1), .val (.int x2), .val (.int an), .val (.int pt), .val (.int hp), .val (.ref b1), .val (.int (f10 b5_r hp b2_r (own_str (p2 &&& (3 : Int32)) (own_n0 p0) (own_n1 p0) (own_n2 p0)) (own_str (own_hl p2) x0 x1 x2) pt)), .unset, .unset, .unset] [(.int x1), (.int (own_n1 p0))])) t
              refine XS.icmpNo X6.here hx rfl (hb hby at_235) rfl (teq hc235).2 ?_
              exact kt
            refine OGW.step (F' := T6.setTop (mkF m 241 #[.val (.int p0), .val (.int p1), .val (.int p2), .val (.int p3), .val (.int p4), .val (.int (p2 &&& (3 : Int32))), .val (.int (own_hl p2)), .val (.int (own_n0 p0)), .val (.int (own_n1 p0)), .val (.int (own_n2 p0)), .val (.int x0), .val (.int x1), .val (.int x2), .val (.int an), .val (.int pt), .val (.int hp), .val (.ref b1), .val (.int (f10 b5_r hp b2_r (own_str (p2 &&& (3 : Int32)) (own_n0 p0) (own_n1 p0) (own_n2 p0)) (own_str (own_hl p2) x0 x1 x2) pt)), .unset, .unset, .unset] [(.int (3 : Int32)), (.int (p2 &&& (3 : Int32)))])) (fun t kt => ?_) ?_
            · show Steps p.tables e below (T6.setTop (mkF m 238 #[.val (.int p0), .val (.int p1), .val (.int p2), .val (.int p3), .val (.int p4), .val (.int (p2 &&& (3 : Int32))), .val (.int (own_hl p2)), .val (.int (own_n0 p0)), .val (.int (own_n1 p0)), .val (.int (own_n2 p0)), .val (.int x0), .val (.int x1), .val (.int x2), .val (.int an), .val (.int pt), .val (.int hp), .val (.ref b1), .val (.int (f10 b5_r hp b2_r (own_str (p2 &&& (3 : Int32)) (own_n0 p0) (own_n1 p0) (own_n2 p0)) (own_str (own_hl p2) x0 x1 x2) pt)), .unset, .unset, .unset] [])) t
              refine XS.iload X6.here hx rfl (hb hby at_238) rfl ?_
              refine XS.iconst X6.here hx rfl (hb hby at_240) ?_
              exact kt
            by_cases hc241 : (p2 &&& (3 : Int32)) < (3 : Int32)
            · refine OGW.step (F' := T6.setTop (mkF m 251 #[.val (.int p0), .val (.int p1), .val (.int p2), .val (.int p3), .val (.int p4), .val (.int (p2 &&& (3 : Int32))), .val (.int (own_hl p2)), .val (.int (own_n0 p0)), .val (.int (own_n1 p0)), .val (.int (own_n2 p0)), .val (.int x0), .val (.int x1), .val (.int x2), .val (.int an), .val (.int pt), .val (.int hp), .val (.ref b1), .val (.int (f10 b5_r hp b2_r (own_str (p2 &&& (3 : Int32)) (own_n0 p0) (own_n1 p0) (own_n2 p0)) (own_str (own_hl p2) x0 x1 x2) pt)), .unset, .unset, .unset] [])) (fun t kt => ?_) ?_
              · show Steps p.tables e below (T6.setTop (mkF m 241 #[.val (.int p0), .val (.int p1), .val (.int p2), .val (.int p3), .val (.int p4), .val (.int (p2 &&& (3 : Int32))), .val (.int (own_hl p2)), .val (.int (own_n0 p0)), .val (.int (own_n1 p0)), .val (.int (own_n2 p0)), .val (.int x0), .val (.int x1), .val (.int x2), .val (.int an), .val (.int pt), .val (.int hp), .val (.ref b1), .val (.int (f10 b5_r hp b2_r (own_str (p2 &&& (3 : Int32)) (own_n0 p0) (own_n1 p0) (own_n2 p0)) (own_str (own_hl p2) x0 x1 x2) pt)), .unset, .unset, .unset] [(.int (3 : Int32)), (.int (p2 &&& (3 : Int32)))])) t
                refine XS.icmpYes X6.here hx rfl (pc0 := 241) (pc' := 251) rfl (hb hby at_241) rfl (tlt hc241).1 (by decide) (by decide) ?_
                exact kt
              refine OGW.step (F' := T6.setTop (mkF m 260 #[.val (.int p0), .val (.int p1), .val (.int p2), .val (.int p3), .val (.int p4), .val (.int (p2 &&& (3 : Int32))), .val (.int (own_hl p2)), .val (.int (own_n0 p0)), .val (.int (own_n1 p0)), .val (.int (own_n2 p0)), .val (.int x0), .val (.int x1), .val (.int x2), .val (.int an), .val (.int pt), .val (.int hp), .val (.ref b1), .val (.int (f10 b5_r hp b2_r (own_str (p2 &&& (3 : Int32)) (own_n0 p0) (own_n1 p0) (own_n2 p0)) (own_str (own_hl p2) x0 x1 x2) pt)), .val (.int (1 : Int32)), .unset, .unset] [(.int an)])) (fun t kt => ?_) ?_
              · show Steps p.tables e below (T6.setTop (mkF m 251 #[.val (.int p0), .val (.int p1), .val (.int p2), .val (.int p3), .val (.int p4), .val (.int (p2 &&& (3 : Int32))), .val (.int (own_hl p2)), .val (.int (own_n0 p0)), .val (.int (own_n1 p0)), .val (.int (own_n2 p0)), .val (.int x0), .val (.int x1), .val (.int x2), .val (.int an), .val (.int pt), .val (.int hp), .val (.ref b1), .val (.int (f10 b5_r hp b2_r (own_str (p2 &&& (3 : Int32)) (own_n0 p0) (own_n1 p0) (own_n2 p0)) (own_str (own_hl p2) x0 x1 x2) pt)), .unset, .unset, .unset] [])) t
                refine XS.iconst X6.here hx rfl (hb hby at_251) ?_
                refine XS.goto X6.here hx rfl (pc0 := 252) (pc' := 256) rfl (hb hby at_252) (by decide) (by decide) ?_
                refine XS.istore X6.here hx rfl (hb hby at_256) rfl (l' := #[.val (.int p0), .val (.int p1), .val (.int p2), .val (.int p3), .val (.int p4), .val (.int (p2 &&& (3 : Int32))), .val (.int (own_hl p2)), .val (.int (own_n0 p0)), .val (.int (own_n1 p0)), .val (.int (own_n2 p0)), .val (.int x0), .val (.int x1), .val (.int x2), .val (.int an), .val (.int pt), .val (.int hp), .val (.ref b1), .val (.int (f10 b5_r hp b2_r (own_str (p2 &&& (3 : Int32)) (own_n0 p0) (own_n1 p0) (own_n2 p0)) (own_str (own_hl p2) x0 x1 x2) pt)), .val (.int (1 : Int32)), .unset, .unset]) rfl ?_
                refine XS.iload X6.here hx rfl (hb hby at_258) rfl ?_
                exact kt
              by_cases hc260 : an = (0 : Int32)
              · refine OGW.step (F' := T6.setTop (mkF m 263 #[.val (.int p0), .val (.int p1), .val (.int p2), .val (.int p3), .val (.int p4), .val (.int (p2 &&& (3 : Int32))), .val (.int (own_hl p2)), .val (.int (own_n0 p0)), .val (.int (own_n1 p0)), .val (.int (own_n2 p0)), .val (.int x0), .val (.int x1), .val (.int x2), .val (.int an), .val (.int pt), .val (.int hp), .val (.ref b1), .val (.int (f10 b5_r hp b2_r (own_str (p2 &&& (3 : Int32)) (own_n0 p0) (own_n1 p0) (own_n2 p0)) (own_str (own_hl p2) x0 x1 x2) pt)), .val (.int (1 : Int32)), .unset, .unset] [])) (fun t kt => ?_) ?_
                · show Steps p.tables e below (T6.setTop (mkF m 260 #[.val (.int p0), .val (.int p1), .val (.int p2), .val (.int p3), .val (.int p4), .val (.int (p2 &&& (3 : Int32))), .val (.int (own_hl p2)), .val (.int (own_n0 p0)), .val (.int (own_n1 p0)), .val (.int (own_n2 p0)), .val (.int x0), .val (.int x1), .val (.int x2), .val (.int an), .val (.int pt), .val (.int hp), .val (.ref b1), .val (.int (f10 b5_r hp b2_r (own_str (p2 &&& (3 : Int32)) (own_n0 p0) (own_n1 p0) (own_n2 p0)) (own_str (own_hl p2) x0 x1 x2) pt)), .val (.int (1 : Int32)), .unset, .unset] [(.int an)])) t
                  refine XS.ifNo X6.here hx rfl (hb hby at_260) rfl ((if0 _ _).trans (teq hc260).2) ?_
                  exact kt
                refine OGW.step (F' := T6.setTop (mkF m 267 #[.val (.int p0), .val (.int p1), .val (.int p2), .val (.int p3), .val (.int p4), .val (.int (p2 &&& (3 : Int32))), .val (.int (own_hl p2)), .val (.int (own_n0 p0)), .val (.int (own_n1 p0)), .val (.int (own_n2 p0)), .val (.int x0), .val (.int x1), .val (.int x2), .val (.int an), .val (.int pt), .val (.int hp), .val (.ref b1), .val (.int (f10 b5_r hp b2_r (own_str (p2 &&& (3 : Int32)) (own_n0 p0) (own_n1 p0) (own_n2 p0)) (own_str (own_hl p2) x0 x1 x2) pt)), .val (.int (1 : Int32)), .unset, .unset] [(.int hp), (.int pt)])) (fun t kt => ?_) ?_
                · show Steps p.tables e below (T6.setTop (mkF m 263 #[.val (.int p0), .val (.int p1), .val (.int p2), .val (.int p3), .val (.int p4), .val (.int (p2 &&& (3 : Int32))), .val (.int (own_hl p2)), .val (.int (own_n0 p0)), .val (.int (own_n1 p0)), .val (.int (own_n2 p0)), .val (.int x0), .val (.int x1), .val (.int x2), .val (.int an), .val (.int pt), .val (.int hp), .val (.ref b1), .val (.int (f10 b5_r hp b2_r (own_str (p2 &&& (3 : Int32)) (own_n0 p0) (own_n1 p0) (own_n2 p0)) (own_str (own_hl p2) x0 x1 x2) pt)), .val (.int (1 : Int32)), .unset, .unset] [])) t
                  refine XS.iload X6.here hx rfl (hb hby at_263) rfl ?_
                  refine XS.iload X6.here hx rfl (hb hby at_265) rfl ?_
                  exact kt
                by_cases hc267 : pt = hp
                · refine OGW.step (F' := T6.setTop (mkF m 270 #[.val (.int p0), .val (.int p1), .val (.int p2), .val (.int p3), .val (.int p4), .val (.int (p2 &&& (3 : Int32))), .val (.int (own_hl p2)), .val (.int (own_n0 p0)), .val (.int (own_n1 p0)), .val (.int (own_n2 p0)), .val (.int x0), .val (.int x1), .val (.int x2), .val (.int an), .val (.int pt), .val (.int hp), .val (.ref b1), .val (.int (f10 b5_r hp b2_r (own_str (p2 &&& (3 : Int32)) (own_n0 p0) (own_n1 p0) (own_n2 p0)) (own_str (own_hl p2) x0 x1 x2) pt)), .val (.int (1 : Int32)), .unset, .unset] [])) (fun t kt => ?_) ?_
                  · show Steps p.tables e below (T6.setTop (mkF m 267 #[.val (.int p0), .val (.int p1), .val (.int p2), .val (.int p3), .val (.int p4), .val (.int (p2 &&& (3 : Int32))), .val (.int (own_hl p2)), .val (.int (own_n0 p0)), .val (.int (own_n1 p0)), .val (.int (own_n2 p0)), .val (.int x0), .val (.int x1), .val (.int x2), .val (.int an), .val (.int pt), .val (.int hp), .val (.ref b1), .val (.int (f10 b5_r hp b2_r (own_str (p2 &&& (3 : Int32)) (own_n0 p0) (own_n1 p0) (own_n2 p0)) (own_str (own_hl p2) x0 x1 x2) pt)), .val (.int (1 : Int32)), .unset, .unset] [(.int hp), (.int pt)])) t
                    refine XS.icmpNo X6.here hx rfl (hb hby at_267) rfl (teq hc267).2 ?_
                    exact kt
                  refine OGW.step (F' := T6.setTop (mkF m 306 #[.val (.int p0), .val (.int p1), .val (.int p2), .val (.int p3), .val (.int p4), .val (.int (p2 &&& (3 : Int32))), .val (.int (own_hl p2)), .val (.int (own_n0 p0)), .val (.int (own_n1 p0)), .val (.int (own_n2 p0)), .val (.int x0), .val (.int x1), .val (.int x2), .val (.int an), .val (.int pt), .val (.int hp), .val (.ref b1), .val (.int (f10 b5_r hp b2_r (own_str (p2 &&& (3 : Int32)) (own_n0 p0) (own_n1 p0) (own_n2 p0)) (own_str (own_hl p2) x0 x1 x2) pt)), .val (.int (1 : Int32)), .val (.int (1 : Int32)), .val (.int (1 : Int32))] [(.int (1 : Int32))])) (fun t kt => ?_) ?_
                  · show Steps p.tables e below (T6.setTop (mkF m 270 #[.val (.int p0), .val (.int p1), .val (.int p2), .val (.int p3), .val (.int p4), .val (.int (p2 &&& (3 : Int32))), .val (.int (own_hl p2)), .val (.int (own_n0 p0)), .val (.int (own_n1 p0)), .val (.int (own_n2 p0)), .val (.int x0), .val (.int x1), .val (.int x2), .val (.int an), .val (.int pt), .val (.int hp), .val (.ref b1), .val (.int (f10 b5_r hp b2_r (own_str (p2 &&& (3 : Int32)) (own_n0 p0) (own_n1 p0) (own_n2 p0)) (own_str (own_hl p2) x0 x1 x2) pt)), .val (.int (1 : Int32)), .unset, .unset] [])) t
                    refine XS.iconst X6.here hx rfl (hb hby at_270) ?_
                    refine XS.goto X6.here hx rfl (pc0 := 271) (pc' := 275) rfl (hb hby at_271) (by decide) (by decide) ?_
                    refine XS.istore X6.here hx rfl (hb hby at_275) rfl (l' := #[.val (.int p0), .val (.int p1), .val (.int p2), .val (.int p3), .val (.int p4), .val (.int (p2 &&& (3 : Int32))), .val (.int (own_hl p2)), .val (.int (own_n0 p0)), .val (.int (own_n1 p0)), .val (.int (own_n2 p0)), .val (.int x0), .val (.int x1), .val (.int x2), .val (.int an), .val (.int pt), .val (.int hp), .val (.ref b1), .val (.int (f10 b5_r hp b2_r (own_str (p2 &&& (3 : Int32)) (own_n0 p0) (own_n1 p0) (own_n2 p0)) (own_str (own_hl p2) x0 x1 x2) pt)), .val (.int (1 : Int32)), .val (.int (1 : Int32)), .unset]) rfl ?_
                    refine XS.iload X6.here hx rfl (hb hby at_277) rfl ?_
                    refine XS.ifNo X6.here hx rfl (hb hby at_279) rfl ((if0 _ _).trans (feq (by decide : ¬ ((1 : Int32) = (0 : Int32)))).1) ?_
                    refine XS.iload X6.here hx rfl (hb hby at_282) rfl ?_
                    refine XS.ifNo X6.here hx rfl (hb hby at_284) rfl ((if0 _ _).trans (feq (by decide : ¬ ((1 : Int32) = (0 : Int32)))).1) ?_
                    refine XS.iconst X6.here hx rfl (hb hby at_287) ?_
                    refine XS.goto X6.here hx rfl (pc0 := 288) (pc' := 292) rfl (hb hby at_288) (by decide) (by decide) ?_
                    refine XS.istore X6.here hx rfl (hb hby at_292) rfl (l' := #[.val (.int p0), .val (.int p1), .val (.int p2), .val (.int p3), .val (.int p4), .val (.int (p2 &&& (3 : Int32))), .val (.int (own_hl p2)), .val (.int (own_n0 p0)), .val (.int (own_n1 p0)), .val (.int (own_n2 p0)), .val (.int x0), .val (.int x1), .val (.int x2), .val (.int an), .val (.int pt), .val (.int hp), .val (.ref b1), .val (.int (f10 b5_r hp b2_r (own_str (p2 &&& (3 : Int32)) (own_n0 p0) (own_n1 p0) (own_n2 p0)) (own_str (own_hl p2) x0 x1 x2) pt)), .val (.int (1 : Int32)), .val (.int (1 : Int32)), .val (.int (1 : Int32))]) rfl ?_
                    refine XS.iload X6.here hx rfl (hb hby at_294) rfl ?_
                    refine XS.iload X6.here hx rfl (hb hby at_296) rfl ?_
                    refine XS.icmpNo X6.here hx rfl (hb hby at_298) rfl (teq ((own_fin _ _ (Nat.ne_of_lt (Nat.lt_of_lt_of_le (P2_0.keep K4).lt szo_b5_r)) _ _ _ _ _ _ _ _ _ _ _ (own_nl _) (own_nl _) (own_rn0 _) (own_rn1 _) (own_rn2 _) hx0 hx1 hx2 hap).1 ⟨⟨hc209, Or.inl hc215, Or.inr hc235, Or.inl hc241⟩, Or.inr hc267⟩)).2 ?_
                    refine XS.iconst X6.here hx rfl (hb hby at_301) ?_
                    refine XS.goto X6.here hx rfl (pc0 := 302) (pc' := 306) rfl (hb hby at_302) (by decide) (by decide) ?_
                    exact kt
                  refine OGW.retZ X6 hx hlk hS hk hZ hEL CR e6 (t := .boolean) (z' := (1 : Int32)) hret (by simp) (hb hby at_306) rfl ?_ (by decide) (by decide)
                  show Q0 Z p0 p1 p2 p3 p4 w_COMPACT_STRINGS h0 n0 _ T6.heap _
                  rw [e6]
                  exact ⟨rfl, N6, KC5⟩
                · refine OGW.step (F' := T6.setTop (mkF m 274 #[.val (.int p0), .val (.int p1), .val (.int p2), .val (.int p3), .val (.int p4), .val (.int (p2 &&& (3 : Int32))), .val (.int (own_hl p2)), .val (.int (own_n0 p0)), .val (.int (own_n1 p0)), .val (.int (own_n2 p0)), .val (.int x0), .val (.int x1), .val (.int x2), .val (.int an), .val (.int pt), .val (.int hp), .val (.ref b1), .val (.int (f10 b5_r hp b2_r (own_str (p2 &&& (3 : Int32)) (own_n0 p0) (own_n1 p0) (own_n2 p0)) (own_str (own_hl p2) x0 x1 x2) pt)), .val (.int (1 : Int32)), .unset, .unset] [])) (fun t kt => ?_) ?_
                  · show Steps p.tables e below (T6.setTop (mkF m 267 #[.val (.int p0), .val (.int p1), .val (.int p2), .val (.int p3), .val (.int p4), .val (.int (p2 &&& (3 : Int32))), .val (.int (own_hl p2)), .val (.int (own_n0 p0)), .val (.int (own_n1 p0)), .val (.int (own_n2 p0)), .val (.int x0), .val (.int x1), .val (.int x2), .val (.int an), .val (.int pt), .val (.int hp), .val (.ref b1), .val (.int (f10 b5_r hp b2_r (own_str (p2 &&& (3 : Int32)) (own_n0 p0) (own_n1 p0) (own_n2 p0)) (own_str (own_hl p2) x0 x1 x2) pt)), .val (.int (1 : Int32)), .unset, .unset] [(.int hp), (.int pt)])) t
                    refine XS.icmpYes X6.here hx rfl (pc0 := 267) (pc' := 274) rfl (hb hby at_267) rfl (feq hc267).2 (by decide) (by decide) ?_
                    exact kt
                  refine OGW.step (F' := T6.setTop (mkF m 306 #[.val (.int p0), .val (.int p1), .val (.int p2), .val (.int p3), .val (.int p4), .val (.int (p2 &&& (3 : Int32))), .val (.int (own_hl p2)), .val (.int (own_n0 p0)), .val (.int (own_n1 p0)), .val (.int (own_n2 p0)), .val (.int x0), .val (.int x1), .val (.int x2), .val (.int an), .val (.int pt), .val (.int hp), .val (.ref b1), .val (.int (f10 b5_r hp b2_r (own_str (p2 &&& (3 : Int32)) (own_n0 p0) (own_n1 p0) (own_n2 p0)) (own_str (own_hl p2) x0 x1 x2) pt)), .val (.int (1 : Int32)), .val (.int (0 : Int32)), .val (.int (0 : Int32))] [(.int (1 : Int32))])) (fun t kt => ?_) ?_
                  · show Steps p.tables e below (T6.setTop (mkF m 274 #[.val (.int p0), .val (.int p1), .val (.int p2), .val (.int p3), .val (.int p4), .val (.int (p2 &&& (3 : Int32))), .val (.int (own_hl p2)), .val (.int (own_n0 p0)), .val (.int (own_n1 p0)), .val (.int (own_n2 p0)), .val (.int x0), .val (.int x1), .val (.int x2), .val (.int an), .val (.int pt), .val (.int hp), .val (.ref b1), .val (.int (f10 b5_r hp b2_r (own_str (p2 &&& (3 : Int32)) (own_n0 p0) (own_n1 p0) (own_n2 p0)) (own_str (own_hl p2) x0 x1 x2) pt)), .val (.int (1 : Int32)), .unset, .unset] [])) t
                    refine XS.iconst X6.here hx rfl (hb hby at_274) ?_
                    refine XS.istore X6.here hx rfl (hb hby at_275) rfl (l' := #[.val (.int p0), .val (.int p1), .val (.int p2), .val (.int p3), .val (.int p4), .val (.int (p2 &&& (3 : Int32))), .val (.int (own_hl p2)), .val (.int (own_n0 p0)), .val (.int (own_n1 p0)), .val (.int (own_n2 p0)), .val (.int x0), .val (.int x1), .val (.int x2), .val (.int an), .val (.int pt), .val (.int hp), .val (.ref b1), .val (.int (f10 b5_r hp b2_r (own_str (p2 &&& (3 : Int32)) (own_n0 p0) (own_n1 p0) (own_n2 p0)) (own_str (own_hl p2) x0 x1 x2) pt)), .val (.int (1 : Int32)), .val (.int (0 : Int32)), .unset]) rfl ?_
                    refine XS.iload X6.here hx rfl (hb hby at_277) rfl ?_
                    refine XS.ifNo X6.here hx rfl (hb hby at_279) rfl ((if0 _ _).trans (feq (by decide : ¬ ((1 : Int32) = (0 : Int32)))).1) ?_
                    refine XS.iload X6.here hx rfl (hb hby at_282) rfl ?_
                    refine XS.ifYes X6.here hx rfl (pc0 := 284) (pc' := 291) rfl (hb hby at_284) rfl ((if0 _ _).trans (teq (by decide : (0 : Int32) = (0 : Int32))).1) (by decide) (by decide) ?_
                    refine XS.iconst X6.here hx rfl (hb hby at_291) ?_
                    refine XS.istore X6.here hx rfl (hb hby at_292) rfl (l' := #[.val (.int p0), .val (.int p1), .val (.int p2), .val (.int p3), .val (.int p4), .val (.int (p2 &&& (3 : Int32))), .val (.int (own_hl p2)), .val (.int (own_n0 p0)), .val (.int (own_n1 p0)), .val (.int (own_n2 p0)), .val (.int x0), .val (.int x1), .val (.int x2), .val (.int an), .val (.int pt), .val (.int hp), .val (.ref b1), .val (.int (f10 b5_r hp b2_r (own_str (p2 &&& (3 : Int32)) (own_n0 p0) (own_n1 p0) (own_n2 p0)) (own_str (own_hl p2) x0 x1 x2) pt)), .val (.int (1 : Int32)), .val (.int (0 : Int32)), .val (.int (0 : Int32))]) rfl ?_
                    refine XS.iload X6.here hx rfl (hb hby at_294) rfl ?_
                    refine XS.iload X6.here hx rfl (hb hby at_296) rfl ?_
                    refine XS.icmpNo X6.here hx rfl (hb hby at_298) rfl (teq ((own_fin _ _ (Nat.ne_of_lt (Nat.lt_of_lt_of_le (P2_0.keep K4).lt szo_b5_r)) _ _ _ _ _ _ _ _ _ _ _ (own_nl _) (own_nl _) (own_rn0 _) (own_rn1 _) (own_rn2 _) hx0 hx1 hx2 hap).2 (fun q => q.2.elim (fun z => z hc260) hc267))).2 ?_
                    refine XS.iconst X6.here hx rfl (hb hby at_301) ?_
                    refine XS.goto X6.here hx rfl (pc0 := 302) (pc' := 306) rfl (hb hby at_302) (by decide) (by decide) ?_
                    exact kt
                  refine OGW.retZ X6 hx hlk hS hk hZ hEL CR e6 (t := .boolean) (z' := (1 : Int32)) hret (by simp) (hb hby at_306) rfl ?_ (by decide) (by decide)
                  show Q0 Z p0 p1 p2 p3 p4 w_COMPACT_STRINGS h0 n0 _ T6.heap _
                  rw [e6]
                  exact ⟨rfl, N6, KC5⟩
              · refine OGW.step (F' := T6.setTop (mkF m 270 #[.val (.int p0), .val (.int p1), .val (.int p2), .val (.int p3), .val (.int p4), .val (.int (p2 &&& (3 : Int32))), .val (.int (own_hl p2)), .val (.int (own_n0 p0)), .val (.int (own_n1 p0)), .val (.int (own_n2 p0)), .val (.int x0), .val (.int x1), .val (.int x2), .val (.int an), .val (.int pt), .val (.int hp), .val (.ref b1), .val (.int (f10 b5_r hp b2_r (own_str (p2 &&& (3 : Int32)) (own_n0 p0) (own_n1 p0) (own_n2 p0)) (own_str (own_hl p2) x0 x1 x2) pt)), .val (.int (1 : Int32)), .unset, .unset] [])) (fun t kt => ?_) ?_
                · show Steps p.tables e below (T6.setTop (mkF m 260 #[.val (.int p0), .val (.int p1), .val (.int p2), .val (.int p3), .val (.int p4), .val (.int (p2 &&& (3 : Int32))), .val (.int (own_hl p2)), .val (.int (own_n0 p0)), .val (.int (own_n1 p0)), .val (.int (own_n2 p0)), .val (.int x0), .val (.int x1), .val (.int x2), .val (.int an), .val (.int pt), .val (.int hp), .val (.ref b1), .val (.int (f10 b5_r hp b2_r (own_str (p2 &&& (3 : Int32)) (own_n0 p0) (own_n1 p0) (own_n2 p0)) (own_str (own_hl p2) x0 x1 x2) pt)), .val (.int (1 : Int32)), .unset, .unset] [(.int an)])) t
                  refine XS.ifYes X6.here hx rfl (pc0 := 260) (pc' := 270) rfl (hb hby at_260) rfl ((if0 _ _).trans (feq hc260).2) (by decide) (by decide) ?_
                  exact kt
                refine OGW.step (F' := T6.setTop (mkF m 306 #[.val (.int p0), .val (.int p1), .val (.int p2), .val (.int p3), .val (.int p4), .val (.int (p2 &&& (3 : Int32))), .val (.int (own_hl p2)), .val (.int (own_n0 p0)), .val (.int (own_n1 p0)), .val (.int (own_n2 p0)), .val (.int x0), .val (.int x1), .val (.int x2), .val (.int an), .val (.int pt), .val (.int hp), .val (.ref b1), .val (.int (f10 b5_r hp b2_r (own_str (p2 &&& (3 : Int32)) (own_n0 p0) (own_n1 p0) (own_n2 p0)) (own_str (own_hl p2) x0 x1 x2) pt)), .val (.int (1 : Int32)), .val (.int (1 : Int32)), .val (.int (1 : Int32))] [(.int (1 : Int32))])) (fun t kt => ?_) ?_
                · show Steps p.tables e below (T6.setTop (mkF m 270 #[.val (.int p0), .val (.int p1), .val (.int p2), .val (.int p3), .val (.int p4), .val (.int (p2 &&& (3 : Int32))), .val (.int (own_hl p2)), .val (.int (own_n0 p0)), .val (.int (own_n1 p0)), .val (.int (own_n2 p0)), .val (.int x0), .val (.int x1), .val (.int x2), .val (.int an), .val (.int pt), .val (.int hp), .val (.ref b1), .val (.int (f10 b5_r hp b2_r (own_str (p2 &&& (3 : Int32)) (own_n0 p0) (own_n1 p0) (own_n2 p0)) (own_str (own_hl p2) x0 x1 x2) pt)), .val (.int (1 : Int32)), .unset, .unset] [])) t
                  refine XS.iconst X6.here hx rfl (hb hby at_270) ?_
                  refine XS.goto X6.here hx rfl (pc0 := 271) (pc' := 275) rfl (hb hby at_271) (by decide) (by decide) ?_
                  refine XS.istore X6.here hx rfl (hb hby at_275) rfl (l' := #[.val (.int p0), .val (.int p1), .val (.int p2), .val (.int p3), .val (.int p4), .val (.int (p2 &&& (3 : Int32))), .val (.int (own_hl p2)), .val (.int (own_n0 p0)), .val (.int (own_n1 p0)), .val (.int (own_n2 p0)), .val (.int x0), .val (.int x1), .val (.int x2), .val (.int an), .val (.int pt), .val (.int hp), .val (.ref b1), .val (.int (f10 b5_r hp b2_r (own_str (p2 &&& (3 : Int32)) (own_n0 p0) (own_n1 p0) (own_n2 p0)) (own_str (own_hl p2) x0 x1 x2) pt)), .val (.int (1 : Int32)), .val (.int (1 : Int32)), .unset]) rfl ?_
                  refine XS.iload X6.here hx rfl (hb hby at_277) rfl ?_
                  refine XS.ifNo X6.here hx rfl (hb hby at_279) rfl ((if0 _ _).trans (feq (by decide : ¬ ((1 : Int32) = (0 : Int32)))).1) ?_
                  refine XS.iload X6.here hx rfl (hb hby at_282) rfl ?_
                  refine XS.ifNo X6.here hx rfl (hb hby at_284) rfl ((if0 _ _).trans (feq (by decide : ¬ ((1 : Int32) = (0 : Int32)))).1) ?_
                  refine XS.iconst X6.here hx rfl (hb hby at_287) ?_
                  refine XS.goto X6.here hx rfl (pc0 := 288) (pc' := 292) rfl (hb hby at_288) (by decide) (by decide) ?_
                  refine XS.istore X6.here hx rfl (hb hby at_292) rfl (l' := #[.val (.int p0), .val (.int p1), .val (.int p2), .val (.int p3), .val (.int p4), .val (.int (p2 &&& (3 : Int32))), .val (.int (own_hl p2)), .val (.int (own_n0 p0)), .val (.int (own_n1 p0)), .val (.int (own_n2 p0)), .val (.int x0), .val (.int x1), .val (.int x2), .val (.int an), .val (.int pt), .val (.int hp), .val (.ref b1), .val (.int (f10 b5_r hp b2_r (own_str (p2 &&& (3 : Int32)) (own_n0 p0) (own_n1 p0) (own_n2 p0)) (own_str (own_hl p2) x0 x1 x2) pt)), .val (.int (1 : Int32)), .val (.int (1 : Int32)), .val (.int (1 : Int32))]) rfl ?_
                  refine XS.iload X6.here hx rfl (hb hby at_294) rfl ?_
                  refine XS.iload X6.here hx rfl (hb hby at_296) rfl ?_
                  refine XS.icmpNo X6.here hx rfl (hb hby at_298) rfl (teq ((own_fin _ _ (Nat.ne_of_lt (Nat.lt_of_lt_of_le (P2_0.keep K4).lt szo_b5_r)) _ _ _ _ _ _ _ _ _ _ _ (own_nl _) (own_nl _) (own_rn0 _) (own_rn1 _) (own_rn2 _) hx0 hx1 hx2 hap).1 ⟨⟨hc209, Or.inl hc215, Or.inr hc235, Or.inl hc241⟩, Or.inl hc260⟩)).2 ?_
                  refine XS.iconst X6.here hx rfl (hb hby at_301) ?_
                  refine XS.goto X6.here hx rfl (pc0 := 302) (pc' := 306) rfl (hb hby at_302) (by decide) (by decide) ?_
                  exact kt
                refine OGW.retZ X6 hx hlk hS hk hZ hEL CR e6 (t := .boolean) (z' := (1 : Int32)) hret (by simp) (hb hby at_306) rfl ?_ (by decide) (by decide)
                show Q0 Z p0 p1 p2 p3 p4 w_COMPACT_STRINGS h0 n0 _ T6.heap _
                rw [e6]
                exact ⟨rfl, N6, KC5⟩
            · refine OGW.step (F' := T6.setTop (mkF m 244 #[.val (.int p0), .val (.int p1), .val (.int p2), .val (.int p3), .val (.int p4), .val (.int (p2 &&& (3 : Int32))), .val (.int (own_hl p2)), .val (.int (own_n0 p0)), .val (.int (own_n1 p0)), .val (.int (own_n2 p0)), .val (.int x0), .val (.int x1), .val (.int x2), .val (.int an), .val (.int pt), .val (.int hp), .val (.ref b1), .val (.int (f10 b5_r hp b2_r (own_str (p2 &&& (3 : Int32)) (own_n0 p0) (own_n1 p0) (own_n2 p0)) (own_str (own_hl p2) x0 x1 x2) pt)), .unset, .unset, .unset] [])) (fun t kt => ?_) ?_
              · show Steps p.tables e below (T6.setTop (mkF m 241 #[.val (.int p0), .val (.int p1), .val (.int p2), .val (.int p3), .val (.int p4), .val (.int (p2 &&& (3 : Int32))), .val (.int (own_hl p2)), .val (.int (own_n0 p0)), .val (.int (own_n1 p0)), .val (.int (own_n2 p0)), .val (.int x0), .val (.int x1), .val (.int x2), .val (.int an), .val (.int pt), .val (.int hp), .val (.ref b1), .val (.int (f10 b5_r hp b2_r (own_str (p2 &&& (3 : Int32)) (own_n0 p0) (own_n1 p0) (own_n2 p0)) (own_str (own_hl p2) x0 x1 x2) pt)), .unset, .unset, .unset] [(.int (3 : Int32)), (.int (p2 &&& (3 : Int32)))])) t
                refine XS.icmpNo X6.here hx rfl (hb hby at_241) rfl (flt hc241).1 ?_
                exact kt
              refine OGW.step (F' := T6.setTop (mkF m 248 #[.val (.int p0), .val (.int p1), .val (.int p2), .val (.int p3), .val (.int p4), .val (.int (p2 &&& (3 : Int32))), .val (.int (own_hl p2)), .val (.int (own_n0 p0)), .val (.int (own_n1 p0)), .val (.int (own_n2 p0)), .val (.int x0), .val (.int x1), .val (.int x2), .val (.int an), .val (.int pt), .val (.int hp), .val (.ref b1), .val (.int (f10 b5_r hp b2_r (own_str (p2 &&& (3 : Int32)) (own_n0 p0) (own_n1 p0) (own_n2 p0)) (own_str (own_hl p2) x0 x1 x2) pt)), .unset, .unset, .unset] [(.int x2), (.int (own_n2 p0))])) (fun t kt => ?_) ?_
              · show Steps p.tables e below (T6.setTop (mkF m 244 #[.val (.int p0), .val (.int p1), .val (.int p2), .val (.int p3), .val (.int p4), .val (.int (p2 &&& (3 : Int32))), .val (.int (own_hl p2)), .val (.int (own_n0 p0)), .val (.int (own_n1 p0)), .val (.int (own_n2 p0)), .val (.int x0), .val (.int x1), .val (.int x2), .val (.int an), .val (.int pt), .val (.int hp), .val (.ref b1), .val (.int (f10 b5_r hp b2_r (own_str (p2 &&& (3 : Int32)) (own_n0 p0) (own_n1 p0) (own_n2 p0)) (own_str (own_hl p2) x0 x1 x2) pt)), .unset, .unset, .unset] [])) t
                refine XS.iload X6.here hx rfl (hb hby at_244) rfl ?_
                refine XS.iload X6.here hx rfl (hb hby at_246) rfl ?_
                exact kt
              by_cases hc248 : (own_n2 p0) = x2
              · refine OGW.step (F' := T6.setTop (mkF m 251 #[.val (.int p0), .val (.int p1), .val (.int p2), .val (.int p3), .val (.int p4), .val (.int (p2 &&& (3 : Int32))), .val (.int (own_hl p2)), .val (.int (own_n0 p0)), .val (.int (own_n1 p0)), .val (.int (own_n2 p0)), .val (.int x0), .val (.int x1), .val (.int x2), .val (.int an), .val (.int pt), .val (.int hp), .val (.ref b1), .val (.int (f10 b5_r hp b2_r (own_str (p2 &&& (3 : Int32)) (own_n0 p0) (own_n1 p0) (own_n2 p0)) (own_str (own_hl p2) x0 x1 x2) pt)), .unset, .unset, .unset] [])) (fun t kt => ?_) ?_
                · show Steps p.tables e below (T6.setTop (mkF m 248 #[.val (.int p0), .val (.int p1), .val (.int p2), .val (.int p3), .val (.int p4), .val (.int (p2 &&& (3 : Int32))), .val (.int (own_hl p2)), .val (.int (own_n0 p0)), .val (.int (own_n1 p0)), .val (.int (own_n2 p0)), .val (.int x0), .val (.int x1), .val (.int x2), .val (.int an), .val (.int pt), .val (.int hp), .val (.ref b1), .val (.int (f10 b5_r hp b2_r (own_str (p2 &&& (3 : Int32)) (own_n0 p0) (own_n1 p0) (own_n2 p0)) (own_str (own_hl p2) x0 x1 x2) pt)), .unset, .unset, .unset] [(.int x2), (.int (own_n2 p0))])) t
                  refine XS.icmpNo X6.here hx rfl (hb hby at_248) rfl (teq hc248).2 ?_
                  exact kt
                refine OGW.step (F' := T6.setTop (mkF m 260 #[.val (.int p0), .val (.int p1), .val (.int p2), .val (.int p3), .val (.int p4), .val (.int (p2 &&& (3 : Int32))), .val (.int (own_hl p2)), .val (.int (own_n0 p0)), .val (.int (own_n1 p0)), .val (.int (own_n2 p0)), .val (.int x0), .val (.int x1), .val (.int x2), .val (.int an), .val (.int pt), .val (.int hp), .val (.ref b1), .val (.int (f10 b5_r hp b2_r (own_str (p2 &&& (3 : Int32)) (own_n0 p0) (own_n1 p0) (own_n2 p0)) (own_str (own_hl p2) x0 x1 x2) pt)), .val (.int (1 : Int32)), .unset, .unset] [(.int an)])) (fun t kt => ?_) ?_
                · show Steps p.tables e below (T6.setTop (mkF m 251 #[.val (.int p0), .val (.int p1), .val (.int p2), .val (.int p3), .val (.int p4), .val (.int (p2 &&& (3 : Int32))), .val (.int (own_hl p2)), .val (.int (own_n0 p0)), .val (.int (own_n1 p0)), .val (.int (own_n2 p0)), .val (.int x0), .val (.int x1), .val (.int x2), .val (.int an), .val (.int pt), .val (.int hp), .val (.ref b1), .val (.int (f10 b5_r hp b2_r (own_str (p2 &&& (3 : Int32)) (own_n0 p0) (own_n1 p0) (own_n2 p0)) (own_str (own_hl p2) x0 x1 x2) pt)), .unset, .unset, .unset] [])) t
                  refine XS.iconst X6.here hx rfl (hb hby at_251) ?_
                  refine XS.goto X6.here hx rfl (pc0 := 252) (pc' := 256) rfl (hb hby at_252) (by decide) (by decide) ?_
                  refine XS.istore X6.here hx rfl (hb hby at_256) rfl (l' := #[.val (.int p0), .val (.int p1), .val (.int p2), .val (.int p3), .val (.int p4), .val (.int (p2 &&& (3 : Int32))), .val (.int (own_hl p2)), .val (.int (own_n0 p0)), .val (.int (own_n1 p0)), .val (.int (own_n2 p0)), .val (.int x0), .val (.int x1), .val (.int x2), .val (.int an), .val (.int pt), .val (.int hp), .val (.ref b1), .val (.int (f10 b5_r hp b2_r (own_str (p2 &&& (3 : Int32)) (own_n0 p0) (own_n1 p0) (own_n2 p0)) (own_str (own_hl p2) x0 x1 x2) pt)), .val (.int (1 : Int32)), .unset, .unset]) rfl ?_
                  refine XS.iload X6.here hx rfl (hb hby at_258) rfl ?_
                  exact kt
                by_cases hc260 : an = (0 : Int32)
                · refine OGW.step (F' := T6.setTop (mkF m 263 #[.val (.int p0), .val (.int p1), .val (.int p2), .val (.int p3), .val (.int p4), .val (.int (p2 &&& (3 : Int32))), .val (.int (own_hl p2)), .val (.int (own_n0 p0)), .val (.int (own_n1 p0)), .val (.int (own_n2 p0)), .val (.int x0), .val (.int x1), .val (.int x2), .val (.int an), .val (.int pt), .val (.int hp), .val (.ref b1), .val (.int (f10 b5_r hp b2_r (own_str (p2 &&& (3 : Int32)) (own_n0 p0) (own_n1 p0) (own_n2 p0)) (own_str (own_hl p2) x0 x1 x2) pt)), .val (.int (1 : Int32)), .unset, .unset] [])) (fun t kt => ?_) ?_
                  · show Steps p.tables e below (T6.setTop (mkF m 260 #[.val (.int p0), .val (.int p1), .val (.int p2), .val (.int p3), .val (.int p4), .val (.int (p2 &&& (3 : Int32))), .val (.int (own_hl p2)), .val (.int (own_n0 p0)), .val (.int (own_n1 p0)), .val (.int (own_n2 p0)), .val (.int x0), .val (.int x1), .val (.int x2), .val (.int an), .val (.int pt), .val (.int hp), .val (.ref b1), .val (.int (f10 b5_r hp b2_r (own_str (p2 &&& (3 : Int32)) (own_n0 p0) (own_n1 p0) (own_n2 p0)) (own_str (own_hl p2) x0 x1 x2) pt)), .val (.int (1 : Int32)), .unset, .unset] [(.int an)])) t
                    refine XS.ifNo X6.here hx rfl (hb hby at_260) rfl ((if0 _ _).trans (teq hc260).2) ?_
                    exact kt
                  refine OGW.step (F' := T6.setTop (mkF m 267 #[.val (.int p0), .val (.int p1), .val (.int p2), .val (.int p3), .val (.int p4), .val (.int (p2 &&& (3 : Int32))), .val (.int (own_hl p2)), .val (.int (own_n0 p0)), .val (.int (own_n1 p0)), .val (.int (own_n2 p0)), .val (.int x0), .val (.int x1), .val (.int x2), .val (.int an), .val (.int pt), .val (.int hp), .val (.ref b1), .val (.int (f10 b5_r hp b2_r (own_str (p2 &&& (3 : Int32)) (own_n0 p0) (own_n1 p0) (own_n2 p0)) (own_str (own_hl p2) x0 x1 x2) pt)), .val (.int (1 : Int32)), .unset, .unset] [(.int hp), (.int pt)])) (fun t kt => ?_) ?_
                  · show Steps p.tables e below (T6.setTop (mkF m 263 #[.val (.int p0), .val (.int p1), .val (.int p2), .val (.int p3), .val (.int p4), .val (.int (p2 &&& (3 : Int32))), .val (.int (own_hl p2)), .val (.int (own_n0 p0)), .val (.int (own_n1 p0)), .val (.int (own_n2 p0)), .val (.int x0), .val (.int x1), .val (.int x2), .val (.int an), .val (.int pt), .val (.int hp), .val (.ref b1), .val (.int (f10 b5_r hp b2_r (own_str (p2 &&& (3 : Int32)) (own_n0 p0) (own_n1 p0) (own_n2 p0)) (own_str (own_hl p2) x0 x1 x2) pt)), .val (.int (1 : Int32)), .unset, .unset] [])) t
                    refine XS.iload X6.here hx rfl (hb hby at_263) rfl ?_
                    refine XS.iload X6.here hx rfl (hb hby at_265) rfl ?_
                    exact kt
                  by_cases hc267 : pt = hp
                  · refine OGW.step (F' := T6.setTop (mkF m 270 #[.val (.int p0), .val (.int p1), .val (.int p2), .val (.int p3), .val (.int p4), .val (.int (p2 &&& (3 : Int32))), .val (.int (own_hl p2)), .val (.int (own_n0 p0)), .val (.int (own_n1 p0)), .val (.int (own_n2 p0)), .val (.int x0), .val (.int x1), .val (.int x2), .val (.int an), .val (.int pt), .val (.int hp), .val (.ref b1), .val (.int (f10 b5_r hp b2_r (own_str (p2 &&& (3 : Int32)) (own_n0 p0) (own_n1 p0) (own_n2 p0)) (own_str (own_hl p2) x0 x1 x2) pt)), .val (.int (1 : Int32)), .unset, .unset] [])) (fun t kt => ?_) ?_
                    · show Steps p.tables e below (T6.setTop (mkF m 267 #[.val (.int p0), .val (.int p1), .val (.int p2), .val (.int p3), .val (.int p4), .val (.int (p2 &&& (3 : Int32))), .val (.int (own_hl p2)), .val (.int (own_n0 p0)), .val (.int (own_n1 p0)), .val (.int (own_n2 p0)), .val (.int x0), .val (.int x1), .val (.int x2), .val (.int an), .val (.int pt), .val (.int hp), .val (.ref b1), .val (.int (f10 b5_r hp b2_r (own_str (p2 &&& (3 : Int32)) (own_n0 p0) (own_n1 p0) (own_n2 p0)) (own_str (own_hl p2) x0 x1 x2) pt)), .val (.int (1 : Int32)), .unset, .unset] [(.int hp), (.int pt)])) t
                      refine XS.icmpNo X6.here hx rfl (hb hby at_267) rfl (teq hc267).2 ?_
                      exact kt
                    refine OGW.step (F' := T6.setTop (mkF m 306 #[.val (.int p0), .val (.int p1), .val (.int p2), .val (.int p3), .val (.int p4), .val (.int (p2 &&& (3 : Int32))), .val (.int (own_hl p2)), .val (.int (own_n0 p0)), .val (.int (own_n1 p0)), .val (.int (own_n2 p0)), .val (.int x0), .val (.int x1), .val (.int x2), .val (.int an), .val (.int pt), .val (.int hp), .val (.ref b1), .val (.int (f10 b5_r hp b2_r (own_str (p2 &&& (3 : Int32)) (own_n0 p0) (own_n1 p0) (own_n2 p0)) (own_str (own_hl p2) x0 x1 x2) pt)), .val (.int (1 : Int32)), .val (.int (1 : Int32)), .val (.int (1 : Int32))] [(.int (1 : Int32))])) (fun t kt => ?_) ?_
                    · show Steps p.tables e below (T6.setTop (mkF m 270 #[.val (.int p0), .val (.int p1), .val (.int p2), .val (.int p3), .val (.int p4), .val (.int (p2 &&& (3 : Int32))), .val (.int (own_hl p2)), .val (.int (own_n0 p0)), .val (.int (own_n1 p0)), .val (.int (own_n2 p0)), .val (.int x0), .val (.int x1), .val (.int x2), .val (.int an), .val (.int pt), .val (.int hp), .val (.ref b1), .val (.int (f10 b5_r hp b2_r (own_str (p2 &&& (3 : Int32)) (own_n0 p0) (own_n1 p0) (own_n2 p0)) (own_str (own_hl p2) x0 x1 x2) pt)), .val (.int (1 : Int32)), .unset, .unset] [])) t
                      refine XS.iconst X6.here hx rfl (hb hby at_270) ?_
                      refine XS.goto X6.here hx rfl (pc0 := 271) (pc' := 275) rfl (hb hby at_271) (by decide) (by decide) ?_
                      refine XS.istore X6.here hx rfl (hb hby at_275) rfl (l' := #[.val (.int p0), .val (.int p1), .val (.int p2), .val (.int p3), .val (.int p4), .val (.int (p2 &&& (3 : Int32))), .val (.int (own_hl p2)), .val (.int (own_n0 p0)), .val (.int (own_n1 p0)), .val (.int (own_n2 p0)), .val (.int x0), .val (.int x1), .val (.int x2), .val (.int an), .val (.int pt), .val (.int hp), .val (.ref b1), .val (.int (f10 b5_r hp b2_r (own_str (p2 &&& (3 : Int32)) (own_n0 p0) (own_n1 p0) (own_n2 p0)) (own_str (own_hl p2) x0 x1 x2) pt)), .val (.int (1 : Int32)), .val (.int (1 : Int32)), .unset]) rfl ?_
                      refine XS.iload X6.here hx rfl (hb hby at_277) rfl ?_
                      refine XS.ifNo X6.here hx rfl (hb hby at_279) rfl ((if0 _ _).trans (feq (by decide : ¬ ((1 : Int32) = (0 : Int32)))).1) ?_
                      refine XS.iload X6.here hx rfl (hb hby at_282) rfl ?_
                      refine XS.ifNo X6.here hx rfl (hb hby at_284) rfl ((if0 _ _).trans (feq (by decide : ¬ ((1 : Int32) = (0 : Int32)))).1) ?_
                      refine XS.iconst X6.here hx rfl (hb hby at_287) ?_
                      refine XS.goto X6.here hx rfl (pc0 := 288) (pc' := 292) rfl (hb hby at_288) (by decide) (by decide) ?_
                      refine XS.istore X6.here hx rfl (hb hby at_292) rfl (l' := #[.val (.int p0), .val (.int p1), .val (.int p2), .val (.int p3), .val (.int p4), .val (.int (p2 &&& (3 : Int32))), .val (.int (own_hl p2)), .val (.int (own_n0 p0)), .val (.int (own_n1 p0)), .val (.int (own_n2 p0)), .val (.int x0), .val (.int x1), .val (.int x2), .val (.int an), .val (.int pt), .val (.int hp), .val (.ref b1), .val (.int (f10 b5_r hp b2_r (own_str (p2 &&& (3 : Int32)) (own_n0 p0) (own_n1 p0) (own_n2 p0)) (own_str (own_hl p2) x0 x1 x2) pt)), .val (.int (1 : Int32)), .val (.int (1 : Int32)), .val (.int (1 : Int32))]) rfl ?_
                      refine XS.iload X6.here hx rfl (hb hby at_294) rfl ?_
                      refine XS.iload X6.here hx rfl (hb hby at_296) rfl ?_
                      refine XS.icmpNo X6.here hx rfl (hb hby at_298) rfl (teq ((own_fin _ _ (Nat.ne_of_lt (Nat.lt_of_lt_of_le (P2_0.keep K4).lt szo_b5_r)) _ _ _ _ _ _ _ _ _ _ _ (own_nl _) (own_nl _) (own_rn0 _) (own_rn1 _) (own_rn2 _) hx0 hx1 hx2 hap).1 ⟨⟨hc209, Or.inl hc215, Or.inr hc235, Or.inr hc248⟩, Or.inr hc267⟩)).2 ?_
                      refine XS.iconst X6.here hx rfl (hb hby at_301) ?_
                      refine XS.goto X6.here hx rfl (pc0 := 302) (pc' := 306) rfl (hb hby at_302) (by decide) (by decide) ?_
                      exact kt
                    refine OGW.retZ X6 hx hlk hS hk hZ hEL CR e6 (t := .boolean) (z' := (1 : Int32)) hret (by simp) (hb hby at_306) rfl ?_ (by decide) (by decide)
                    show Q0 Z p0 p1 p2 p3 p4 w_COMPACT_STRINGS h0 n0 _ T6.heap _
                    rw [e6]
                    exact ⟨rfl, N6, KC5⟩
                  · refine OGW.step (F' := T6.setTop (mkF m 274 #[.val (.int p0), .val (.int p1), .val (.int p2), .val (.int p3), .val (.int p4), .val (.int (p2 &&& (3 : Int32))), .val (.int (own_hl p2)), .val (.int (own_n0 p0)), .val (.int (own_n1 p0)), .val (.int (own_n2 p0)), .val (.int x0), .val (.int x1), .val (.int x2), .val (.int an), .val (.int pt), .val (.int hp), .val (.ref b1), .val (.int (f10 b5_r hp b2_r (own_str (p2 &&& (3 : Int32)) (own_n0 p0) (own_n1 p0) (own_n2 p0)) (own_str (own_hl p2) x0 x1 x2) pt)), .val (.int (1 : Int32)), .unset, .unset] [])) (fun t kt => ?_) ?_
                    · show Steps p.tables e below (T6.setTop (mkF m 267 #[.val (.int p0), .val (.int p1), .val (.int p2), .val (.int p3), .val (.int p4), .val (.int (p2 &&& (3 : Int32))), .val (.int (own_hl p2)), .val (.int (own_n0 p0)), .val (.int (own_n1 p0)), .val (.int (own_n2 p0)), .val (.int x0), .val (.int x1), .val (.int x2), .val (.int an), .val (.int pt), .val (.int hp), .val (.ref b1), .val (.int (f10 b5_r hp b2_r (own_str (p2 &&& (3 : Int32)) (own_n0 p0) (own_n1 p0) (own_n2 p0)) (own_str (own_hl p2) x0 x1 x2) pt)), .val (.int (1 : Int32)), .unset, .unset] [(.int hp), (.int pt)])) t
                      refine XS.icmpYes X6.here hx rfl (pc0 := 267) (pc' := 274) rfl (hb hby at_267) rfl (feq hc267).2 (by decide) (by decide) ?_
                      exact kt
                    refine OGW.step (F' := T6.setTop (mkF m 306 #[.val (.int p0), .val (.int p1), .val (.int p2), .val (.int p3), .val (.int p4), .val (.int (p2 &&& (3 : Int32))), .val (.int (own_hl p2)), .val (.int (own_n0 p0)), .val (.int (own_n1 p0)), .val (.int (own_n2 p0)), .val (.int x0), .val (.int x1), .val (.int x2), .val (.int an), .val (.int pt), .val (.int hp), .val (.ref b1), .val (.int (f10 b5_r hp b2_r (own_str (p2 &&& (3 : Int32)) (own_n0 p0) (own_n1 p0) (own_n2 p0)) (own_str (own_hl p2) x0 x1 x2) pt)), .val (.int (1 : Int32)), .val (.int (0 : Int32)), .val (.int (0 : Int32))] [(.int (1 : Int32))])) (fun t kt => ?_) ?_
                    · show Steps p.tables e below (T6.setTop (mkF m 274 #[.val (.int p0), .val (.int p1), .val (.int p2), .val (.int p3), .val (.int p4), .val (.int (p2 &&& (3 : Int32))), .val (.int (own_hl p2)), .val (.int (own_n0 p0)), .val (.int (own_n1 p0)), .val (.int (own_n2 p0)), .val (.int x0), .val (.int x1), .val (.int x2), .val (.int an), .val (.int pt), .val (.int hp), .val (.ref b1), .val (.int (f10 b5_r hp b2_r (own_str (p2 &&& (3 : Int32)) (own_n0 p0) (own_n1 p0) (own_n2 p0)) (own_str (own_hl p2) x0 x1 x2) pt)), .val (.int (1 : Int32)), .unset, .unset] [])) t
                      refine XS.iconst X6.here hx rfl (hb hby at_274) ?_
                      refine XS.istore X6.here hx rfl (hb hby at_275) rfl (l' := #[.val (.int p0), .val (.int p1), .val (.int p2), .val (.int p3), .val (.int p4), .val (.int (p2 &&& (3 : Int32))), .val (.int (own_hl p2)), .val (.int (own_n0 p0)), .val (.int (own_n1 p0)), .val (.int (own_n2 p0)), .val (.int x0), .val (.int x1), .val (.int x2), .val (.int an), .val (.int pt), .val (.int hp), .val (.ref b1), .val (.int (f10 b5_r hp b2_r (own_str (p2 &&& (3 : Int32)) (own_n0 p0) (own_n1 p0) (own_n2 p0)) (own_str (own_hl p2) x0 x1 x2) pt)), .val (.int (1 : Int32)), .val (.int (0 : Int32)), .unset]) rfl ?_
                      refine XS.iload X6.here hx rfl (hb hby at_277) rfl ?_
                      refine XS.ifNo X6.here hx rfl (hb hby at_279) rfl ((if0 _ _).trans (feq (by decide : ¬ ((1 : Int32) = (0 : Int32)))).1) ?_
                      refine XS.iload X6.here hx rfl (hb hby at_282) rfl ?_
                      refine XS.ifYes X6.here hx rfl (pc0 := 284) (pc' := 291) rfl (hb hby at_284) rfl ((if0 _ _).trans (teq (by decide : (0 : Int32) = (0 : Int32))).1) (by decide) (by decide) ?_
                      refine XS.iconst X6.here hx rfl (hb hby at_291) ?_
                      refine XS.istore X6.here hx rfl (hb hby at_292) rfl (l' := #[.val (.int p0), .val (.int p1), .val (.int p2), .val (.int p3), .val (.int p4), .val (.int (p2 &&& (3 : Int32))), .val (.int (own_hl p2)), .val (.int (own_n0 p0)), .val (.int (own_n1 p0)), .val (.int (own_n2 p0)), .val (.int x0), .val (.int x1), .val (.int x2), .val (.int an), .val (.int pt), .val (.int hp), .val (.ref b1), .val (.int (f10 b5_r hp b2_r (own_str (p2 &&& (3 : Int32)) (own_n0 p0) (own_n1 p0) (own_n2 p0)) (own_str (own_hl p2) x0 x1 x2) pt)), .val (.int (1 : Int32)), .val (.int (0 : Int32)), .val (.int (0 : Int32))]) rfl ?_
                      refine XS.iload X6.here hx rfl (hb hby at_294) rfl ?_
                      refine XS.iload X6.here hx rfl (hb hby at_296) rfl ?_
                      refine XS.icmpNo X6.here hx rfl (hb hby at_298) rfl (teq ((own_fin _ _ (Nat.ne_of_lt (Nat.lt_of_lt_of_le (P2_0.keep K4).lt szo_b5_r)) _ _ _ _ _ _ _ _ _ _ _ (own_nl _) (own_nl _) (own_rn0 _) (own_rn1 _) (own_rn2 _) hx0 hx1 hx2 hap).2 (fun q => q.2.elim (fun z => z hc260) hc267))).2 ?_
                      refine XS.iconst X6.here hx rfl (hb hby at_301) ?_
                      refine XS.goto X6.here hx rfl (pc0 := 302) (pc' := 306) rfl (hb hby at_302) (by decide) (by decide) ?_
                      exact kt
                    refine OGW.retZ X6 hx hlk hS hk hZ hEL CR e6 (t := .boolean) (z' := (1 : Int32)) hret (by simp) (hb hby at_306) rfl ?_ (by decide) (by decide)
                    show Q0 Z p0 p1 p2 p3 p4 w_COMPACT_STRINGS h0 n0 _ T6.heap _
                    rw [e6]
                    exact ⟨rfl, N6, KC5⟩
                · refine OGW.step (F' := T6.setTop (mkF m 270 #[.val (.int p0), .val (.int p1), .val (.int p2), .val (.int p3), .val (.int p4), .val (.int (p2 &&& (3 : Int32))), .val (.int (own_hl p2)), .val (.int (own_n0 p0)), .val (.int (own_n1 p0)), .val (.int (own_n2 p0)), .val (.int x0), .val (.int x1), .val (.int x2), .val (.int an), .val (.int pt), .val (.int hp), .val (.ref b1), .val (.int (f10 b5_r hp b2_r (own_str (p2 &&& (3 : Int32)) (own_n0 p0) (own_n1 p0) (own_n2 p0)) (own_str (own_hl p2) x0 x1 x2) pt)), .val (.int (1 : Int32)), .unset, .unset] [])) (fun t kt => ?_) ?_
                  · show Steps p.tables e below (T6.setTop (mkF m 260 #[.val (.int p0), .val (.int p1), .val (.int p2), .val (.int p3), .val (.int p4), .val (.int (p2 &&& (3 : Int32))), .val (.int (own_hl p2)), .val (.int (own_n0 p0)), .val (.int (own_n1 p0)), .val (.int (own_n2 p0)), .val (.int x0), .val (.int x1), .val (.int x2), .val (.int an), .val (.int pt), .val (.int hp), .val (.ref b1), .val (.int (f10 b5_r hp b2_r (own_str (p2 &&& (3 : Int32)) (own_n0 p0) (own_n1 p0) (own_n2 p0)) (own_str (own_hl p2) x0 x1 x2) pt)), .val (.int (1 : Int32)), .unset, .unset] [(.int an)])) t
                    refine XS.ifYes X6.here hx rfl (pc0 := 260) (pc' := 270) rfl (hb hby at_260) rfl ((if0 _ _).trans (feq hc260).2) (by decide) (by decide) ?_
                    exact kt
                  refine OGW.step (F' := T6.setTop (mkF m 306 #[.val (.int p0), .val (.int p1), .val (.int p2), .val (.int p3), .val (.int p4), .val (.int (p2 &&& (3 : Int32))), .val (.int (own_hl p2)), .val (.int (own_n0 p0)), .val (.int (own_n1 p0)), .val (.int (own_n2 p0)), .val (.int x0), .val (.int x1), .val (.int x2), .val (.int an), .val (.int pt), .val (.int hp), .val (.ref b1), .val (.int (f10 b5_r hp b2_r (own_str (p2 &&& (3 : Int32)) (own_n0 p0) (own_n1 p0) (own_n2 p0)) (own_str (own_hl p2) x0 x1 x2) pt)), .val (.int (1 : Int32)), .val (.int (1 : Int32)), .val (.int (1 : Int32))] [(.int (1 : Int32))])) (fun t kt => ?_) ?_
                  · show Steps p.tables e below (T6.setTop (mkF m 270 #[.val (.int p0), .val (.int p1), .val (.int p2), .val (.int p3), .val (.int p4), .val (.int (p2 &&& (3 : Int32))), .val (.int (own_hl p2)), .val (.int (own_n0 p0)), .val (.int (own_n1 p0)), .val (.int (own_n2 p0)), .val (.int x0), .val (.int x1), .val (.int x2), .val (.int an), .val (.int pt), .val (.int hp), .val (.ref b1), .val (.int (f10 b5_r hp b2_r (own_str (p2 &&& (3 : Int32)) (own_n0 p0) (own_n1 p0) (own_n2 p0)) (own_str (own_hl p2) x0 x1 x2) pt)), .val (.int (1 : Int32)), .unset, .unset] [])) t
                    refine XS.iconst X6.here hx rfl (hb hby at_270) ?_
                    refine XS.goto X6.here hx rfl (pc0 := 271) (pc' := 275) rfl (hb hby at_271) (by decide) (by decide) ?_
                    refine XS.istore X6.here hx rfl (hb hby at_275) rfl (l' := #[.val (.int p0), .val (.int p1), .val (.int p2), .val (.int p3), .val (.int p4), .val (.int (p2 &&& (3 : Int32))), .val (.int (own_hl p2)), .val (.int (own_n0 p0)), .val (.int (own_n1 p0)), .val (.int (own_n2 p0)), .val (.int x0), .val (.int x1), .val (.int x2), .val (.int an), .val (.int pt), .val (.int hp), .val (.ref b1), .val (.int (f10 b5_r hp b2_r (own_str (p2 &&& (3 : Int32)) (own_n0 p0) (own_n1 p0) (own_n2 p0)) (own_str (own_hl p2) x0 x1 x2) pt)), .val (.int (1 : Int32)), .val (.int (1 : Int32)), .unset]) rfl ?_
                    refine XS.iload X6.here hx rfl (hb hby at_277) rfl ?_
                    refine XS.ifNo X6.here hx rfl (hb hby at_279) rfl ((if0 _ _).trans (feq (by decide : ¬ ((1 : Int32) = (0 : Int32)))).1) ?_
                    refine XS.iload X6.here hx rfl (hb hby at_282) rfl ?_
                    refine XS.ifNo X6.here hx rfl (hb hby at_284) rfl ((if0 _ _).trans (feq (by decide : ¬ ((1 : Int32) = (0 : Int32)))).1) ?_
                    refine XS.iconst X6.here hx rfl (hb hby at_287) ?_
                    refine XS.goto X6.here hx rfl (pc0 := 288) (pc' := 292) rfl (hb hby at_288) (by decide) (by decide) ?_
                    refine XS.istore X6.here hx rfl (hb hby at_292) rfl (l' := #[.val (.int p0), .val (.int p1), .val (.int p2), .val (.int p3), .val (.int p4), .val (.int (p2 &&& (3 : Int32))), .val (.int (own_hl p2)), .val (.int (own_n0 p0)), .val (.int (own_n1 p0)), .val (.int (own_n2 p0)), .val (.int x0), .val (.int x1), .val (.int x2), .val (.int an), .val (.int pt), .val (.int hp), .val (.ref b1), .val (.int (f10 b5_r hp b2_r (own_str (p2 &&& (3 : Int32)) (own_n0 p0) (own_n1 p0) (own_n2 p0)) (own_str (own_hl p2) x0 x1 x2) pt)), .val (.int (1 : Int32)), .val (.int (1 : Int32)), .val (.int (1 : Int32))]) rfl ?_
                    refine XS.iload X6.here hx rfl (hb hby at_294) rfl ?_
                    refine XS.iload X6.here hx rfl (hb hby at_296) rfl ?_
                    refine XS.icmpNo X6.here hx rfl (hb hby at_298) rfl (teq ((own_fin _ _ (Nat.ne_of_lt (Nat.lt_of_lt_of_le (P2_0.keep K4).lt szo_b5_r)) _ _ _ _ _ _ _ _ _ _ _ (own_nl _) (own_nl _) (own_rn0 _) (own_rn1 _) (own_rn2 _) hx0 hx1 hx2 hap).1 ⟨⟨hc209, Or.inl hc215, Or.inr hc235, Or.inr hc248⟩, Or.inl hc260⟩)).2 ?_
                    refine XS.iconst X6.here hx rfl (hb hby at_301) ?_
                    refine XS.goto X6.here hx rfl (pc0 := 302) (pc' := 306) rfl (hb hby at_302) (by decide) (by decide) ?_
                    exact kt
                  refine OGW.retZ X6 hx hlk hS hk hZ hEL CR e6 (t := .boolean) (z' := (1 : Int32)) hret (by simp) (hb hby at_306) rfl ?_ (by decide) (by decide)
                  show Q0 Z p0 p1 p2 p3 p4 w_COMPACT_STRINGS h0 n0 _ T6.heap _
                  rw [e6]
                  exact ⟨rfl, N6, KC5⟩
              · refine OGW.step (F' := T6.setTop (mkF m 255 #[.val (.int p0), .val (.int p1), .val (.int p2), .val (.int p3), .val (.int p4), .val (.int (p2 &&& (3 : Int32))), .val (.int (own_hl p2)), .val (.int (own_n0 p0)), .val (.int (own_n1 p0)), .val (.int (own_n2 p0)), .val (.int x0), .val (.int x1), .val (.int x2), .val (.int an), .val (.int pt), .val (.int hp), .val (.ref b1), .val (.int (f10 b5_r hp b2_r (own_str (p2 &&& (3 : Int32)) (own_n0 p0) (own_n1 p0) (own_n2 p0)) (own_str (own_hl p2) x0 x1 x2) pt)), .unset, .unset, .unset] [])) (fun t kt => ?_) ?_
                · show Steps p.tables e below (T6.setTop (mkF m 248 #[.val (.int p0), .val (.int p1), .val (.int p2), .val (.int p3), .val (.int p4), .val (.int (p2 &&& (3 : Int32))), .val (.int (own_hl p2)), .val (.int (own_n0 p0)), .val (.int (own_n1 p0)), .val (.int (own_n2 p0)), .val (.int x0), .val (.int x1), .val (.int x2), .val (.int an), .val (.int pt), .val (.int hp), .val (.ref b1), .val (.int (f10 b5_r hp b2_r (own_str (p2 &&& (3 : Int32)) (own_n0 p0) (own_n1 p0) (own_n2 p0)) (own_str (own_hl p2) x0 x1 x2) pt)), .unset, .unset, .unset] [(.int x2), (.int (own_n2 p0))])) t
                  refine XS.icmpYes X6.here hx rfl (pc0 := 248) (pc' := 255) rfl (hb hby at_248) rfl (feq hc248).2 (by decide) (by decide) ?_
                  exact kt
                refine OGW.step (F' := T6.setTop (mkF m 260 #[.val (.int p0), .val (.int p1), .val (.int p2), .val (.int p3), .val (.int p4), .val (.int (p2 &&& (3 : Int32))), .val (.int (own_hl p2)), .val (.int (own_n0 p0)), .val (.int (own_n1 p0)), .val (.int (own_n2 p0)), .val (.int x0), .val (.int x1), .val (.int x2), .val (.int an), .val (.int pt), .val (.int hp), .val (.ref b1), .val (.int (f10 b5_r hp b2_r (own_str (p2 &&& (3 : Int32)) (own_n0 p0) (own_n1 p0) (own_n2 p0)) (own_str (own_hl p2) x0 x1 x2) pt)), .val (.int (0 : Int32)), .unset, .unset] [(.int an)])) (fun t kt => ?_) ?_
                · show Steps p.tables e below (T6.setTop (mkF m 255 #[.val (.int p0), .val (.int p1), .val (.int p2), .val (.int p3), .val (.int p4), .val (.int (p2 &&& (3 : Int32))), .val (.int (own_hl p2)), .val (.int (own_n0 p0)), .val (.int (own_n1 p0)), .val (.int (own_n2 p0)), .val (.int x0), .val (.int x1), .val (.int x2), .val (.int an), .val (.int pt), .val (.int hp), .val (.ref b1), .val (.int (f10 b5_r hp b2_r (own_str (p2 &&& (3 : Int32)) (own_n0 p0) (own_n1 p0) (own_n2 p0)) (own_str (own_hl p2) x0 x1 x2) pt)), .unset, .unset, .unset] [])) t
                  refine XS.iconst X6.here hx rfl (hb hby at_255) ?_
                  refine XS.istore X6.here hx rfl (hb hby at_256) rfl (l' := #[.val (.int p0), .val (.int p1), .val (.int p2), .val (.int p3), .val (.int p4), .val (.int (p2 &&& (3 : Int32))), .val (.int (own_hl p2)), .val (.int (own_n0 p0)), .val (.int (own_n1 p0)), .val (.int (own_n2 p0)), .val (.int x0), .val (.int x1), .val (.int x2), .val (.int an), .val (.int pt), .val (.int hp), .val (.ref b1), .val (.int (f10 b5_r hp b2_r (own_str (p2 &&& (3 : Int32)) (own_n0 p0) (own_n1 p0) (own_n2 p0)) (own_str (own_hl p2) x0 x1 x2) pt)), .val (.int (0 : Int32)), .unset, .unset]) rfl ?_
                  refine XS.iload X6.here hx rfl (hb hby at_258) rfl ?_
                  exact kt
                by_cases hc260 : an = (0 : Int32)
                · refine OGW.step (F' := T6.setTop (mkF m 263 #[.val (.int p0), .val (.int p1), .val (.int p2), .val (.int p3), .val (.int p4), .val (.int (p2 &&& (3 : Int32))), .val (.int (own_hl p2)), .val (.int (own_n0 p0)), .val (.int (own_n1 p0)), .val (.int (own_n2 p0)), .val (.int x0), .val (.int x1), .val (.int x2), .val (.int an), .val (.int pt), .val (.int hp), .val (.ref b1), .val (.int (f10 b5_r hp b2_r (own_str (p2 &&& (3 : Int32)) (own_n0 p0) (own_n1 p0) (own_n2 p0)) (own_str (own_hl p2) x0 x1 x2) pt)), .val (.int (0 : Int32)), .unset, .unset] [])) (fun t kt => ?_) ?_
                  · show Steps p.tables e below (T6.setTop (mkF m 260 #[.val (.int p0), .val (.int p1), .val (.int p2), .val (.int p3), .val (.int p4), .val (.int (p2 &&& (3 : Int32))), .val (.int (own_hl p2)), .val (.int (own_n0 p0)), .val (.int (own_n1 p0)), .val (.int (own_n2 p0)), .val (.int x0), .val (.int x1), .val (.int x2), .val (.int an), .val (.int pt), .val (.int hp), .val (.ref b1), .val (.int (f10 b5_r hp b2_r (own_str (p2 &&& (3 : Int32)) (own_n0 p0) (own_n1 p0) (own_n2 p0)) (own_str (own_hl p2) x0 x1 x2) pt)), .val (.int (0 : Int32)), .unset, .unset] [(.int an)])) t
                    refine XS.ifNo X6.here hx rfl (hb hby at_260) rfl ((if0 _ _).trans (teq hc260).2) ?_
                    exact kt
                  refine OGW.step (F' := T6.setTop (mkF m 267 #[.val (.int p0), .val (.int p1), .val (.int p2), .val (.int p3), .val (.int p4), .val (.int (p2 &&& (3 : Int32))), .val (.int (own_hl p2)), .val (.int (own_n0 p0)), .val (.int (own_n1 p0)), .val (.int (own_n2 p0)), .val (.int x0), .val (.int x1), .val (.int x2), .val (.int an), .val (.int pt), .val (.int hp), .val (.ref b1), .val (.int (f10 b5_r hp b2_r (own_str (p2 &&& (3 : Int32)) (own_n0 p0) (own_n1 p0) (own_n2 p0)) (own_str (own_hl p2) x0 x1 x2) pt)), .val (.int (0 : Int32)), .unset, .unset] [(.int hp), (.int pt)])) (fun t kt => ?_) ?_
                  · show Steps p.tables e below (T6.setTop (mkF m 263 #[.val (.int p0), .val (.int p1), .val (.int p2), .val (.int p3), .val (.int p4), .val (.int (p2 &&& (3 : Int32))), .val (.int (own_hl p2)), .val (.int (own_n0 p0)), .val (.int (own_n1 p0)), .val (.int (own_n2 p0)), .val (.int x0), .val (.int x1), .val (.int x2), .val (.int an), .val (.int pt), .val (.int hp), .val (.ref b1), .val (.int (f10 b5_r hp b2_r (own_str (p2 &&& (3 : Int32)) (own_n0 p0) (own_n1 p0) (own_n2 p0)) (own_str (own_hl p2) x0 x1 x2) pt)), .val (.int (0 : Int32)), .unset, .unset] [])) t
                    refine XS.iload X6.here hx rfl (hb hby at_263) rfl ?_
                    refine XS.iload X6.here hx rfl (hb hby at_265) rfl ?_
                    exact kt
                  by_cases hc267 : pt = hp
                  · refine OGW.step (F' := T6.setTop (mkF m 270 #[.val (.int p0), .val (.int p1), .val (.int p2), .val (.int p3), .val (.int p4), .val (.int (p2 &&& (3 : Int32))), .val (.int (own_hl p2)), .val (.int (own_n0 p0)), .val (.int (own_n1 p0)), .val (.int (own_n2 p0)), .val (.int x0), .val (.int x1), .val (.int x2), .val (.int an), .val (.int pt), .val (.int hp), .val (.ref b1), .val (.int (f10 b5_r hp b2_r (own_str (p2 &&& (3 : Int32)) (own_n0 p0) (own_n1 p0) (own_n2 p0)) (own_str (own_hl p2) x0 x1 x2) pt)), .val (.int (0 : Int32)), .unset, .unset] [])) (fun t kt => ?_) ?_
                    · show Steps p.tables e below (T6.setTop (mkF m 267 #[.val (.int p0), .val (.int p1), .val (.int p2), .val (.int p3), .val (.int p4), .val (.int (p2 &&& (3 : Int32))), .val (.int (own_hl p2)), .val (.int (own_n0 p0)), .val (.int (own_n1 p0)), .val (.int (own_n2 p0)), .val (.int x0), .val (.int x1), .val (.int x2), .val (.int an), .val (.int pt), .val (.int hp), .val (.ref b1), .val (.int (f10 b5_r hp b2_r (own_str (p2 &&& (3 : Int32)) (own_n0 p0) (own_n1 p0) (own_n2 p0)) (own_str (own_hl p2) x0 x1 x2) pt)), .val (.int (0 : Int32)), .unset, .unset] [(.int hp), (.int pt)])) t
                      refine XS.icmpNo X6.here hx rfl (hb hby at_267) rfl (teq hc267).2 ?_
                      exact kt
                    refine OGW.step (F' := T6.setTop (mkF m 306 #[.val (.int p0), .val (.int p1), .val (.int p2), .val (.int p3), .val (.int p4), .val (.int (p2 &&& (3 : Int32))), .val (.int (own_hl p2)), .val (.int (own_n0 p0)), .val (.int (own_n1 p0)), .val (.int (own_n2 p0)), .val (.int x0), .val (.int x1), .val (.int x2), .val (.int an), .val (.int pt), .val (.int hp), .val (.ref b1), .val (.int (f10 b5_r hp b2_r (own_str (p2 &&& (3 : Int32)) (own_n0 p0) (own_n1 p0) (own_n2 p0)) (own_str (own_hl p2) x0 x1 x2) pt)), .val (.int (0 : Int32)), .val (.int (1 : Int32)), .val (.int (0 : Int32))] [(.int (1 : Int32))])) (fun t kt => ?_) ?_
                    · show Steps p.tables e below (T6.setTop (mkF m 270 #[.val (.int p0), .val (.int p1), .val (.int p2), .val (.int p3), .val (.int p4), .val (.int (p2 &&& (3 : Int32))), .val (.int (own_hl p2)), .val (.int (own_n0 p0)), .val (.int (own_n1 p0)), .val (.int (own_n2 p0)), .val (.int x0), .val (.int x1), .val (.int x2), .val (.int an), .val (.int pt), .val (.int hp), .val (.ref b1), .val (.int (f10 b5_r hp b2_r (own_str (p2 &&& (3 : Int32)) (own_n0 p0) (own_n1 p0) (own_n2 p0)) (own_str (own_hl p2) x0 x1 x2) pt)), .val (.int (0 : Int32)), .unset, .unset] [])) t
                      refine XS.iconst X6.here hx rfl (hb hby at_270) ?_
                      refine XS.goto X6.here hx rfl (pc0 := 271) (pc' := 275) rfl (hb hby at_271) (by decide) (by decide) ?_
                      refine XS.istore X6.here hx rfl (hb hby at_275) rfl (l' := #[.val (.int p0), .val (.int p1), .val (.int p2), .val (.int p3), .val (.int p4), .val (.int (p2 &&& (3 : Int32))), .val (.int (own_hl p2)), .val (.int (own_n0 p0)), .val (.int (own_n1 p0)), .val (.int (own_n2 p0)), .val (.int x0), .val (.int x1), .val (.int x2), .val (.int an), .val (.int pt), .val (.int hp), .val (.ref b1), .val (.int (f10 b5_r hp b2_r (own_str (p2 &&& (3 : Int32)) (own_n0 p0) (own_n1 p0) (own_n2 p0)) (own_str (own_hl p2) x0 x1 x2) pt)), .val (.int (0 : Int32)), .val (.int (1 : Int32)), .unset]) rfl ?_
                      refine XS.iload X6.here hx rfl (hb hby at_277) rfl ?_
                      refine XS.ifYes X6.here hx rfl (pc0 := 279) (pc' := 291) rfl (hb hby at_279) rfl ((if0 _ _).trans (teq (by decide : (0 : Int32) = (0 : Int32))).1) (by decide) (by decide) ?_
                      refine XS.iconst X6.here hx rfl (hb hby at_291) ?_
                      refine XS.istore X6.here hx rfl (hb hby at_292) rfl (l' := #[.val (.int p0), .val (.int p1), .val (.int p2), .val (.int p3), .val (.int p4), .val (.int (p2 &&& (3 : Int32))), .val (.int (own_hl p2)), .val (.int (own_n0 p0)), .val (.int (own_n1 p0)), .val (.int (own_n2 p0)), .val (.int x0), .val (.int x1), .val (.int x2), .val (.int an), .val (.int pt), .val (.int hp), .val (.ref b1), .val (.int (f10 b5_r hp b2_r (own_str (p2 &&& (3 : Int32)) (own_n0 p0) (own_n1 p0) (own_n2 p0)) (own_str (own_hl p2) x0 x1 x2) pt)), .val (.int (0 : Int32)), .val (.int (1 : Int32)), .val (.int (0 : Int32))]) rfl ?_
                      refine XS.iload X6.here hx rfl (hb hby at_294) rfl ?_
                      refine XS.iload X6.here hx rfl (hb hby at_296) rfl ?_
                      refine XS.icmpNo X6.here hx rfl (hb hby at_298) rfl (teq ((own_fin _ _ (Nat.ne_of_lt (Nat.lt_of_lt_of_le (P2_0.keep K4).lt szo_b5_r)) _ _ _ _ _ _ _ _ _ _ _ (own_nl _) (own_nl _) (own_rn0 _) (own_rn1 _) (own_rn2 _) hx0 hx1 hx2 hap).2 (fun q => q.1.2.2.2.elim hc241 hc248))).2 ?_
                      refine XS.iconst X6.here hx rfl (hb hby at_301) ?_
                      refine XS.goto X6.here hx rfl (pc0 := 302) (pc' := 306) rfl (hb hby at_302) (by decide) (by decide) ?_
                      exact kt
                    refine OGW.retZ X6 hx hlk hS hk hZ hEL CR e6 (t := .boolean) (z' := (1 : Int32)) hret (by simp) (hb hby at_306) rfl ?_ (by decide) (by decide)
                    show Q0 Z p0 p1 p2 p3 p4 w_COMPACT_STRINGS h0 n0 _ T6.heap _
                    rw [e6]
                    exact ⟨rfl, N6, KC5⟩
                  · refine OGW.step (F' := T6.setTop (mkF m 274 #[.val (.int p0), .val (.int p1), .val (.int p2), .val (.int p3), .val (.int p4), .val (.int (p2 &&& (3 : Int32))), .val (.int (own_hl p2)), .val (.int (own_n0 p0)), .val (.int (own_n1 p0)), .val (.int (own_n2 p0)), .val (.int x0), .val (.int x1), .val (.int x2), .val (.int an), .val (.int pt), .val (.int hp), .val (.ref b1), .val (.int (f10 b5_r hp b2_r (own_str (p2 &&& (3 : Int32)) (own_n0 p0) (own_n1 p0) (own_n2 p0)) (own_str (own_hl p2) x0 x1 x2) pt)), .val (.int (0 : Int32)), .unset, .unset] [])) (fun t kt => ?_) ?_
                    · show Steps p.tables e below (T6.setTop (mkF m 267 #[.val (.int p0), .val (.int p1), .val (.int p2), .val (.int p3), .val (.int p4), .val (.int (p2 &&& (3 : Int32))), .val (.int (own_hl p2)), .val (.int (own_n0 p0)), .val (.int (own_n1 p0)), .val (.int (own_n2 p0)), .val (.int x0), .val (.int x1), .val (.int x2), .val (.int an), .val (.int pt), .val (.int hp), .val (.ref b1), .val (.int (f10 b5_r hp b2_r (own_str (p2 &&& (3 : Int32)) (own_n0 p0) (own_n1 p0) (own_n2 p0)) (own_str (own_hl p2) x0 x1 x2) pt)), .val (.int (0 : Int32)), .unset, .unset] [(.int hp), (.int pt)])) t
                      refine XS.icmpYes X6.here hx rfl (pc0 := 267) (pc' := 274) rfl (hb hby at_267) rfl (feq hc267).2 (by decide) (by decide) ?_
                      exact kt
                    refine OGW.step (F' := T6.setTop (mkF m 306 #[.val (.int p0), .val (.int p1), .val (.int p2), .val (.int p3), .val (.int p4), .val (.int (p2 &&& (3 : Int32))), .val (.int (own_hl p2)), .val (.int (own_n0 p0)), .val (.int (own_n1 p0)), .val (.int (own_n2 p0)), .val (.int x0), .val (.int x1), .val (.int x2), .val (.int an), .val (.int pt), .val (.int hp), .val (.ref b1), .val (.int (f10 b5_r hp b2_r (own_str (p2 &&& (3 : Int32)) (own_n0 p0) (own_n1 p0) (own_n2 p0)) (own_str (own_hl p2) x0 x1 x2) pt)), .val (.int (0 : Int32)), .val (.int (0 : Int32)), .val (.int (0 : Int32))] [(.int (1 : Int32))])) (fun t kt => ?_) ?_
                    · show Steps p.tables e below (T6.setTop (mkF m 274 #[.val (.int p0), .val (.int p1), .val (.int p2), .val (.int p3), .val (.int p4), .val (.int (p2 &&& (3 : Int32))), .val (.int (own_hl p2)), .val (.int (own_n0 p0)), .val (.int (own_n1 p0)), .val (.int (own_n2 p0)), .val (.int x0), .val (.int x1), .val (.int x2), .val (.int an), .val (.int pt), .val (.int hp), .val (.ref b1), .val (.int (f10 b5_r hp b2_r (own_str (p2 &&& (3 : Int32)) (own_n0 p0) (own_n1 p0) (own_n2 p0)) (own_str (own_hl p2) x0 x1 x2) pt)), .val (.int (0 : Int32)), .unset, .unset] [])) t
                      refine XS.iconst X6.here hx rfl (hb hby at_274) ?_
                      refine XS.istore X6.here hx rfl (hb hby at_275) rfl (l' := #[.val (.int p0), .val (.int p1), .val (.int p2), .val (.int p3), .val (.int p4), .val (.int (p2 &&& (3 : Int32))), .val (.int (own_hl p2)), .val (.int (own_n0 p0)), .val (.int (own_n1 p0)), .val (.int (own_n2 p0)), .val (.int x0), .val (.int x1), .val (.int x2), .val (.int an), .val (.int pt), .val (.int hp), .val (.ref b1), .val (.int (f10 b5_r hp b2_r (own_str (p2 &&& (3 : Int32)) (own_n0 p0) (own_n1 p0) (own_n2 p0)) (own_str (own_hl p2) x0 x1 x2) pt)), .val (.int (0 : Int32)), .val (.int (0 : Int32)), .unset]) rfl ?_
                      refine XS.iload X6.here hx rfl (hb hby at_277) rfl ?_
                      refine XS.ifYes X6.here hx rfl (pc0 := 279) (pc' := 291) rfl (hb hby at_279) rfl ((if0 _ _).trans (teq (by decide : (0 : Int32) = (0 : Int32))).1) (by decide) (by decide) ?_
                      refine XS.iconst X6.here hx rfl (hb hby at_291) ?_
                      refine XS.istore X6.here hx rfl (hb hby at_292) rfl (l' := #[.val (.int p0), .val (.int p1), .val (.int p2), .val (.int p3), .val (.int p4), .val (.int (p2 &&& (3 : Int32))), .val (.int (own_hl p2)), .val (.int (own_n0 p0)), .val (.int (own_n1 p0)), .val (.int (own_n2 p0)), .val (.int x0), .val (.int x1), .val (.int x2), .val (.int an), .val (.int pt), .val (.int hp), .val (.ref b1), .val (.int (f10 b5_r hp b2_r (own_str (p2 &&& (3 : Int32)) (own_n0 p0) (own_n1 p0) (own_n2 p0)) (own_str (own_hl p2) x0 x1 x2) pt)), .val (.int (0 : Int32)), .val (.int (0 : Int32)), .val (.int (0 : Int32))]) rfl ?_
                      refine XS.iload X6.here hx rfl (hb hby at_294) rfl ?_
                      refine XS.iload X6.here hx rfl (hb hby at_296) rfl ?_
                      refine XS.icmpNo X6.here hx rfl (hb hby at_298) rfl (teq ((own_fin _ _ (Nat.ne_of_lt (Nat.lt_of_lt_of_le (P2_0.keep K4).lt szo_b5_r)) _ _ _ _ _ _ _ _ _ _ _ (own_nl _) (own_nl _) (own_rn0 _) (own_rn1 _) (own_rn2 _) hx0 hx1 hx2 hap).2 (fun q => q.1.2.2.2.elim hc241 hc248))).2 ?_
                      refine XS.iconst X6.here hx rfl (hb hby at_301) ?_
                      refine XS.goto X6.here hx rfl (pc0 := 302) (pc' := 306) rfl (hb hby at_302) (by decide) (by decide) ?_
                      exact kt
                    refine OGW.retZ X6 hx hlk hS hk hZ hEL CR e6 (t := .boolean) (z' := (1 : Int32)) hret (by simp) (hb hby at_306) rfl ?_ (by decide) (by decide)
                    show Q0 Z p0 p1 p2 p3 p4 w_COMPACT_STRINGS h0 n0 _ T6.heap _
                    rw [e6]
                    exact ⟨rfl, N6, KC5⟩
                · refine OGW.step (F' := T6.setTop (mkF m 270 #[.val (.int p0), .val (.int p1), .val (.int p2), .val (.int p3), .val (.int p4), .val (.int (p2 &&& (3 : Int32))), .val (.int (own_hl p2)), .val (.int (own_n0 p0)), .val (.int (own_n1 p0)), .val (.int (own_n2 p0)), .val (.int x0), .val (.int x1), .val (.int x2), .val (.int an), .val (.int pt), .val (.int hp), .val (.ref b1), .val (.int (f10 b5_r hp b2_r (own_str (p2 &&& (3 : Int32)) (own_n0 p0) (own_n1 p0) (own_n2 p0)) (own_str (own_hl p2) x0 x1 x2) pt)), .val (.int (0 : Int32)), .unset, .unset] [])) (fun t kt => ?_) ?_
                  · show Steps p.tables e below (T6.setTop (mkF m 260 #[.val (.int p0), .val (.int p1), .val (.int p2), .val (.int p3), .val (.int p4), .val (.int (p2 &&& (3 : Int32))), .val (.int (own_hl p2)), .val (.int (own_n0 p0)), .val (.int (own_n1 p0)), .val (.int (own_n2 p0)), .val (.int x0), .val (.int x1), .val (.int x2), .val (.int an), .val (.int pt), .val (.int hp), .val (.ref b1), .val (.int (f10 b5_r hp b2_r (own_str (p2 &&& (3 : Int32)) (own_n0 p0) (own_n1 p0) (own_n2 p0)) (own_str (own_hl p2) x0 x1 x2) pt)), .val (.int (0 : Int32)), .unset, .unset] [(.int an)])) t
                    refine XS.ifYes X6.here hx rfl (pc0 := 260) (pc' := 270) rfl (hb hby at_260) rfl ((if0 _ _).trans (feq hc260).2) (by decide) (by decide) ?_
                    exact kt
                  refine OGW.step (F' := T6.setTop (mkF m 306 #[.val (.int p0), .val (.int p1), .val (.int p2), .val (.int p3), .val (.int p4), .val (.int (p2 &&& (3 : Int32))), .val (.int (own_hl p2)), .val (.int (own_n0 p0)), .val (.int (own_n1 p0)), .val (.int (own_n2 p0)), .val (.int x0), .val (.int x1), .val (.int x2), .val (.int an), .val (.int pt), .val (.int hp), .val (.ref b1), .val (.int (f10 b5_r hp b2_r (own_str (p2 &&& (3 : Int32)) (own_n0 p0) (own_n1 p0) (own_n2 p0)) (own_str (own_hl p2) x0 x1 x2) pt)), .val (.int (0 : Int32)), .val (.int (1 : Int32)), .val (.int (0 : Int32))] [(.int (1 : Int32))])) (fun t kt => ?_) ?_
                  · show Steps p.tables e below (T6.setTop (mkF m 270 #[.val (.int p0), .val (.int p1), .val (.int p2), .val (.int p3), .val (.int p4), .val (.int (p2 &&& (3 : Int32))), .val (.int (own_hl p2)), .val (.int (own_n0 p0)), .val (.int (own_n1 p0)), .val (.int (own_n2 p0)), .val (.int x0), .val (.int x1), .val (.int x2), .val (.int an), .val (.int pt), .val (.int hp), .val (.ref b1), .val (.int (f10 b5_r hp b2_r (own_str (p2 &&& (3 : Int32)) (own_n0 p0) (own_n1 p0) (own_n2 p0)) (own_str (own_hl p2) x0 x1 x2) pt)), .val (.int (0 : Int32)), .unset, .unset] [])) t
                    refine XS.iconst X6.here hx rfl (hb hby at_270) ?_
                    refine XS.goto X6.here hx rfl (pc0 := 271) (pc' := 275) rfl (hb hby at_271) (by decide) (by decide) ?_
                    refine XS.istore X6.here hx rfl (hb hby at_275) rfl (l' := #[.val (.int p0), .val (.int p1), .val (.int p2), .val (.int p3), .val (.int p4), .val (.int (p2 &&& (3 : Int32))), .val (.int (own_hl p2)), .val (.int (own_n0 p0)), .val (.int (own_n1 p0)), .val (.int (own_n2 p0)), .val (.int x0), .val (.int x1), .val (.int x2), .val (.int an), .val (.int pt), .val (.int hp), .val (.ref b1), .val (.int (f10 b5_r hp b2_r (own_str (p2 &&& (3 : Int32)) (own_n0 p0) (own_n1 p0) (own_n2 p0)) (own_str (own_hl p2) x0 x1 x2) pt)), .val (.int (0 : Int32)), .val (.int (1 : Int32)), .unset]) rfl ?_
                    refine XS.iload X6.here hx rfl (hb hby at_277) rfl ?_
                    refine XS.ifYes X6.here hx rfl (pc0 := 279) (pc' := 291) rfl (hb hby at_279) rfl ((if0 _ _).trans (teq (by decide : (0 : Int32) = (0 : Int32))).1) (by decide) (by decide) ?_
                    refine XS.iconst X6.here hx rfl (hb hby at_291) ?_
                    refine XS.istore X6.here hx rfl (hb hby at_292) rfl (l' := #[.val (.int p0), .val (.int p1), .val (.int p2), .val (.int p3), .val (.int p4), .val (.int (p2 &&& (3 : Int32))), .val (.int (own_hl p2)), .val (.int (own_n0 p0)), .val (.int (own_n1 p0)), .val (.int (own_n2 p0)), .val (.int x0), .val (.int x1), .val (.int x2), .val (.int an), .val (.int pt), .val (.int hp), .val (.ref b1), .val (.int (f10 b5_r hp b2_r (own_str (p2 &&& (3 : Int32)) (own_n0 p0) (own_n1 p0) (own_n2 p0)) (own_str (own_hl p2) x0 x1 x2) pt)), .val (.int (0 : Int32)), .val (.int (1 : Int32)), .val (.int (0 : Int32))]) rfl ?_
                    refine XS.iload X6.here hx rfl (hb hby at_294) rfl ?_
                    refine XS.iload X6.here hx rfl (hb hby at_296) rfl ?_
                    refine XS.icmpNo X6.here hx rfl (hb hby at_298) rfl (teq ((own_fin _ _ (Nat.ne_of_lt (Nat.lt_of_lt_of_le (P2_0.keep K4).lt szo_b5_r)) _ _ _ _ _ _ _ _ _ _ _ (own_nl _) (own_nl _) (own_rn0 _) (own_rn1 _) (own_rn2 _) hx0 hx1 hx2 hap).2 (fun q => q.1.2.2.2.elim hc241 hc248))).2 ?_
                    refine XS.iconst X6.here hx rfl (hb hby at_301) ?_
                    refine XS.goto X6.here hx rfl (pc0 := 302) (pc' := 306) rfl (hb hby at_302) (by decide) (by decide) ?_
                    exact kt
                  refine OGW.retZ X6 hx hlk hS hk hZ hEL CR e6 (t := .boolean) (z' := (1 : Int32)) hret (by simp) (hb hby at_306) rfl ?_ (by decide) (by decide)
                  show Q0 Z p0 p1 p2 p3 p4 w_COMPACT_STRINGS h0 n0 _ T6.heap _
                  rw [e6]
                  exact ⟨rfl, N6, KC5⟩
          · refine OGW.step (F' := T6.setTop (mkF m 255 #[.val (.int p0), .val (.int p1), .val (.int p2), .val (.int p3), .val (.int p4), .val (.int (p2 &&& (3 : Int32))), .val (.int (own_hl p2)), .val (.int (own_n0 p0)), .val (.int (own_n1 p0)), .val (.int (own_n2 p0)), .val (.int x0), .val (.int x1), .val (.int x2), .val (.int an), .val (.int pt), .val (.int hp), .val (.ref b1), .val (.int (f10 b5_r hp b2_r (own_str (p2 &&& (3 : Int32)) (own_n0 p0) (own_n1 p0) (own_n2 p0)) (own_str (own_hl p2) x0 x1 x2) pt)), .unset, .unset, .unset] [])) (fun t kt => ?_) ?_
            · show Steps p.tables e below (T6.setTop (mkF m 235 #[.val (.int p0), .val (.int p1), .val (.int p2), .val (.int p3), .val (.int p4), .val (.int (p2 &&& (3 : Int32))), .val (.int (own_hl p2)), .val (.int (own_n0 p0)), .val (.int (own_n1 p0)), .val (.int (own_n2 p0)), .val (.int x0), .val (.int x1), .val (.int x2), .val (.int an), .val (.int pt), .val (.int hp), .val (.ref b1), .val (.int (f10 b5_r hp b2_r (own_str (p2 &&& (3 : Int32)) (own_n0 p0) (own_n1 p0) (own_n2 p0)) (own_str (own_hl p2) x0 x1 x2) pt)), .unset, .unset, .unset] [(.int x1), (.int (own_n1 p0))])) t
              refine XS.icmpYes X6.here hx rfl (pc0 := 235) (pc' := 255) rfl (hb hby at_235) rfl (feq hc235).2 (by decide) (by decide) ?_
              exact kt
            refine OGW.step (F' := T6.setTop (mkF m 260 #[.val (.int p0), .val (.int p1), .val (.int p2), .val (.int p3), .val (.int p4), .val (.int (p2 &&& (3 : Int32))), .val (.int (own_hl p2)), .val (.int (own_n0 p0)), .val (.int (own_n1 p0)), .val (.int (own_n2 p0)), .val (.int x0), .val (.int x1), .val (.int x2), .val (.int an), .val (.int pt), .val (.int hp), .val (.ref b1), .val (.int (f10 b5_r hp b2_r (own_str (p2 &&& (3 : Int32)) (own_n0 p0) (own_n1 p0) (own_n2 p0)) (own_str (own_hl p2) x0 x1 x2) pt)), .val (.int (0 : Int32)), .unset, .unset] [(.int an)])) (fun t kt => ?_) ?_
            · show Steps p.tables e below (T6.setTop (mkF m 255 #[.val (.int p0), .val (.int p1), .val (.int p2), .val (.int p3), .val (.int p4), .val (.int (p2 &&& (3 : Int32))), .val (.int (own_hl p2)), .val (.int (own_n0 p0)), .val (.int (own_n1 p0)), .val (.int (own_n2 p0)), .val (.int x0), .val (.int x1), .val (.int x2), .val (.int an), .val (.int pt), .val (.int hp), .val (.ref b1), .val (.int (f10 b5_r hp b2_r (own_str (p2 &&& (3 : Int32)) (own_n0 p0) (own_n1 p0) (own_n2 p0)) (own_str (own_hl p2) x0 x1 x2) pt)), .unset, .unset, .unset] [])) t
              refine XS.iconst X6.here hx rfl (hb hby at_255) ?_
              refine XS.istore X6.here hx rfl (hb hby at_256) rfl (l' := #[.val (.int p0), .val (.int p1), .val (.int p2), .val (.int p3), .val (.int p4), .val (.int (p2 &&& (3 : Int32))), .val (.int (own_hl p2)), .val (.int (own_n0 p0)), .val (.int (own_n1 p0)), .val (.int (own_n2 p0)), .val (.int x0), .val (.int x1), .val (.int x2), .val (.int an), .val (.int pt), .val (.int hp), .val (.ref b1), .val (.int (f10 b5_r hp b2_r (own_str (p2 &&& (3 : Int32)) (own_n0 p0) (own_n1 p0) (own_n2 p0)) (own_str (own_hl p2) x0 x1 x2) pt)), .val (.int (0 : Int32)), .unset, .unset]) rfl ?_
              refine XS.iload X6.here hx rfl (hb hby at_258) rfl ?_
              exact kt
            by_cases hc260 : an = (0 : Int32)
            · refine OGW.step (F' := T6.setTop (mkF m 263 #[.val (.int p0), .val (.int p1), .val (.int p2), .val (.int p3), .val (.int p4), .val (.int (p2 &&& (3 : Int32))), .val (.int (own_hl p2)), .val (.int (own_n0 p0)), .val (.int (own_n1 p0)), .val (.int (own_n2 p0)), .val (.int x0), .val (.int x1), .val (.int x2), .val (.int an), .val (.int pt), .val (.int hp), .val (.ref b1), .val (.int (f10 b5_r hp b2_r (own_str (p2 &&& (3 : Int32)) (own_n0 p0) (own_n1 p0) (own_n2 p0)) (own_str (own_hl p2) x0 x1 x2) pt)), .val (.int (0 : Int32)), .unset, .unset] [])) (fun t kt => ?_) ?_
              · show Steps p.tables e below (T6.setTop (mkF m 260 #[.val (.int p0), .val (.int p1), .val (.int p2), .val (.int p3), .val (.int p4), .val (.int (p2 &&& (3 : Int32))), .val (.int (own_hl p2)), .val (.int (own_n0 p0)), .val (.int (own_n1 p0)), .val (.int (own_n2 p0)), .val (.int x0), .val (.int x1), .val (.int x2), .val (.int an), .val (.int pt), .val (.int hp), .val (.ref b1), .val (.int (f10 b5_r hp b2_r (own_str (p2 &&& (3 : Int32)) (own_n0 p0) (own_n1 p0) (own_n2 p0)) (own_str (own_hl p2) x0 x1 x2) pt)), .val (.int (0 : Int32)), .unset, .unset] [(.int an)])) t
                refine XS.ifNo X6.here hx rfl (hb hby at_260) rfl ((if0 _ _).trans (teq hc260).2) ?_
                exact kt
              refine OGW.step (F' := T6.setTop (mkF m 267 #[.val (.int p0), .val (.int p1), .val (.int p2), .val (.int p3), .val (.int p4), .val (.int (p2 &&& (3 : Int32))), .val (.int (own_hl p2)), .val (.int (own_n0 p0)), .val (.int (own_n1 p0)), .val (.int (own_n2 p0)), .val (.int x0), .val (.int x1), .val (.int x2), .val (.int an), .val (.int pt), .val (.int hp), .val (.ref b1), .val (.int (f10 b5_r hp b2_r (own_str (p2 &&& (3 : Int32)) (own_n0 p0) (own_n1 p0) (own_n2 p0)) (own_str (own_hl p2) x0 x1 x2) pt)), .val (.int (0 : Int32)), .unset, .unset] [(.int hp), (.int pt)])) (fun t kt => ?_) ?_
              · show Steps p.tables e below (T6.setTop (mkF m 263 #[.val (.int p0), .val (.int p1), .val (.int p2), .val (.int p3), .val (.int p4), .val (.int (p2 &&& (3 : Int32))), .val (.int (own_hl p2)), .val (.int (own_n0 p0)), .val (.int (own_n1 p0)), .val (.int (own_n2 p0)), .val (.int x0), .val (.int x1), .val (.int x2), .val (.int an), .val (.int pt), .val (.int hp), .val (.ref b1), .val (.int (f10 b5_r hp b2_r (own_str (p2 &&& (3 : Int32)) (own_n0 p0) (own_n1 p0) (own_n2 p0)) (own_str (own_hl p2) x0 x1 x2) pt)), .val (.int (0 : Int32)), .unset, .unset] [])) t
                refine XS.iload X6.here hx rfl (hb hby at_263) rfl ?_
                refine XS.iload X6.here hx rfl (hb hby at_265) rfl ?_
                exact kt
              by_cases hc267 : pt = hp
              · refine OGW.step (F' := T6.setTop (mkF m 270 #[.val (.int p0), .val (.int p1), .val (.int p2), .val (.int p3), .val (.int p4), .val (.int (p2 &&& (3 : Int32))), .val (.int (own_hl p2)), .val (.int (own_n0 p0)), .val (.int (own_n1 p0)), .val (.int (own_n2 p0)), .val (.int x0), .val (.int x1), .val (.int x2), .val (.int an), .val (.int pt), .val (.int hp), .val (.ref b1), .val (.int (f10 b5_r hp b2_r (own_str (p2 &&& (3 : Int32)) (own_n0 p0) (own_n1 p0) (own_n2 p0)) (own_str (own_hl p2) x0 x1 x2) pt)), .val (.int (0 : Int32)), .unset, .unset] [])) (fun t kt => ?_) ?_
                · show Steps p.tables e below (T6.setTop (mkF m 267 #[.val (.int p0), .val (.int p1), .val (.int p2), .val (.int p3), .val (.int p4), .val (.int (p2 &&& (3 : Int32))), .val (.int (own_hl p2)), .val (.int (own_n0 p0)), .val (.int (own_n1 p0)), .val (.int (own_n2 p0)), .val (.int x0), .val (.int x1), .val (.int x2), .val (.int an), .val (.int pt), .val (.int hp), .val (.ref b1), .val (.int (f10 b5_r hp b2_r (own_str (p2 &&& (3 : Int32)) (own_n0 p0) (own_n1 p0) (own_n2 p0)) (own_str (own_hl p2) x0 x1 x2) pt)), .val (.int (0 : Int32)), .unset, .unset] [(.int hp), (.int pt)])) t
                  refine XS.icmpNo X6.here hx rfl (hb hby at_267) rfl (teq hc267).2 ?_
                  exact kt
                refine OGW.step (F' := T6.setTop (mkF m 306 #[.val (.int p0), .val (.int p1), .val (.int p2), .val (.int p3), .val (.int p4), .val (.int (p2 &&& (3 : Int32))), .val (.int (own_hl p2)), .val (.int (own_n0 p0)), .val (.int (own_n1 p0)), .val (.int (own_n2 p0)), .val (.int x0), .val (.int x1), .val (.int x2), .val (.int an), .val (.int pt), .val (.int hp), .val (.ref b1), .val (.int (f10 b5_r hp b2_r (own_str (p2 &&& (3 : Int32)) (own_n0 p0) (own_n1 p0) (own_n2 p0)) (own_str (own_hl p2) x0 x1 x2) pt)), .val (.int (0 : Int32)), .val (.int (1 : Int32)), .val (.int (0 : Int32))] [(.int (1 : Int32))])) (fun t kt => ?_) ?_
                · show Steps p.tables e below (T6.setTop (mkF m 270 #[.val (.int p0), .val (.int p1), .val (.int p2), .val (.int p3), .val (.int p4), .val (.int (p2 &&& (3 : Int32))), .val (.int (own_hl p2)), .val (.int (own_n0 p0)), .val (.int (own_n1 p0)), .val (.int (own_n2 p0)), .val (.int x0), .val (.int x1), .val (.int x2), .val (.int an), .val (.int pt), .val (.int hp), .val (.ref b1), .val (.int (f10 b5_r hp b2_r (own_str (p2 &&& (3 : Int32)) (own_n0 p0) (own_n1 p0) (own_n2 p0)) (own_str (own_hl p2) x0 x1 x2) pt)), .val (.int (0 : Int32)), .unset, .unset] [])) t
                  refine XS.iconst X6.here hx rfl (hb hby at_270) ?_
                  refine XS.goto X6.here hx rfl (pc0 := 271) (pc' := 275) rfl (hb hby at_271) (by decide) (by decide) ?_
                  refine XS.istore X6.here hx rfl (hb hby at_275) rfl (l' := #[.val (.int p0), .val (.int p1), .val (.int p2), .val (.int p3), .val (.int p4), .val (.int (p2 &&& (3 : Int32))), .val (.int (own_hl p2)), .val (.int (own_n0 p0)), .val (.int (own_n1 p0)), .val (.int (own_n2 p0)), .val (.int x0), .val (.int x1), .val (.int x2), .val (.int an), .val (.int pt), .val (.int hp), .val (.ref b1), .val (.int (f10 b5_r hp b2_r (own_str (p2 &&& (3 : Int32)) (own_n0 p0) (own_n1 p0) (own_n2 p0)) (own_str (own_hl p2) x0 x1 x2) pt)), .val (.int (0 : Int32)), .val (.int (1 : Int32)), .unset]) rfl ?_
                  refine XS.iload X6.here hx rfl (hb hby at_277) rfl ?_
                  refine XS.ifYes X6.here hx rfl (pc0 := 279) (pc' := 291) rfl (hb hby at_279) rfl ((if0 _ _).trans (teq (by decide : (0 : Int32) = (0 : Int32))).1) (by decide) (by decide) ?_
                  refine XS.iconst X6.here hx rfl (hb hby at_291) ?_
                  refine XS.istore X6.here hx rfl (hb hby at_292) rfl (l' := #[.val (.int p0), .val (.int p1), .val (.int p2), .val (.int p3), .val (.int p4), .val (.int (p2 &&& (3 : Int32))), .val (.int (own_hl p2)), .val (.int (own_n0 p0)), .val (.int (own_n1 p0)), .val (.int (own_n2 p0)), .val (.int x0), .val (.int x1), .val (.int x2), .val (.int an), .val (.int pt), .val (.int hp), .val (.ref b1), .val (.int (f10 b5_r hp b2_r (own_str (p2 &&& (3 : Int32)) (own_n0 p0) (own_n1 p0) (own_n2 p0)) (own_str (own_hl p2) x0 x1 x2) pt)), .val (.int (0 : Int32)), .val (.int (1 : Int32)), .val (.int (0 : Int32))]) rfl ?_
                  refine XS.iload X6.here hx rfl (hb hby at_294) rfl ?_
                  refine XS.iload X6.here hx rfl (hb hby at_296) rfl ?_
                  refine XS.icmpNo X6.here hx rfl (hb hby at_298) rfl (teq ((own_fin _ _ (Nat.ne_of_lt (Nat.lt_of_lt_of_le (P2_0.keep K4).lt szo_b5_r)) _ _ _ _ _ _ _ _ _ _ _ (own_nl _) (own_nl _) (own_rn0 _) (own_rn1 _) (own_rn2 _) hx0 hx1 hx2 hap).2 (fun q => q.1.2.2.1.elim hc228 hc235))).2 ?_
                  refine XS.iconst X6.here hx rfl (hb hby at_301) ?_
                  refine XS.goto X6.here hx rfl (pc0 := 302) (pc' := 306) rfl (hb hby at_302) (by decide) (by decide) ?_
                  exact kt
                refine OGW.retZ X6 hx hlk hS hk hZ hEL CR e6 (t := .boolean) (z' := (1 : Int32)) hret (by simp) (hb hby at_306) rfl ?_ (by decide) (by decide)
                show Q0 Z p0 p1 p2 p3 p4 w_COMPACT_STRINGS h0 n0 _ T6.heap _
                rw [e6]
                exact ⟨rfl, N6, KC5⟩
              · refine OGW.step (F' := T6.setTop (mkF m 274 #[.val (.int p0), .val (.int p1), .val (.int p2), .val (.int p3), .val (.int p4), .val (.int (p2 &&& (3 : Int32))), .val (.int (own_hl p2)), .val (.int (own_n0 p0)), .val (.int (own_n1 p0)), .val (.int (own_n2 p0)), .val (.int x0), .val (.int x1), .val (.int x2), .val (.int an), .val (.int pt), .val (.int hp), .val (.ref b1), .val (.int (f10 b5_r hp b2_r (own_str (p2 &&& (3 : Int32)) (own_n0 p0) (own_n1 p0) (own_n2 p0)) (own_str (own_hl p2) x0 x1 x2) pt)), .val (.int (0 : Int32)), .unset, .unset] [])) (fun t kt => ?_) ?_
                · show Steps p.tables e below (T6.setTop (mkF m 267 #[.val (.int p0), .val (.int p1), .val (.int p2), .val (.int p3), .val (.int p4), .val (.int (p2 &&& (3 : Int32))), .val (.int (own_hl p2)), .val (.int (own_n0 p0)), .val (.int (own_n1 p0)), .val (.int (own_n2 p0)), .val (.int x0), .val (.int x1), .val (.int x2), .val (.int an), .val (.int pt), .val (.int hp), .val (.ref b1), .val (.int (f10 b5_r hp b2_r (own_str (p2 &&& (3 : Int32)) (own_n0 p0) (own_n1 p0) (own_n2 p0)) (own_str (own_hl p2) x0 x1 x2) pt)), .val (.int (0 : Int32)), .unset, .unset] [(.int hp), (.int pt)])) t
                  refine XS.icmpYes X6.here hx rfl (pc0 := 267) (pc' := 274) rfl (hb hby at_267) rfl (feq hc267).2 (by decide) (by decide) ?_
                  exact kt
                refine OGW.step (F' := T6.setTop (mkF m 306 #[.val (.int p0), .val (.int p1), .val (.int p2), .val (.int p3), .val (.int p4), .val (.int (p2 &&& (3 : Int32))), .val (.int (own_hl p2)), .val (.int (own_n0 p0)), .val (.int (own_n1 p0)), .val (.int (own_n2 p0)), .val (.int x0), .val (.int x1), .val (.int x2), .val (.int an), .val (.int pt), .val (.int hp), .val (.ref b1), .val (.int (f10 b5_r hp b2_r (own_str (p2 &&& (3 : Int32)) (own_n0 p0) (own_n1 p0) (own_n2 p0)) (own_str (own_hl p2) x0 x1 x2) pt)), .val (.int (0 : Int32)), .val (.int (0 : Int32)), .val (.int (0 : Int32))] [(.int (1 : Int32))])) (fun t kt => ?_) ?_
                · show Steps p.tables e below (T6.setTop (mkF m 274 #[.val (.int p0), .val (.int p1), .val (.int p2), .val (.int p3), .val (.int p4), .val (.int (p2 &&& (3 : Int32))), .val (.int (own_hl p2)), .val (.int (own_n0 p0)), .val (.int (own_n1 p0)), .val (.int (own_n2 p0)), .val (.int x0), .val (.int x1), .val (.int x2), .val (.int an), .val (.int pt), .val (.int hp), .val (.ref b1), .val (.int (f10 b5_r hp b2_r (own_str (p2 &&& (3 : Int32)) (own_n0 p0) (own_n1 p0) (own_n2 p0)) (own_str (own_hl p2) x0 x1 x2) pt)), .val (.int (0 : Int32)), .unset, .unset] [])) t
                  refine XS.iconst X6.here hx rfl (hb hby at_274) ?_
                  refine XS.istore X6.here hx rfl (hb hby at_275) rfl (l' := #[.val (.int p0), .val (.int p1), .val (.int p2), .val (.int p3), .val (.int p4), .val (.int (p2 &&& (3 : Int32))), .val (.int (own_hl p2)), .val (.int (own_n0 p0)), .val (.int (own_n1 p0)), .val (.int (own_n2 p0)), .val (.int x0), .val (.int x1), .val (.int x2), .val (.int an), .val (.int pt), .val (.int hp), .val (.ref b1), .val (.int (f10 b5_r hp b2_r (own_str (p2 &&& (3 : Int32)) (own_n0 p0) (own_n1 p0) (own_n2 p0)) (own_str (own_hl p2) x0 x1 x2) pt)), .val (.int (0 : Int32)), .val (.int (0 : Int32)), .unset]) rfl ?_
                  refine XS.iload X6.here hx rfl (hb hby at_277) rfl ?_
                  refine XS.ifYes X6.here hx rfl (pc0 := 279) (pc' := 291) rfl (hb hby at_279) rfl ((if0 _ _).trans (teq (by decide : (0 : Int32) = (0 : Int32))).1) (by decide) (by decide) ?_
                  refine XS.iconst X6.here hx rfl (hb hby at_291) ?_
                  refine XS.istore X6.here hx rfl (hb hby at_292) rfl (l' := #[.val (.int p0), .val (.int p1), .val (.int p2), .val (.int p3), .val (.int p4), .val (.int (p2 &&& (3 : Int32))), .val (.int (own_hl p2)), .val (.int (own_n0 p0)), .val (.int (own_n1 p0)), .val (.int (own_n2 p0)), .val (.int x0), .val (.int x1), .val (.int x2), .val (.int an), .val (.int pt), .val (.int hp), .val (.ref b1), .val (.int (f10 b5_r hp b2_r (own_str (p2 &&& (3 : Int32)) (own_n0 p0) (own_n1 p0) (own_n2 p0)) (own_str (own_hl p2) x0 x1 x2) pt)), .val (.int (0 : Int32)), .val (.int (0 : Int32)), .val (.int (0 : Int32))]) rfl ?_
                  refine XS.iload X6.here hx rfl (hb hby at_294) rfl ?_
                  refine XS.iload X6.here hx rfl (hb hby at_296) rfl ?_
                  refine XS.icmpNo X6.here hx rfl (hb hby at_298) rfl (teq ((own_fin _ _ (Nat.ne_of_lt (Nat.lt_of_lt_of_le (P2_0.keep K4).lt szo_b5_r)) _ _ _ _ _ _ _ _ _ _ _ (own_nl _) (own_nl _) (own_rn0 _) (own_rn1 _) (own_rn2 _) hx0 hx1 hx2 hap).2 (fun q => q.1.2.2.1.elim hc228 hc235))).2 ?_
                  refine XS.iconst X6.here hx rfl (hb hby at_301) ?_
                  refine XS.goto X6.here hx rfl (pc0 := 302) (pc' := 306) rfl (hb hby at_302) (by decide) (by decide) ?_
                  exact kt
                refine OGW.retZ X6 hx hlk hS hk hZ hEL CR e6 (t := .boolean) (z' := (1 : Int32)) hret (by simp) (hb hby at_306) rfl ?_ (by decide) (by decide)
                show Q0 Z p0 p1 p2 p3 p4 w_COMPACT_STRINGS h0 n0 _ T6.heap _
                rw [e6]
                exact ⟨rfl, N6, KC5⟩
            · refine OGW.step (F' := T6.setTop (mkF m 270 #[.val (.int p0), .val (.int p1), .val (.int p2), .val (.int p3), .val (.int p4), .val (.int (p2 &&& (3 : Int32))), .val (.int (own_hl p2)), .val (.int (own_n0 p0)), .val (.int (own_n1 p0)), .val (.int (own_n2 p0)), .val (.int x0), .val (.int x1), .val (.int x2), .val (.int an), .val (.int pt), .val (.int hp), .val (.ref b1), .val (.int (f10 b5_r hp b2_r (own_str (p2 &&& (3 : Int32)) (own_n0 p0) (own_n1 p0) (own_n2 p0)) (own_str (own_hl p2) x0 x1 x2) pt)), .val (.int (0 : Int32)), .unset, .unset] [])) (fun t kt => ?_) ?_
              · show Steps p.tables e below (T6.setTop (mkF m 260 #[.val (.int p0), .val (.int p1), .val (.int p2), .val (.int p3), .val (.int p4), .val (.int (p2 &&& (3 : Int32))), .val (.int (own_hl p2)), .val (.int (own_n0 p0)), .val (.int (own_n1 p0)), .val (.int (own_n2 p0)), .val (.int x0), .val (.int x1), .val (.int x2), .val (.int an), .val (.int pt), .val (.int hp), .val (.ref b1), .val (.int (f10 b5_r hp b2_r (own_str (p2 &&& (3 : Int32)) (own_n0 p0) (own_n1 p0) (own_n2 p0)) (own_str (own_hl p2) x0 x1 x2) pt)), .val (.int (0 : Int32)), .unset, .unset] [(.int an)])) t
                refine XS.ifYes X6.here hx rfl (pc0 := 260) (pc' := 270) rfl (hb hby at_260) rfl ((if0 _ _).trans (feq hc260).2) (by decide) (by decide) ?_
                exact kt
              refine OGW.step (F' := T6.setTop (mkF m 306 #[.val (.int p0), .val (.int p1), .val (.int p2), .val (.int p3), .val (.int p4), .val (.int (p2 &&& (3 : Int32))), .val (.int (own_hl p2)), .val (.int (own_n0 p0)), .val (.int (own_n1 p0)), .val (.int (own_n2 p0)), .val (.int x0), .val (.int x1), .val (.int x2), .val (.int an), .val (.int pt), .val (.int hp), .val (.ref b1), .val (.int (f10 b5_r hp b2_r (own_str (p2 &&& (3 : Int32)) (own_n0 p0) (own_n1 p0) (own_n2 p0)) (own_str (own_hl p2) x0 x1 x2) pt)), .val (.int (0 : Int32)), .val (.int (1 : Int32)), .val (.int (0 : Int32))] [(.int (1 : Int32))])) (fun t kt => ?_) ?_
              · show Steps p.tables e below (T6.setTop (mkF m 270 #[.val (.int p0), .val (.int p1), .val (.int p2), .val (.int p3), .val (.int p4), .val (.int (p2 &&& (3 : Int32))), .val (.int (own_hl p2)), .val (.int (own_n0 p0)), .val (.int (own_n1 p0)), .val (.int (own_n2 p0)), .val (.int x0), .val (.int x1), .val (.int x2), .val (.int an), .val (.int pt), .val (.int hp), .val (.ref b1), .val (.int (f10 b5_r hp b2_r (own_str (p2 &&& (3 : Int32)) (own_n0 p0) (own_n1 p0) (own_n2 p0)) (own_str (own_hl p2) x0 x1 x2) pt)), .val (.int (0 : Int32)), .unset, .unset] [])) t
                refine XS.iconst X6.here hx rfl (hb hby at_270) ?_
                refine XS.goto X6.here hx rfl (pc0 := 271) (pc' := 275) rfl (hb hby at_271) (by decide) (by decide) ?_
                refine XS.istore X6.here hx rfl (hb hby at_275) rfl (l' := #[.val (.int p0), .val (.int p1), .val (.int p2), .val (.int p3), .val (.int p4), .val (.int (p2 &&& (3 : Int32))), .val (.int (own_hl p2)), .val (.int (own_n0 p0)), .val (.int (own_n1 p0)), .val (.int (own_n2 p0)), .val (.int x0), .val (.int x1), .val (.int x2), .val (.int an), .val (.int pt), .val (.int hp), .val (.ref b1), .val (.int (f10 b5_r hp b2_r (own_str (p2 &&& (3 : Int32)) (own_n0 p0) (own_n1 p0) (own_n2 p0)) (own_str (own_hl p2) x0 x1 x2) pt)), .val (.int (0 : Int32)), .val (.int (1 : Int32)), .unset]) rfl ?_
                refine XS.iload X6.here hx rfl (hb hby at_277) rfl ?_
                refine XS.ifYes X6.here hx rfl (pc0 := 279) (pc' := 291) rfl (hb hby at_279) rfl ((if0 _ _).trans (teq (by decide : (0 : Int32) = (0 : Int32))).1) (by decide) (by decide) ?_
                refine XS.iconst X6.here hx rfl (hb hby at_291) ?_
                refine XS.istore X6.here hx rfl (hb hby at_292) rfl (l' := #[.val (.int p0), .val (.int p1), .val (.int p2), .val (.int p3), .val (.int p4), .val (.int (p2 &&& (3 : Int32))), .val (.int (own_hl p2)), .val (.int (own_n0 p0)), .val (.int (own_n1 p0)), .val (.int (own_n2 p0)), .val (.int x0), .val (.int x1), .val (.int x2), .val (.int an), .val (.int pt), .val (.int hp), .val (.ref b1), .val (.int (f10 b5_r hp b2_r (own_str (p2 &&& (3 : Int32)) (own_n0 p0) (own_n1 p0) (own_n2 p0)) (own_str (own_hl p2) x0 x1 x2) pt)), .val (.int (0 : Int32)), .val (.int (1 : Int32)), .val (.int (0 : Int32))]) rfl ?_
                refine XS.iload X6.here hx rfl (hb hby at_294) rfl ?_
                refine XS.iload X6.here hx rfl (hb hby at_296) rfl ?_
                refine XS.icmpNo X6.here hx rfl (hb hby at_298) rfl (teq ((own_fin _ _ (Nat.ne_of_lt (Nat.lt_of_lt_of_le (P2_0.keep K4).lt szo_b5_r)) _ _ _ _ _ _ _ _ _ _ _ (own_nl _) (own_nl _) (own_rn0 _) (own_rn1 _) (own_rn2 _) hx0 hx1 hx2 hap).2 (fun q => q.1.2.2.1.elim hc228 hc235))).2 ?_
                refine XS.iconst X6.here hx rfl (hb hby at_301) ?_
                refine XS.goto X6.here hx rfl (pc0 := 302) (pc' := 306) rfl (hb hby at_302) (by decide) (by decide) ?_
                exact kt
              refine OGW.retZ X6 hx hlk hS hk hZ hEL CR e6 (t := .boolean) (z' := (1 : Int32)) hret (by simp) (hb hby at_306) rfl ?_ (by decide) (by decide)
              show Q0 Z p0 p1 p2 p3 p4 w_COMPACT_STRINGS h0 n0 _ T6.heap _
              rw [e6]
              exact ⟨rfl, N6, KC5⟩
      · refine OGW.step (F' := T6.setTop (mkF m 218 #[.val (.int p0), .val (.int p1), .val (.int p2), .val (.int p3), .val (.int p4), .val (.int (p2 &&& (3 : Int32))), .val (.int (own_hl p2)), .val (.int (own_n0 p0)), .val (.int (own_n1 p0)), .val (.int (own_n2 p0)), .val (.int x0), .val (.int x1), .val (.int x2), .val (.int an), .val (.int pt), .val (.int hp), .val (.ref b1), .val (.int (f10 b5_r hp b2_r (own_str (p2 &&& (3 : Int32)) (own_n0 p0) (own_n1 p0) (own_n2 p0)) (own_str (own_hl p2) x0 x1 x2) pt)), .unset, .unset, .unset] [])) (fun t kt => ?_) ?_
        · show Steps p.tables e below (T6.setTop (mkF m 215 #[.val (.int p0), .val (.int p1), .val (.int p2), .val (.int p3), .val (.int p4), .val (.int (p2 &&& (3 : Int32))), .val (.int (own_hl p2)), .val (.int (own_n0 p0)), .val (.int (own_n1 p0)), .val (.int (own_n2 p0)), .val (.int x0), .val (.int x1), .val (.int x2), .val (.int an), .val (.int pt), .val (.int hp), .val (.ref b1), .val (.int (f10 b5_r hp b2_r (own_str (p2 &&& (3 : Int32)) (own_n0 p0) (own_n1 p0) (own_n2 p0)) (own_str (own_hl p2) x0 x1 x2) pt)), .unset, .unset, .unset] [(.int (1 : Int32)), (.int (p2 &&& (3 : Int32)))])) t
          refine XS.icmpNo X6.here hx rfl (hb hby at_215) rfl (flt hc215).1 ?_
          exact kt
        refine OGW.step (F' := T6.setTop (mkF m 222 #[.val (.int p0), .val (.int p1), .val (.int p2), .val (.int p3), .val (.int p4), .val (.int (p2 &&& (3 : Int32))), .val (.int (own_hl p2)), .val (.int (own_n0 p0)), .val (.int (own_n1 p0)), .val (.int (own_n2 p0)), .val (.int x0), .val (.int x1), .val (.int x2), .val (.int an), .val (.int pt), .val (.int hp), .val (.ref b1), .val (.int (f10 b5_r hp b2_r (own_str (p2 &&& (3 : Int32)) (own_n0 p0) (own_n1 p0) (own_n2 p0)) (own_str (own_hl p2) x0 x1 x2) pt)), .unset, .unset, .unset] [(.int x0), (.int (own_n0 p0))])) (fun t kt => ?_) ?_
        · show Steps p.tables e below (T6.setTop (mkF m 218 #[.val (.int p0), .val (.int p1), .val (.int p2), .val (.int p3), .val (.int p4), .val (.int (p2 &&& (3 : Int32))), .val (.int (own_hl p2)), .val (.int (own_n0 p0)), .val (.int (own_n1 p0)), .val (.int (own_n2 p0)), .val (.int x0), .val (.int x1), .val (.int x2), .val (.int an), .val (.int pt), .val (.int hp), .val (.ref b1), .val (.int (f10 b5_r hp b2_r (own_str (p2 &&& (3 : Int32)) (own_n0 p0) (own_n1 p0) (own_n2 p0)) (own_str (own_hl p2) x0 x1 x2) pt)), .unset, .unset, .unset] [])) t
          refine XS.iload X6.here hx rfl (hb hby at_218) rfl ?_
          refine XS.iload X6.here hx rfl (hb hby at_220) rfl ?_
          exact kt
        by_cases hc222 : (own_n0 p0) = x0
        · refine OGW.step (F' := T6.setTop (mkF m 225 #[.val (.int p0), .val (.int p1), .val (.int p2), .val (.int p3), .val (.int p4), .val (.int (p2 &&& (3 : Int32))), .val (.int (own_hl p2)), .val (.int (own_n0 p0)), .val (.int (own_n1 p0)), .val (.int (own_n2 p0)), .val (.int x0), .val (.int x1), .val (.int x2), .val (.int an), .val (.int pt), .val (.int hp), .val (.ref b1), .val (.int (f10 b5_r hp b2_r (own_str (p2 &&& (3 : Int32)) (own_n0 p0) (own_n1 p0) (own_n2 p0)) (own_str (own_hl p2) x0 x1 x2) pt)), .unset, .unset, .unset] [])) (fun t kt => ?_) ?_
          · show Steps p.tables e below (T6.setTop (mkF m 222 #[.val (.int p0), .val (.int p1), .val (.int p2), .val (.int p3), .val (.int p4), .val (.int (p2 &&& (3 : Int32))), .val (.int (own_hl p2)), .val (.int (own_n0 p0)), .val (.int (own_n1 p0)), .val (.int (own_n2 p0)), .val (.int x0), .val (.int x1), .val (.int x2), .val (.int an), .val (.int pt), .val (.int hp), .val (.ref b1), .val (.int (f10 b5_r hp b2_r (own_str (p2 &&& (3 : Int32)) (own_n0 p0) (own_n1 p0) (own_n2 p0)) (own_str (own_hl p2) x0 x1 x2) pt)), .unset, .unset, .unset] [(.int x0), (.int (own_n0 p0))])) t
            refine XS.icmpNo X6.here hx rfl (hb hby at_222) rfl (teq hc222).2 ?_
            exact kt
          refine OGW.step (F' := T6.setTop (mkF m 228 #[.val (.int p0), .val (.int p1), .val (.int p2), .val (.int p3), .val (.int p4), .val (.int (p2 &&& (3 : Int32))), .val (.int (own_hl p2)), .val (.int (own_n0 p0)), .val (.int (own_n1 p0)), .val (.int (own_n2 p0)), .val (.int x0), .val (.int x1), .val (.int x2), .val (.int an), .val (.int pt), .val (.int hp), .val (.ref b1), .val (.int (f10 b5_r hp b2_r (own_str (p2 &&& (3 : Int32)) (own_n0 p0) (own_n1 p0) (own_n2 p0)) (own_str (own_hl p2) x0 x1 x2) pt)), .unset, .unset, .unset] [(.int (2 : Int32)), (.int (p2 &&& (3 : Int32)))])) (fun t kt => ?_) ?_
          · show Steps p.tables e below (T6.setTop (mkF m 225 #[.val (.int p0), .val (.int p1), .val (.int p2), .val (.int p3), .val (.int p4), .val (.int (p2 &&& (3 : Int32))), .val (.int (own_hl p2)), .val (.int (own_n0 p0)), .val (.int (own_n1 p0)), .val (.int (own_n2 p0)), .val (.int x0), .val (.int x1), .val (.int x2), .val (.int an), .val (.int pt), .val (.int hp), .val (.ref b1), .val (.int (f10 b5_r hp b2_r (own_str (p2 &&& (3 : Int32)) (own_n0 p0) (own_n1 p0) (own_n2 p0)) (own_str (own_hl p2) x0 x1 x2) pt)), .unset, .unset, .unset] [])) t
            refine XS.iload X6.here hx rfl (hb hby at_225) rfl ?_
            refine XS.iconst X6.here hx rfl (hb hby at_227) ?_
            exact kt
          by_cases hc228 : (p2 &&& (3 : Int32)) < (2 : Int32)
          · refine OGW.step (F' := T6.setTop (mkF m 238 #[.val (.int p0), .val (.int p1), .val (.int p2), .val (.int p3), .val (.int p4), .val (.int (p2 &&& (3 : Int32))), .val (.int (own_hl p2)), .val (.int (own_n0 p0)), .val (.int (own_n1 p0)), .val (.int (own_n2 p0)), .val (.int x0), .val (.int x1), .val (.int x2), .val (.int an), .val (.int pt), .val (.int hp), .val (.ref b1), .val (.int (f10 b5_r hp b2_r (own_str (p2 &&& (3 : Int32)) (own_n0 p0) (own_n1 p0) (own_n2 p0)) (own_str (own_hl p2) x0 x1 x2) pt)), .unset, .unset, .unset] [])) (fun t kt => ?_) ?_
            · show Steps p.tables e below (T6.setTop (mkF m 228 #[.val (.int p0), .val (.int p1), .val (.int p2), .val (.int p3), .val (.int p4), .val (.int (p2 &&& (3 : Int32))), .val (.int (own_hl p2)), .val (.int (own_n0 p0)), .val (.int (own_n1 p0)), .val (.int (own_n2 p0)), .val (.int x0), .val (.int x1), .val (.int x2), .val (.int an), .val (.int pt), .val (.int hp), .val (.ref b1), .val (.int (f10 b5_r hp b2_r (own_str (p2 &&& (3 : Int32)) (own_n0 p0) (own_n1 p0) (own_n2 p0)) (own_str (own_hl p2) x0 x1 x2) pt)), .unset, .unset, .unset] [(.int (2 : Int32)), (.int (p2 &&& (3 : Int32)))])) t
              refine XS.icmpYes X6.here hx rfl (pc0 := 228) (pc' := 238) rfl (hb hby at_228) rfl (tlt hc228).1 (by decide) (by decide) ?_
              exact kt
            refine OGW.step (F' := T6.setTop (mkF m 241 #[.val (.int p0), .val (.int p1), .val (.int p2), .val (.int p3), .val (.int p4), .val (.int (p2 &&& (3 : Int32))), .val (.int (own_hl p2)), .val (.int (own_n0 p0)), .val (.int (own_n1 p0)), .val (.int (own_n2 p0)), .val (.int x0), .val (.int x1), .val (.int x2), .val (.int an), .val (.int pt), .val (.int hp), .val (.ref b1), .val (.int (f10 b5_r hp b2_r (own_str (p2 &&& (3 : Int32)) (own_n0 p0) (own_n1 p0) (own_n2 p0)) (own_str (own_hl p2) x0 x1 x2) pt)), .unset, .unset, .unset] [(.int (3 : Int32)), (.int (p2 &&& (3 : Int32)))])) (fun t kt => ?_) ?_
            · show Steps p.tables e below (T6.setTop (mkF m 238 #[.val (.int p0), .val (.int p1), .val (.int p2), .val (.int p3), .val (.int p4), .val (.int (p2 &&& (3 : Int32))), .val (.int (own_hl p2)), .val (.int (own_n0 p0)), .val (.int (own_n1 p0)), .val (.int (own_n2 p0)), .val (.int x0), .val (.int x1), .val (.int x2), .val (.int an), .val (.int pt), .val (.int hp), .val (.ref b1), .val (.int (f10 b5_r hp b2_r (own_str (p2 &&& (3 : Int32)) (own_n0 p0) (own_n1 p0) (own_n2 p0)) (own_str (own_hl p2) x0 x1 x2) pt)), .unset, .unset, .unset] [])) t
              refine XS.iload X6.here hx rfl (hb hby at_238) rfl ?_
              refine XS.iconst X6.here hx rfl (hb hby at_240) ?_
              exact kt
            by_cases hc241 : (p2 &&& (3 : Int32)) < (3 : Int32)
            · refine OGW.step (F' := T6.setTop (mkF m 251 #[.val (.int p0), .val (.int p1), .val (.int p2), .val (.int p3), .val (.int p4), .val (.int (p2 &&& (3 : Int32))), .val (.int (own_hl p2)), .val (.int (own_n0 p0)), .val (.int (own_n1 p0)), .val (.int (own_n2 p0)), .val (.int x0), .val (.int x1), .val (.int x2), .val (.int an), .val (.int pt), .val (.int hp), .val (.ref b1), .val (.int (f10 b5_r hp b2_r (own_str (p2 &&& (3 : Int32)) (own_n0 p0) (own_n1 p0) (own_n2 p0)) (own_str (own_hl p2) x0 x1 x2) pt)), .unset, .unset, .unset] [])) (fun t kt => ?_) ?_
              · show Steps p.tables e below (T6.setTop (mkF m 241 #[.val (.int p0), .val (.int p1), .val (.int p2), .val (.int p3), .val (.int p4), .val (.int (p2 &&& (3 : Int32))), .val (.int (own_hl p2)), .val (.int (own_n0 p0)), .val (.int (own_n1 p0)), .val (.int (own_n2 p0)), .val (.int x0), .val (.int x1), .val (.int x2), .val (.int an), .val (.int pt), .val (.int hp), .val (.ref b1), .val (.int (f10 b5_r hp b2_r (own_str (p2 &&& (3 : Int32)) (own_n0 p0) (own_n1 p0) (own_n2 p0)) (own_str (own_hl p2) x0 x1 x2) pt)), .unset, .unset, .unset] [(.int (3 : Int32)), (.int (p2 &&& (3 : Int32)))])) t
                refine XS.icmpYes X6.here hx rfl (pc0 := 241) (pc' := 251) rfl (hb hby at_241) rfl (tlt hc241).1 (by decide) (by decide) ?_
                exact kt
              refine OGW.step (F' := T6.setTop (mkF m 260 #[.val (.int p0), .val (.int p1), .val (.int p2), .val (.int p3), .val (.int p4), .val (.int (p2 &&& (3 : Int32))), .val (.int (own_hl p2)), .val (.int (own_n0 p0)), .val (.int (own_n1 p0)), .val (.int (own_n2 p0)), .val (.int x0), .val (.int x1), .val (.int x2), .val (.int an), .val (.int pt), .val (.int hp), .val (.ref b1), .val (.int (f10 b5_r hp b2_r (own_str (p2 &&& (3 : Int32)) (own_n0 p0) (own_n1 p0) (own_n2 p0)) (own_str (own_hl p2) x0 x1 x2) pt)), .val (.int (1 : Int32)), .unset, .unset] [(.int an)])) (fun t kt => ?_) ?_
              · show Steps p.tables e below (T6.setTop (mkF m 251 #[.val (.int p0), .val (.int p1), .val (.int p2), .val (.int p3), .val (.int p4), .val (.int (p2 &&& (3 : Int32))), .val (.int (own_hl p2)), .val (.int (own_n0 p0)), .val (.int (own_n1 p0)), .val (.int (own_n2 p0)), .val (.int x0), .val (.int x1), .val (.int x2), .val (.int an), .val (.int pt), .val (.int hp), .val (.ref b1), .val (.int (f10 b5_r hp b2_r (own_str (p2 &&& (3 : Int32)) (own_n0 p0) (own_n1 p0) (own_n2 p0)) (own_str (own_hl p2) x0 x1 x2) pt)), .unset, .unset, .unset] [])) t
                refine XS.iconst X6.here hx rfl (hb hby at_251) ?_
                refine XS.goto X6.here hx rfl (pc0 := 252) (pc' := 256) rfl (hb hby at_252) (by decide) (by decide) ?_
                refine XS.istore X6.here hx rfl (hb hby at_256) rfl (l' := #[.val (.int p0), .val (.int p1), .val (.int p2), .val (.int p3), .val (.int p4), .val (.int (p2 &&& (3 : Int32))), .val (.int (own_hl p2)), .val (.int (own_n0 p0)), .val (.int (own_n1 p0)), .val (.int (own_n2 p0)), .val (.int x0), .val (.int x1), .val (.int x2), .val (.int an), .val (.int pt), .val (.int hp), .val (.ref b1), .val (.int (f10 b5_r hp b2_r (own_str (p2 &&& (3 : Int32)) (own_n0 p0) (own_n1 p0) (own_n2 p0)) (own_str (own_hl p2) x0 x1 x2) pt)), .val (.int (1 : Int32)), .unset, .unset]) rfl ?_
                refine XS.iload X6.here hx rfl (hb hby at_258) rfl ?_
                exact kt
              by_cases hc260 : an = (0 : Int32)
              · refine OGW.step (F' := T6.setTop (mkF m 263 #[.val (.int p0), .val (.int p1), .val (.int p2), .val (.int p3), .val (.int p4), .val (.int (p2 &&& (3 : Int32))), .val (.int (own_hl p2)), .val (.int (own_n0 p0)), .val (.int (own_n1 p0)), .val (.int (own_n2 p0)), .val (.int x0), .val (.int x1), .val (.int x2), .val (.int an), .val (.int pt), .val (.int hp), .val (.ref b1), .val (.int (f10 b5_r hp b2_r (own_str (p2 &&& (3 : Int32)) (own_n0 p0) (own_n1 p0) (own_n2 p0)) (own_str (own_hl p2) x0 x1 x2) pt)), .val (.int (1 : Int32)), .unset, .unset] [])) (fun t kt => ?_) ?_
                · show Steps p.tables e below (T6.setTop (mkF m 260 #[.val (.int p0), .val (.int p1), .val (.int p2), .val (.int p3), .val (.int p4), .val (.int (p2 &&& (3 : Int32))), .val (.int (own_hl p2)), .val (.int (own_n0 p0)), .val (.int (own_n1 p0)), .val (.int (own_n2 p0)), .val (.int x0), .val (.int x1), .val (.int x2), .val (.int an), .val (.int pt), .val (.int hp), .val (.ref b1), .val (.int (f10 b5_r hp b2_r (own_str (p2 &&& (3 : Int32)) (own_n0 p0) (own_n1 p0) (own_n2 p0)) (own_str (own_hl p2) x0 x1 x2) pt)), .val (.int (1 : Int32)), .unset, .unset] [(.int an)])) t
                  refine XS.ifNo X6.here hx rfl (hb hby at_260) rfl ((if0 _ _).trans (teq hc260).2) ?_
                  exact kt
                refine OGW.step (F' := T6.setTop (mkF m 267 #[.val (.int p0), .val (.int p1), .val (.int p2), .val (.int p3), .val (.int p4), .val (.int (p2 &&& (3 : Int32))), .val (.int (own_hl p2)), .val (.int (own_n0 p0)), .val (.int (own_n1 p0)), .val (.int (own_n2 p0)), .val (.int x0), .val (.int x1), .val (.int x2), .val (.int an), .val (.int pt), .val (.int hp), .val (.ref b1), .val (.int (f10 b5_r hp b2_r (own_str (p2 &&& (3 : Int32)) (own_n0 p0) (own_n1 p0) (own_n2 p0)) (own_str (own_hl p2) x0 x1 x2) pt)), .val (.int (1 : Int32)), .unset, .unset] [(.int hp), (.int pt)])) (fun t kt => ?_) ?_
                · show Steps p.tables e below (T6.setTop (mkF m 263 #[.val (.int p0), .val (.int p1), .val (.int p2), .val (.int p3), .val (.int p4), .val (.int (p2 &&& (3 : Int32))), .val (.int (own_hl p2)), .val (.int (own_n0 p0)), .val (.int (own_n1 p0)), .val (.int (own_n2 p0)), .val (.int x0), .val (.int x1), .val (.int x2), .val (.int an), .val (.int pt), .val (.int hp), .val (.ref b1), .val (.int (f10 b5_r hp b2_r (own_str (p2 &&& (3 : Int32)) (own_n0 p0) (own_n1 p0) (own_n2 p0)) (own_str (own_hl p2) x0 x1 x2) pt)), .val (.int (1 : Int32)), .unset, .unset] [])) t
                  refine XS.iload X6.here hx rfl (hb hby at_263) rfl ?_
                  refine XS.iload X6.here hx rfl (hb hby at_265) rfl ?_
                  exact kt
                by_cases hc267 : pt = hp
                · refine OGW.step (F' := T6.setTop (mkF m 270 #[.val (.int p0), .val (.int p1), .val (.int p2), .val (.int p3), .val (.int p4), .val (.int (p2 &&& (3 : Int32))), .val (.int (own_hl p2)), .val (.int (own_n0 p0)), .val (.int (own_n1 p0)), .val (.int (own_n2 p0)), .val (.int x0), .val (.int x1), .val (.int x2), .val (.int an), .val (.int pt), .val (.int hp), .val (.ref b1), .val (.int (f10 b5_r hp b2_r (own_str (p2 &&& (3 : Int32)) (own_n0 p0) (own_n1 p0) (own_n2 p0)) (own_str (own_hl p2) x0 x1 x2) pt)), .val (.int (1 : Int32)), .unset, .unset] [])) (fun t kt => ?_) ?_
                  · show Steps p.tables e below (T6.setTop (mkF m 267 #[.val (.int p0), .val (.int p1), .val (.int p2), .val (.int p3), .val (.int p4), .val (.int (p2 &&& (3 : Int32))), .val (.int (own_hl p2)), .val (.int (own_n0 p0)), .val (.int (own_n1 p0)), .val (.int (own_n2 p0)), .val (.int x0), .val (.int x1), .val (.int x2), .val (.int an), .val (.int pt), .val (.int hp), .val (.ref b1), .val (.int (f10 b5_r hp b2_r (own_str (p2 &&& (3 : Int32)) (own_n0 p0) (own_n1 p0) (own_n2 p0)) (own_str (own_hl p2) x0 x1 x2) pt)), .val (.int (1 : Int32)), .unset, .unset] [(.int hp), (.int pt)])) t
                    refine XS.icmpNo X6.here hx rfl (hb hby at_267) rfl (teq hc267).2 ?_
                    exact kt
                  refine OGW.step (F' := T6.setTop (mkF m 306 #[.val (.int p0), .val (.int p1), .val (.int p2), .val (.int p3), .val (.int p4), .val (.int (p2 &&& (3 : Int32))), .val (.int (own_hl p2)), .val (.int (own_n0 p0)), .val (.int (own_n1 p0)), .val (.int (own_n2 p0)), .val (.int x0), .val (.int x1), .val (.int x2), .val (.int an), .val (.int pt), .val (.int hp), .val (.ref b1), .val (.int (f10 b5_r hp b2_r (own_str (p2 &&& (3 : Int32)) (own_n0 p0) (own_n1 p0) (own_n2 p0)) (own_str (own_hl p2) x0 x1 x2) pt)), .val (.int (1 : Int32)), .val (.int (1 : Int32)), .val (.int (1 : Int32))] [(.int (1 : Int32))])) (fun t kt => ?_) ?_
                  · show Steps p.tables e below (T6.setTop (mkF m 270 #[.val (.int p0), .val (.int p1), .val (.int p2), .val (.int p3), .val (.int p4), .val (.int (p2 &&& (3 : Int32))), .val (.int (own_hl p2)), .val (.int (own_n0 p0)), .val (.int (own_n1 p0)), .val (.int (own_n2 p0)), .val (.int x0), .val (.int x1), .val (.int x2), .val (.int an), .val (.int pt), .val (.int hp), .val (.ref b1), .val (.int (f10 b5_r hp b2_r (own_str (p2 &&& (3 : Int32)) (own_n0 p0) (own_n1 p0) (own_n2 p0)) (own_str (own_hl p2) x0 x1 x2) pt)), .val (.int (1 : Int32)), .unset, .unset] [])) t
                    refine XS.iconst X6.here hx rfl (hb hby at_270) ?_
                    refine XS.goto X6.here hx rfl (pc0 := 271) (pc' := 275) rfl (hb hby at_271) (by decide) (by decide) ?_
                    refine XS.istore X6.here hx rfl (hb hby at_275) rfl (l' := #[.val (.int p0), .val (.int p1), .val (.int p2), .val (.int p3), .val (.int p4), .val (.int (p2 &&& (3 : Int32))), .val (.int (own_hl p2)), .val (.int (own_n0 p0)), .val (.int (own_n1 p0)), .val (.int (own_n2 p0)), .val (.int x0), .val (.int x1), .val (.int x2), .val (.int an), .val (.int pt), .val (.int hp), .val (.ref b1), .val (.int (f10 b5_r hp b2_r (own_str (p2 &&& (3 : Int32)) (own_n0 p0) (own_n1 p0) (own_n2 p0)) (own_str (own_hl p2) x0 x1 x2) pt)), .val (.int (1 : Int32)), .val (.int (1 : Int32)), .unset]) rfl ?_
                    refine XS.iload X6.here hx rfl (hb hby at_277) rfl ?_
                    refine XS.ifNo X6.here hx rfl (hb hby at_279) rfl ((if0 _ _).trans (feq (by decide : ¬ ((1 : Int32) = (0 : Int32)))).1) ?_
                    refine XS.iload X6.here hx rfl (hb hby at_282) rfl ?_
                    refine XS.ifNo X6.here hx rfl (hb hby at_284) rfl ((if0 _ _).trans (feq (by decide : ¬ ((1 : Int32) = (0 : Int32)))).1) ?_
                    refine XS.iconst X6.here hx rfl (hb hby at_287) ?_
                    refine XS.goto X6.here hx rfl (pc0 := 288) (pc' := 292) rfl (hb hby at_288) (by decide) (by decide) ?_
                    refine XS.istore X6.here hx rfl (hb hby at_292) rfl (l' := #[.val (.int p0), .val (.int p1), .val (.int p2), .val (.int p3), .val (.int p4), .val (.int (p2 &&& (3 : Int32))), .val (.int (own_hl p2)), .val (.int (own_n0 p0)), .val (.int (own_n1 p0)), .val (.int (own_n2 p0)), .val (.int x0), .val (.int x1), .val (.int x2), .val (.int an), .val (.int pt), .val (.int hp), .val (.ref b1), .val (.int (f10 b5_r hp b2_r (own_str (p2 &&& (3 : Int32)) (own_n0 p0) (own_n1 p0) (own_n2 p0)) (own_str (own_hl p2) x0 x1 x2) pt)), .val (.int (1 : Int32)), .val (.int (1 : Int32)), .val (.int (1 : Int32))]) rfl ?_
                    refine XS.iload X6.here hx rfl (hb hby at_294) rfl ?_
                    refine XS.iload X6.here hx rfl (hb hby at_296) rfl ?_
                    refine XS.icmpNo X6.here hx rfl (hb hby at_298) rfl (teq ((own_fin _ _ (Nat.ne_of_lt (Nat.lt_of_lt_of_le (P2_0.keep K4).lt szo_b5_r)) _ _ _ _ _ _ _ _ _ _ _ (own_nl _) (own_nl _) (own_rn0 _) (own_rn1 _) (own_rn2 _) hx0 hx1 hx2 hap).1 ⟨⟨hc209, Or.inr hc222, Or.inl hc228, Or.inl hc241⟩, Or.inr hc267⟩)).2 ?_
                    refine XS.iconst X6.here hx rfl (hb hby at_301) ?_
                    refine XS.goto X6.here hx rfl (pc0 := 302) (pc' := 306) rfl (hb hby at_302) (by decide) (by decide) ?_
                    exact kt
                  refine OGW.retZ X6 hx hlk hS hk hZ hEL CR e6 (t := .boolean) (z' := (1 : Int32)) hret (by simp) (hb hby at_306) rfl ?_ (by decide) (by decide)
                  show Q0 Z p0 p1 p2 p3 p4 w_COMPACT_STRINGS h0 n0 _ T6.heap _
                  rw [e6]
                  exact ⟨rfl, N6, KC5⟩
                · refine OGW.step (F' := T6.setTop (mkF m 274 #[.val (.int p0), .val (.int p1), .val (.int p2), .val (.int p3), .val (.int p4), .val (.int (p2 &&& (3 : Int32))), .val (.int (own_hl p2)), .val (.int (own_n0 p0)), .val (.int (own_n1 p0)), .val (.int (own_n2 p0)), .val (.int x0), .val (.int x1), .val (.int x2), .val (.int an), .val (.int pt), .val (.int hp), .val (.ref b1), .val (.int (f10 b5_r hp b2_r (own_str (p2 &&& (3 : Int32)) (own_n0 p0) (own_n1 p0) (own_n2 p0)) (own_str (own_hl p2) x0 x1 x2) pt)), .val (.int (1 : Int32)), .unset, .unset] [])) (fun t kt => ?_) ?_
                  · show Steps p.tables e below (T6.setTop (mkF m 267 #[.val (.int p0), .val (.int p1), .val (.int p2), .val (.int p3), .val (.int p4), .val (.int (p2 &&& (3 : Int32))), .val (.int (own_hl p2)), .val (.int (own_n0 p0)), .val (.int (own_n1 p0)), .val (.int (own_n2 p0)), .val (.int x0), .val (.int x1), .val (.int x2), .val (.int an), .val (.int pt), .val (.int hp), .val (.ref b1), .val (.int (f10 b5_r hp b2_r (own_str (p2 &&& (3 : Int32)) (own_n0 p0) (own_n1 p0) (own_n2 p0)) (own_str (own_hl p2) x0 x1 x2) pt)), .val (.int (1 : Int32)), .unset, .unset] [(.int hp), (.int pt)])) t
                    refine XS.icmpYes X6.here hx rfl (pc0 := 267) (pc' := 274) rfl (hb hby at_267) rfl (feq hc267).2 (by decide) (by decide) ?_
                    exact kt
                  refine OGW.step (F' := T6.setTop (mkF m 306 #[.val (.int p0), .val (.int p1), .val (.int p2), .val (.int p3), .val (.int p4), .val (.int (p2 &&& (3 : Int32))), .val (.int (own_hl p2)), .val (.int (own_n0 p0)), .val (.int (own_n1 p0)), .val (.int (own_n2 p0)), .val (.int x0), .val (.int x1), .val (.int x2), .val (.int an), .val (.int pt), .val (.int hp), .val (.ref b1), .val (.int (f10 b5_r hp b2_r (own_str (p2 &&& (3 : Int32)) (own_n0 p0) (own_n1 p0) (own_n2 p0)) (own_str (own_hl p2) x0 x1 x2) pt)), .val (.int (1 : Int32)), .val (.int (0 : Int32)), .val (.int (0 : Int32))] [(.int (1 : Int32))])) (fun t kt => ?_) ?_
                  · show Steps p.tables e below (T6.setTop (mkF m 274 #[.val (.int p0), .val (.int p1), .val (.int p2), .val (.int p3), .val (.int p4), .val (.int (p2 &&& (3 : Int32))), .val (.int (own_hl p2)), .val (.int (own_n0 p0)), .val (.int (own_n1 p0)), .val (.int (own_n2 p0)), .val (.int x0), .val (.int x1), .val (.int x2), .val (.int an), .val (.int pt), .val (.int hp), .val (.ref b1), .val (.int (f10 b5_r hp b2_r (own_str (p2 &&& (3 : Int32)) (own_n0 p0) (own_n1 p0) (own_n2 p0)) (own_str (own_hl p2) x0 x1 x2) pt)), .val (.int (1 : Int32)), .unset, .unset] [])) t
                    refine XS.iconst X6.here hx rfl (hb hby at_274) ?_
                    refine XS.istore X6.here hx rfl (hb hby at_275) rfl (l' := #[.val (.int p0), .val (.int p1), .val (.int p2), .val (.int p3), .val (.int p4), .val (.int (p2 &&& (3 : Int32))), .val (.int (own_hl p2)), .val (.int (own_n0 p0)), .val (.int (own_n1 p0)), .val (.int (own_n2 p0)), .val (.int x0), .val (.int x1), .val (.int x2), .val (.int an), .val (.int pt), .val (.int hp), .val (.ref b1), .val (.int (f10 b5_r hp b2_r (own_str (p2 &&& (3 : Int32)) (own_n0 p0) (own_n1 p0) (own_n2 p0)) (own_str (own_hl p2) x0 x1 x2) pt)), .val (.int (1 : Int32)), .val (.int (0 : Int32)), .unset]) rfl ?_
                    refine XS.iload X6.here hx rfl (hb hby at_277) rfl ?_
                    refine XS.ifNo X6.here hx rfl (hb hby at_279) rfl ((if0 _ _).trans (feq (by decide : ¬ ((1 : Int32) = (0 : Int32)))).1) ?_
                    refine XS.iload X6.here hx rfl (hb hby at_282) rfl ?_
                    refine XS.ifYes X6.here hx rfl (pc0 := 284) (pc' := 291) rfl (hb hby at_284) rfl ((if0 _ _).trans (teq (by decide : (0 : Int32) = (0 : Int32))).1) (by decide) (by decide) ?_
                    refine XS.iconst X6.here hx rfl (hb hby at_291) ?_
                    refine XS.istore X6.here hx rfl (hb hby at_292) rfl (l' := #[.val (.int p0), .val (.int p1), .val (.int p2), .val (.int p3), .val (.int p4), .val (.int (p2 &&& (3 : Int32))), .val (.int (own_hl p2)), .val (.int (own_n0 p0)), .val (.int (own_n1 p0)), .val (.int (own_n2 p0)), .val (.int x0), .val (.int x1), .val (.int x2), .val (.int an), .val (.int pt), .val (.int hp), .val (.ref b1), .val (.int (f10 b5_r hp b2_r (own_str (p2 &&& (3 : Int32)) (own_n0 p0) (own_n1 p0) (own_n2 p0)) (own_str (own_hl p2) x0 x1 x2) pt)), .val (.int (1 : Int32)), .val (.int (0 : Int32)), .val (.int (0 : Int32))]) rfl ?_
                    refine XS.iload X6.here hx rfl (hb hby at_294) rfl ?_
                    refine XS.iload X6.here hx rfl (hb hby at_296) rfl ?_
                    refine XS.icmpNo X6.here hx rfl (hb hby at_298) rfl (teq ((own_fin _ _ (Nat.ne_of_lt (Nat.lt_of_lt_of_le (P2_0.keep K4).lt szo_b5_r)) _ _ _ _ _ _ _ _ _ _ _ (own_nl _) (own_nl _) (own_rn0 _) (own_rn1 _) (own_rn2 _) hx0 hx1 hx2 hap).2 (fun q => q.2.elim (fun z => z hc260) hc267))).2 ?_
                    refine XS.iconst X6.here hx rfl (hb hby at_301) ?_
                    refine XS.goto X6.here hx rfl (pc0 := 302) (pc' := 306) rfl (hb hby at_302) (by decide) (by decide) ?_
                    exact kt
                  refine OGW.retZ X6 hx hlk hS hk hZ hEL CR e6 (t := .boolean) (z' := (1 : Int32)) hret (by simp) (hb hby at_306) rfl ?_ (by decide) (by decide)
                  show Q0 Z p0 p1 p2 p3 p4 w_COMPACT_STRINGS h0 n0 _ T6.heap _
                  rw [e6]
                  exact ⟨rfl, N6, KC5⟩
              · refine OGW.step (F' := T6.setTop (mkF m 270 #[.val (.int p0), .val (.int p1), .val (.int p2), .val (.int p3), .val (.int p4), .val (.int (p2 &&& (3 : Int32))), .val (.int (own_hl p2)), .val (.int (own_n0 p0)), .val (.int (own_n1 p0)), .val (.int (own_n2 p0)), .val (.int x0), .val (.int x1), .val (.int x2), .val (.int an), .val (.int pt), .val (.int hp), .val (.ref b1), .val (.int (f10 b5_r hp b2_r (own_str (p2 &&& (3 : Int32)) (own_n0 p0) (own_n1 p0) (own_n2 p0)) (own_str (own_hl p2) x0 x1 x2) pt)), .val (.int (1 : Int32)), .unset, .unset] [])) (fun t kt => ?_) ?_
                · show Steps p.tables e below (T6.setTop (mkF m 260 #[.val (.int p0), .val (.int p1), .val (.int p2), .val (.int p3), .val (.int p4), .val (.int (p2 &&& (3 : Int32))), .val (.int (own_hl p2)), .val (.int (own_n0 p0)), .val (.int (own_n1 p0)), .val (.int (own_n2 p0)), .val (.int x0), .val (.int x1), .val (.int x2), .val (.int an), .val (.int pt), .val (.int hp), .val (.ref b1), .val (.int (f10 b5_r hp b2_r (own_str (p2 &&& (3 : Int32)) (own_n0 p0) (own_n1 p0) (own_n2 p0)) (own_str (own_hl p2) x0 x1 x2) pt)), .val (.int (1 : Int32)), .unset, .unset] [(.int an)])) t
                  refine XS.ifYes X6.here hx rfl (pc0 := 260) (pc' := 270) rfl (hb hby at_260) rfl ((if0 _ _).trans (feq hc260).2) (by decide) (by decide) ?_
                  exact kt
                refine OGW.step (F' := T6.setTop (mkF m 306 #[.val (.int p0), .val (.int p1), .val (.int p2), .val (.int p3), .val (.int p4), .val (.int (p2 &&& (3 : Int32))), .val (.int (own_hl p2)), .val (.int (own_n0 p0)), .val (.int (own_n1 p0)), .val (.int (own_n2 p0)), .val (.int x0), .val (.int x1), .val (.int x2), .val (.int an), .val (.int pt), .val (.int hp), .val (.ref b1), .val (.int (f10 b5_r hp b2_r (own_str (p2 &&& (3 : Int32)) (own_n0 p0) (own_n1 p0) (own_n2 p0)) (own_str (own_hl p2) x0 x1 x2) pt)), .val (.int (1 : Int32)), .val (.int (1 : Int32)), .val (.int (1 : Int32))] [(.int (1 : Int32))])) (fun t kt => ?_) ?_
                · show Steps p.tables e below (T6.setTop (mkF m 270 #[.val (.int p0), .val (.int p1), .val (.int p2), .val (.int p3), .val (.int p4), .val (.int (p2 &&& (3 : Int32))), .val (.int (own_hl p2)), .val (.int (own_n0 p0)), .val (.int (own_n1 p0)), .val (.int (own_n2 p0)), .val (.int x0), .val (.int x1), .val (.int x2), .val (.int an), .val (.int pt), .val (.int hp), .val (.ref b1), .val (.int (f10 b5_r hp b2_r (own_str (p2 &&& (3 : Int32)) (own_n0 p0) (own_n1 p0) (own_n2 p0)) (own_str (own_hl p2) x0 x1 x2) pt)), .val (.int (1 : Int32)), .unset, .unset] [])) t
                  refine XS.iconst X6.here hx rfl (hb hby at_270) ?_
                  refine XS.goto X6.here hx rfl (pc0 := 271) (pc' := 275) rfl (hb hby at_271) (by decide) (by decide) ?_
                  refine XS.istore X6.here hx rfl (hb hby at_275) rfl (l' := #[.val (.int p0), .val (.int p1), .val (.int p2), .val (.int p3), .val (.int p4), .val (.int (p2 &&& (3 : Int32))), .val (.int (own_hl p2)), .val (.int (own_n0 p0)), .val (.int (own_n1 p0)), .val (.int (own_n2 p0)), .val (.int x0), .val (.int x1), .val (.int x2), .val (.int an), .val (.int pt), .val (.int hp), .val (.ref b1), .val (.int (f10 b5_r hp b2_r (own_str (p2 &&& (3 : Int32)) (own_n0 p0) (own_n1 p0) (own_n2 p0)) (own_str (own_hl p2) x0 x1 x2) pt)), .val (.int (1 : Int32)), .val (.int (1 : Int32)), .unset]) rfl ?_
                  refine XS.iload X6.here hx rfl (hb hby at_277) rfl ?_
                  refine XS.ifNo X6.here hx rfl (hb hby at_279) rfl ((if0 _ _).trans (feq (by decide : ¬ ((1 : Int32) = (0 : Int32)))).1) ?_
                  refine XS.iload X6.here hx rfl (hb hby at_282) rfl ?_
                  refine XS.ifNo X6.here hx rfl (hb hby at_284) rfl ((if0 _ _).trans (feq (by decide : ¬ ((1 : Int32) = (0 : Int32)))).1) ?_
                  refine XS.iconst X6.here hx rfl (hb hby at_287) ?_
                  refine XS.goto X6.here hx rfl (pc0 := 288) (pc' := 292) rfl (hb hby at_288) (by decide) (by decide) ?_
                  refine XS.istore X6.here hx rfl (hb hby at_292) rfl (l' := #[.val (.int p0), .val (.int p1), .val (.int p2), .val (.int p3), .val (.int p4), .val (.int (p2 &&& (3 : Int32))), .val (.int (own_hl p2)), .val (.int (own_n0 p0)), .val (.int (own_n1 p0)), .val (.int (own_n2 p0)), .val (.int x0), .val (.int x1), .val (.int x2), .val (.int an), .val (.int pt), .val (.int hp), .val (.ref b1), .val (.int (f10 b5_r hp b2_r (own_str (p2 &&& (3 : Int32)) (own_n0 p0) (own_n1 p0) (own_n2 p0)) (own_str (own_hl p2) x0 x1 x2) pt)), .val (.int (1 : Int32)), .val (.int (1 : Int32)), .val (.int (1 : Int32))]) rfl ?_
                  refine XS.iload X6.here hx rfl (hb hby at_294) rfl ?_
                  refine XS.iload X6.here hx rfl (hb hby at_296) rfl ?_
                  refine XS.icmpNo X6.here hx rfl (hb hby at_298) rfl (teq ((own_fin _ _ (Nat.ne_of_lt (Nat.lt_of_lt_of_le (P2_0.keep K4).lt szo_b5_r)) _ _ _ _ _ _ _ _ _ _ _ (own_nl _) (own_nl _) (own_rn0 _) (own_rn1 _) (own_rn2 _) hx0 hx1 hx2 hap).1 ⟨⟨hc209, Or.inr hc222, Or.inl hc228, Or.inl hc241⟩, Or.inl hc260⟩)).2 ?_
                  refine XS.iconst X6.here hx rfl (hb hby at_301) ?_
                  refine XS.goto X6.here hx rfl (pc0 := 302) (pc' := 306) rfl (hb hby at_302) (by decide) (by decide) ?_
                  exact kt
                refine OGW.retZ X6 hx hlk hS hk hZ hEL CR e6 (t := .boolean) (z' := (1 : Int32)) hret (by simp) (hb hby at_306) rfl ?_ (by decide) (by decide)
                show Q0 Z p0 p1 p2 p3 p4 w_COMPACT_STRINGS h0 n0 _ T6.heap _
                rw [e6]
                exact ⟨rfl, N6, KC5⟩
            · refine OGW.step (F' := T6.setTop (mkF m 244 #[.val (.int p0), .val (.int p1), .val (.int p2), .val (.int p3), .val (.int p4), .val (.int (p2 &&& (3 : Int32))), .val (.int (own_hl p2)), .val (.int (own_n0 p0)), .val (.int (own_n1 p0)), .val (.int (own_n2 p0)), .val (.int x0), .val (.int x1), .val (.int x2), .val (.int an), .val (.int pt), .val (.int hp), .val (.ref b1), .val (.int (f10 b5_r hp b2_r (own_str (p2 &&& (3 : Int32)) (own_n0 p0) (own_n1 p0) (own_n2 p0)) (own_str (own_hl p2) x0 x1 x2) pt)), .unset, .unset, .unset] [])) (fun t kt => ?_) ?_
              · show Steps p.tables e below (T6.setTop (mkF m 241 #[.val (.int p0), .val (.int p1), .val (.int p2), .val (.int p3), .val (.int p4), .val (.int (p2 &&& (3 : Int32))), .val (.int (own_hl p2)), .val (.int (own_n0 p0)), .val (.int (own_n1 p0)), .val (.int (own_n2 p0)), .val (.int x0), .val (.int x1), .val (.int x2), .val (.int an), .val (.int pt), .val (.int hp), .val (.ref b1), .val (.int (f10 b5_r hp b2_r (own_str (p2 &&& (3 : Int32)) (own_n0 p0) (own_n1 p0) (own_n2 p0)) (own_str (own_hl p2) x0 x1 x2) pt)), .unset, .unset, .unset] [(.int (3 : Int32)), (.int (p2 &&& (3 : Int32)))])) t
                refine XS.icmpNo X6.here hx rfl (hb hby at_241) rfl (flt hc241).1 ?_
                exact kt
              refine OGW.step (F' := T6.setTop (mkF m 248 #[.val (.int p0), .val (.int p1), .val (.int p2), .val (.int p3), .val (.int p4), .val (.int (p2 &&& (3 : Int32))), .val (.int (own_hl p2)), .val (.int (own_n0 p0)), .val (.int (own_n1 p0)), .val (.int (own_n2 p0)), .val (.int x0), .val (.int x1), .val (.int x2), .val (.int an), .val (.int pt), .val (.int hp), .val (.ref b1), .val (.int (f10 b5_r hp b2_r (own_str (p2 &&& (3 : Int32)) (own_n0 p0) (own_n1 p0) (own_n2 p0)) (own_str (own_hl p2) x0 x1 x2) pt)), .unset, .unset, .unset] [(.int x2), (.int (own_n2 p0))])) (fun t kt => ?_) ?_
              · show Steps p.tables e below (T6.setTop (mkF m 244 #[.val (.int p0), .val (.int p1), .val (.int p2), .val (.int p3), .val (.int p4), .val (.int (p2 &&& (3 : Int32))), .val (.int (own_hl p2)), .val (.int (own_n0 p0)), .val (.int (own_n1 p0)), .val (.int (own_n2 p0)), .val (.int x0), .val (.int x1), .val (.int x2), .val (.int an), .val (.int pt), .val (.int hp), .val (.ref b1), .val (.int (f10 b5_r hp b2_r (own_str (p2 &&& (3 : Int32)) (own_n0 p0) (own_n1 p0) (own_n2 p0)) (own_str (own_hl p2) x0 x1 x2) pt)), .unset, .unset, .unset] [])) t
                refine XS.iload X6.here hx rfl (hb hby at_244) rfl ?_
                refine XS.iload X6.here hx rfl (hb hby at_246) rfl ?_
                exact kt
              by_cases hc248 : (own_n2 p0) = x2
              · refine OGW.step (F' := T6.setTop (mkF m 251 #[.val (.int p0), .val (.int p1), .val (.int p2), .val (.int p3), .val (.int p4), .val (.int (p2 &&& (3 : Int32))), .val (.int (own_hl p2)), .val (.int (own_n0 p0)), .val (.int (own_n1 p0)), .val (.int (own_n2 p0)), .val (.int x0), .val (.int x1), .val (.int x2), .val (.int an), .val (.int pt), .val (.int hp), .val (.ref b1), .val (.int (f10 b5_r hp b2_r (own_str (p2 &&& (3 : Int32)) (own_n0 p0) (own_n1 p0) (own_n2 p0)) (own_str (own_hl p2) x0 x1 x2) pt)), .unset, .unset, .unset] [])) (fun t kt => ?_) ?_
                · show Steps p.tables e below (T6.setTop (mkF m 248 #[.val (.int p0), .val (.int p1), .val (.int p2), .val (.int p3), .val (.int p4), .val (.int (p2 &&& (3 : Int32))), .val (.int (own_hl p2)), .val (.int (own_n0 p0)), .val (.int (own_n1 p0)), .val (.int (own_n2 p0)), .val (.int x0), .val (.int x1), .val (.int x2), .val (.int an), .val (.int pt), .val (.int hp), .val (.ref b1), .val (.int (f10 b5_r hp b2_r (own_str (p2 &&& (3 : Int32)) (own_n0 p0) (own_n1 p0) (own_n2 p0)) (own_str (own_hl p2) x0 x1 x2) pt)), .unset, .unset, .unset] [(.int x2), (.int (own_n2 p0))])) t
                  refine XS.icmpNo X6.here hx rfl (hb hby at_248) rfl (teq hc248).2 ?_
                  exact kt
                refine OGW.step (F' := T6.setTop (mkF m 260 #[.val (.int p0), .val (.int p1), .val (.int p2), .val (.int p3), .val (.int p4), .val (.int (p2 &&& (3 : Int32))), .val (.int (own_hl p2)), .val (.int (own_n0 p0)), .val (.int (own_n1 p0)), .val (.int (own_n2 p0)), .val (.int x0), .val (.int x1), .val (.int x2), .val (.int an), .val (.int pt), .val (.int hp), .val (.ref b1), .val (.int (f10 b5_r hp b2_r (own_str (p2 &&& (3 : Int32)) (own_n0 p0) (own_n1 p0) (own_n2 p0)) (own_str (own_hl p2) x0 x1 x2) pt)), .val (.int (1 : Int32)), .unset, .unset] [(.int an)])) (fun t kt => ?_) ?_
                · show Steps p.tables e below (T6.setTop (mkF m 251 #[.val (.int p0), .val (.int p1), .val (.int p2), .val (.int p3), .val (.int p4), .val (.int (p2 &&& (3 : Int32))), .val (.int (own_hl p2)), .val (.int (own_n0 p0)), .val (.int (own_n1 p0)), .val (.int (own_n2 p0)), .val (.int x0), .val (.int x1), .val (.int x2), .val (.int an), .val (.int pt), .val (.int hp), .val (.ref b1), .val (.int (f10 b5_r hp b2_r (own_str (p2 &&& (3 : Int32)) (own_n0 p0) (own_n1 p0) (own_n2 p0)) (own_str (own_hl p2) x0 x1 x2) pt)), .unset, .unset, .unset] [])) t
                  refine XS.iconst X6.here hx rfl (hb hby at_251) ?_
                  refine XS.goto X6.here hx rfl (pc0 := 252) (pc' := 256) rfl (hb hby at_252) (by decide) (by decide) ?_
                  refine XS.istore X6.here hx rfl (hb hby at_256) rfl (l' := #[.val (.int p0), .val (.int p1), .val (.int p2), .val (.int p3), .val (.int p4), .val (.int (p2 &&& (3 : Int32))), .val (.int (own_hl p2)), .val (.int (own_n0 p0)), .val (.int (own_n1 p0)), .val (.int (own_n2 p0)), .val (.int x0), .val (.int x1), .val (.int x2), .val (.int an), .val (.int pt), .val (.int hp), .val (.ref b1), .val (.int (f10 b5_r hp b2_r (own_str (p2 &&& (3 : Int32)) (own_n0 p0) (own_n1 p0) (own_n2 p0)) (own_str (own_hl p2) x0 x1 x2) pt)), .val (.int (1 : Int32)), .unset, .unset]) rfl ?_
                  refine XS.iload X6.here hx rfl (hb hby at_258) rfl ?_
                  exact kt
                by_cases hc260 : an = (0 : Int32)
                · refine OGW.step (F' := T6.setTop (mkF m 263 #[.val (.int p0), .val (.int p1), .val (.int p2), .val (.int p3), .val (.int p4), .val (.int (p2 &&& (3 : Int32))), .val (.int (own_hl p2)), .val (.int (own_n0 p0)), .val (.int (own_n1 p0)), .val (.int (own_n2 p0)), .val (.int x0), .val (.int x1), .val (.int x2), .val (.int an), .val (.int pt), .val (.int hp), .val (.ref b1), .val (.int (f10 b5_r hp b2_r (own_str (p2 &&& (3 : Int32)) (own_n0 p0) (own_n1 p0) (own_n2 p0)) (own_str (own_hl p2) x0 x1 x2) pt)), .val (.int (1 : Int32)), .unset, .unset] [])) (fun t kt => ?_) ?_
                  · show Steps p.tables e below (T6.setTop (mkF m 260 #[.val (.int p0), .val (.int p1), .val (.int p2), .val (.int p3), .val (.int p4), .val (.int (p2 &&& (3 : Int32))), .val (.int (own_hl p2)), .val (.int (own_n0 p0)), .val (.int (own_n1 p0)), .val (.int (own_n2 p0)), .val (.int x0), .val (.int x1), .val (.int x2), .val (.int an), .val (.int pt), .val (.int hp), .val (.ref b1), .val (.int (f10 b5_r hp b2_r (own_str (p2 &&& (3 : Int32)) (own_n0 p0) (own_n1 p0) (own_n2 p0)) (own_str (own_hl p2) x0 x1 x2) pt)), .val (.int (1 : Int32)), .unset, .unset] [(.int an)])) t
                    refine XS.ifNo X6.here hx rfl (hb hby at_260) rfl ((if0 _ _).trans (teq hc260).2) ?_
                    exact kt
                  refine OGW.step (F' := T6.setTop (mkF m 267 #[.val (.int p0), .val (.int p1), .val (.int p2), .val (.int p3), .val (.int p4), .val (.int (p2 &&& (3 : Int32))), .val (.int (own_hl p2)), .val (.int (own_n0 p0)), .val (.int (own_n1 p0)), .val (.int (own_n2 p0)), .val (.int x0), .val (.int x1), .val (.int x2), .val (.int an), .val (.int pt), .val (.int hp), .val (.ref b1), .val (.int (f10 b5_r hp b2_r (own_str (p2 &&& (3 : Int32)) (own_n0 p0) (own_n1 p0) (own_n2 p0)) (own_str (own_hl p2) x0 x1 x2) pt)), .val (.int (1 : Int32)), .unset, .unset] [(.int hp), (.int pt)])) (fun t kt => ?_) ?_
                  · show Steps p.tables e below (T6.setTop (mkF m 263 #[.val (.int p0), .val (.int p1), .val (.int p2), .val (.int p3), .val (.int p4), .val (.int (p2 &&& (3 : Int32))), .val (.int (own_hl p2)), .val (.int (own_n0 p0)), .val (.int (own_n1 p0)), .val (.int (own_n2 p0)), .val (.int x0), .val (.int x1), .val (.int x2), .val (.int an), .val (.int pt), .val (.int hp), .val (.ref b1), .val (.int (f10 b5_r hp b2_r (own_str (p2 &&& (3 : Int32)) (own_n0 p0) (own_n1 p0) (own_n2 p0)) (own_str (own_hl p2) x0 x1 x2) pt)), .val (.int (1 : Int32)), .unset, .unset] [])) t
                    refine XS.iload X6.here hx rfl (hb hby at_263) rfl ?_
                    refine XS.iload X6.here hx rfl (hb hby at_265) rfl ?_
                    exact kt
                  by_cases hc267 : pt = hp
                  · refine OGW.step (F' := T6.setTop (mkF m 270 #[.val (.int p0), .val (.int p1), .val (.int p2), .val (.int p3), .val (.int p4), .val (.int (p2 &&& (3 : Int32))), .val (.int (own_hl p2)), .val (.int (own_n0 p0)), .val (.int (own_n1 p0)), .val (.int (own_n2 p0)), .val (.int x0), .val (.int x1), .val (.int x2), .val (.int an), .val (.int pt), .val (.int hp), .val (.ref b1), .val (.int (f10 b5_r hp b2_r (own_str (p2 &&& (3 : Int32)) (own_n0 p0) (own_n1 p0) (own_n2 p0)) (own_str (own_hl p2) x0 x1 x2) pt)), .val (.int (1 : Int32)), .unset, .unset] [])) (fun t kt => ?_) ?_
                    · show Steps p.tables e below (T6.setTop (mkF m 267 #[.val (.int p0), .val (.int p1), .val (.int p2), .val (.int p3), .val (.int p4), .val (.int (p2 &&& (3 : Int32))), .val (.int (own_hl p2)), .val (.int (own_n0 p0)), .val (.int (own_n1 p0)), .val (.int (own_n2 p0)), .val (.int x0), .val (.int x1), .val (.int x2), .val (.int an), .val (.int pt), .val (.int hp), .val (.ref b1), .val (.int (f10 b5_r hp b2_r (own_str (p2 &&& (3 : Int32)) (own_n0 p0) (own_n1 p0) (own_n2 p0)) (own_str (own_hl p2) x0 x1 x2) pt)), .val (.int (1 : Int32)), .unset, .unset] [(.int hp), (.int pt)])) t
                      refine XS.icmpNo X6.here hx rfl (hb hby at_267) rfl (teq hc267).2 ?_
                      exact kt
                    refine OGW.step (F' := T6.setTop (mkF m 306 #[.val (.int p0), .val (.int p1), .val (.int p2), .val (.int p3), .val (.int p4), .val (.int (p2 &&& (3 : Int32))), .val (.int (own_hl p2)), .val (.int (own_n0 p0)), .val (.int (own_n1 p0)), .val (.int (own_n2 p0)), .val (.int x0), .val (.int x1), .val (.int x2), .val (.int an), .val (.int pt), .val (.int hp), .val (.ref b1), .val (.int (f10 b5_r hp b2_r (own_str (p2 &&& (3 : Int32)) (own_n0 p0) (own_n1 p0) (own_n2 p0)) (own_str (own_hl p2) x0 x1 x2) pt)), .val (.int (1 : Int32)), .val (.int (1 : Int32)), .val (.int (1 : Int32))] [(.int (1 : Int32))])) (fun t kt => ?_) ?_
                    · show Steps p.tables e below (T6.setTop (mkF m 270 #[.val (.int p0), .val (.int p1), .val (.int p2), .val (.int p3), .val (.int p4), .val (.int (p2 &&& (3 : Int32))), .val (.int (own_hl p2)), .val (.int (own_n0 p0)), .val (.int (own_n1 p0)), .val (.int (own_n2 p0)), .val (.int x0), .val (.int x1), .val (.int x2), .val (.int an), .val (.int pt), .val (.int hp), .val (.ref b1), .val (.int (f10 b5_r hp b2_r (own_str (p2 &&& (3 : Int32)) (own_n0 p0) (own_n1 p0) (own_n2 p0)) (own_str (own_hl p2) x0 x1 x2) pt)), .val (.int (1 : Int32)), .unset, .unset] [])) t
                      refine XS.iconst X6.here hx rfl (hb hby at_270) ?_
                      refine XS.goto X6.here hx rfl (pc0 := 271) (pc' := 275) rfl (hb hby at_271) (by decide) (by decide) ?_
                      refine XS.istore X6.here hx rfl (hb hby at_275) rfl (l' := #[.val (.int p0), .val (.int p1), .val (.int p2), .val (.int p3), .val (.int p4), .val (.int (p2 &&& (3 : Int32))), .val (.int (own_hl p2)), .val (.int (own_n0 p0)), .val (.int (own_n1 p0)), .val (.int (own_n2 p0)), .val (.int x0), .val (.int x1), .val (.int x2), .val (.int an), .val (.int pt), .val (.int hp), .val (.ref b1), .val (.int (f10 b5_r hp b2_r (own_str (p2 &&& (3 : Int32)) (own_n0 p0) (own_n1 p0) (own_n2 p0)) (own_str (own_hl p2) x0 x1 x2) pt)), .val (.int (1 : Int32)), .val (.int (1 : Int32)), .unset]) rfl ?_
                      refine XS.iload X6.here hx rfl (hb hby at_277) rfl ?_
                      refine XS.ifNo X6.here hx rfl (hb hby at_279) rfl ((if0 _ _).trans (feq (by decide : ¬ ((1 : Int32) = (0 : Int32)))).1) ?_
                      refine XS.iload X6.here hx rfl (hb hby at_282) rfl ?_
                      refine XS.ifNo X6.here hx rfl (hb hby at_284) rfl ((if0 _ _).trans (feq (by decide : ¬ ((1 : Int32) = (0 : Int32)))).1) ?_
                      refine XS.iconst X6.here hx rfl (hb hby at_287) ?_
                      refine XS.goto X6.here hx rfl (pc0 := 288) (pc' := 292) rfl (hb hby at_288) (by decide) (by decide) ?_
                      refine XS.istore X6.here hx rfl (hb hby at_292) rfl (l' := #[.val (.int p0), .val (.int p1), .val (.int p2), .val (.int p3), .val (.int p4), .val (.int (p2 &&& (3 : Int32))), .val (.int (own_hl p2)), .val (.int (own_n0 p0)), .val (.int (own_n1 p0)), .val (.int (own_n2 p0)), .val (.int x0), .val (.int x1), .val (.int x2), .val (.int an), .val (.int pt), .val (.int hp), .val (.ref b1), .val (.int (f10 b5_r hp b2_r (own_str (p2 &&& (3 : Int32)) (own_n0 p0) (own_n1 p0) (own_n2 p0)) (own_str (own_hl p2) x0 x1 x2) pt)), .val (.int (1 : Int32)), .val (.int (1 : Int32)), .val (.int (1 : Int32))]) rfl ?_
                      refine XS.iload X6.here hx rfl (hb hby at_294) rfl ?_
                      refine XS.iload X6.here hx rfl (hb hby at_296) rfl ?_
                      refine XS.icmpNo X6.here hx rfl (hb hby at_298) rfl (teq ((own_fin _ _ (Nat.ne_of_lt (Nat.lt_of_lt_of_le (P2_0.keep K4).lt szo_b5_r)) _ _ _ _ _ _ _ _ _ _ _ (own_nl _) (own_nl _) (own_rn0 _) (own_rn1 _) (own_rn2 _) hx0 hx1 hx2 hap).1 ⟨⟨hc209, Or.inr hc222, Or.inl hc228, Or.inr hc248⟩, Or.inr hc267⟩)).2 ?_
                      refine XS.iconst X6.here hx rfl (hb hby at_301) ?_
                      refine XS.goto X6.here hx rfl (pc0 := 302) (pc' := 306) rfl (hb hby at_302) (by decide) (by decide) ?_
                      exact kt
                    refine OGW.retZ X6 hx hlk hS hk hZ hEL CR e6 (t := .boolean) (z' := (1 : Int32)) hret (by simp) (hb hby at_306) rfl ?_ (by decide) (by decide)
                    show Q0 Z p0 p1 p2 p3 p4 w_COMPACT_STRINGS h0 n0 _ T6.heap _
                    rw [e6]
                    exact ⟨rfl, N6, KC5⟩
                  · refine OGW.step (F' := T6.setTop (mkF m 274 #[.val (.int p0), .val (.int p1), .val (.int p2), .val (.int p3), .val (.int p4), .val (.int (p2 &&& (3 : Int32))), .val (.int (own_hl p2)), .val (.int (own_n0 p0)), .val (.int (own_n1 p0)), .val (.int (own_n2 p0)), .val (.int x0), .val (.int x1), .val (.int x2), .val (.int an), .val (.int pt), .val (.int hp), .val (.ref b1), .val (.int (f10 b5_r hp b2_r (own_str (p2 &&& (3 : Int32)) (own_n0 p0) (own_n1 p0) (own_n2 p0)) (own_str (own_hl p2) x0 x1 x2) pt)), .val (.int (1 : Int32)), .unset, .unset] [])) (fun t kt => ?_) ?_
                    · show Steps p.tables e below (T6.setTop (mkF m 267 #[.val (.int p0), .val (.int p1), .val (.int p2), .val (.int p3), .val (.int p4), .val (.int (p2 &&& (3 : Int32))), .val (.int (own_hl p2)), .val (.int (own_n0 p0)), .val (.int (own_n1 p0)), .val (.int (own_n2 p0)), .val (.int x0), .val (.int x1), .val (.int x2), .val (.int an), .val (.int pt), .val (.int hp), .val (.ref b1), .val (.int (f10 b5_r hp b2_r (own_str (p2 &&& (3 : Int32)) (own_n0 p0) (own_n1 p0) (own_n2 p0)) (own_str (own_hl p2) x0 x1 x2) pt)), .val (.int (1 : Int32)), .unset, .unset] [(.int hp), (.int pt)])) t
                      refine XS.icmpYes X6.here hx rfl (pc0 := 267) (pc' := 274) rfl (hb hby at_267) rfl (feq hc267).2 (by decide) (by decide) ?_
                      exact kt
                    refine OGW.step (F' := T6.setTop (mkF m 306 #[.val (.int p0), .val (.int p1), .val (.int p2), .val (.int p3), .val (.int p4), .val (.int (p2 &&& (3 : Int32))), .val (.int (own_hl p2)), .val (.int (own_n0 p0)), .val (.int (own_n1 p0)), .val (.int (own_n2 p0)), .val (.int x0), .val (.int x1), .val (.int x2), .val (.int an), .val (.int pt), .val (.int hp), .val (.ref b1), .val (.int (f10 b5_r hp b2_r (own_str (p2 &&& (3 : Int32)) (own_n0 p0) (own_n1 p0) (own_n2 p0)) (own_str (own_hl p2) x0 x1 x2) pt)), .val (.int (1 : Int32)), .val (.int (0 : Int32)), .val (.int (0 : Int32))] [(.int (1 : Int32))])) (fun t kt => ?_) ?_
                    · show Steps p.tables e below (T6.setTop (mkF m 274 #[.val (.int p0), .val (.int p1), .val (.int p2), .val (.int p3), .val (.int p4), .val (.int (p2 &&& (3 : Int32))), .val (.int (own_hl p2)), .val (.int (own_n0 p0)), .val (.int (own_n1 p0)), .val (.int (own_n2 p0)), .val (.int x0), .val (.int x1), .val (.int x2), .val (.int an), .val (.int pt), .val (.int hp), .val (.ref b1), .val (.int (f10 b5_r hp b2_r (own_str (p2 &&& (3 : Int32)) (own_n0 p0) (own_n1 p0) (own_n2 p0)) (own_str (own_hl p2) x0 x1 x2) pt)), .val (.int (1 : Int32)), .unset, .unset] [])) t
                      refine XS.iconst X6.here hx rfl (hb hby at_274) ?_
                      refine XS.istore X6.here hx rfl (hb hby at_275) rfl (l' := #[.val (.int p0), .val (.int p1), .val (.int p2), .val (.int p3), .val (.int p4), .val (.int (p2 &&& (3 : Int32))), .val (.int (own_hl p2)), .val (.int (own_n0 p0)), .val (.int (own_n1 p0)), .val (.int (own_n2 p0)), .val (.int x0), .val (.int x1), .val (.int x2), .val (.int an), .val (.int pt), .val (.int hp), .val (.ref b1), .val (.int (f10 b5_r hp b2_r (own_str (p2 &&& (3 : Int32)) (own_n0 p0) (own_n1 p0) (own_n2 p0)) (own_str (own_hl p2) x0 x1 x2) pt)), .val (.int (1 : Int32)), .val (.int (0 : Int32)), .unset]) rfl ?_
                      refine XS.iload X6.here hx rfl (hb hby at_277) rfl ?_
                      refine XS.ifNo X6.here hx rfl (hb hby at_279) rfl ((if0 _ _).trans (feq (by decide : ¬ ((1 : Int32) = (0 : Int32)))).1) ?_
                      refine XS.iload X6.here hx rfl (hb hby at_282) rfl ?_
                      refine XS.ifYes X6.here hx rfl (pc0 := 284) (pc' := 291) rfl (hb hby at_284) rfl ((if0 _ _).trans (teq (by decide : (0 : Int32) = (0 : Int32))).1) (by decide) (by decide) ?_
                      refine XS.iconst X6.here hx rfl (hb hby at_291) ?_
                      refine XS.istore X6.here hx rfl (hb hby at_292) rfl (l' := #[.val (.int p0), .val (.int p1), .val (.int p2), .val (.int p3), .val (.int p4), .val (.int (p2 &&& (3 : Int32))), .val (.int (own_hl p2)), .val (.int (own_n0 p0)), .val (.int (own_n1 p0)), .val (.int (own_n2 p0)), .val (.int x0), .val (.int x1), .val (.int x2), .val (.int an), .val (.int pt), .val (.int hp), .val (.ref b1), .val (.int (f10 b5_r hp b2_r (own_str (p2 &&& (3 : Int32)) (own_n0 p0) (own_n1 p0) (own_n2 p0)) (own_str (own_hl p2) x0 x1 x2) pt)), .val (.int (1 : Int32)), .val (.int (0 : Int32)), .val (.int (0 : Int32))]) rfl ?_
                      refine XS.iload X6.here hx rfl (hb hby at_294) rfl ?_
                      refine XS.iload X6.here hx rfl (hb hby at_296) rfl ?_
                      refine XS.icmpNo X6.here hx rfl (hb hby at_298) rfl (teq ((own_fin _ _ (Nat.ne_of_lt (Nat.lt_of_lt_of_le (P2_0.keep K4).lt szo_b5_r)) _ _ _ _ _ _ _ _ _ _ _ (own_nl _) (own_nl _) (own_rn0 _) (own_rn1 _) (own_rn2 _) hx0 hx1 hx2 hap).2 (fun q => q.2.elim (fun z => z hc260) hc267))).2 ?_
                      refine XS.iconst X6.here hx rfl (hb hby at_301) ?_
                      refine XS.goto X6.here hx rfl (pc0 := 302) (pc' := 306) rfl (hb hby at_302) (by decide) (by decide) ?_
                      exact kt
                    refine OGW.retZ X6 hx hlk hS hk hZ hEL CR e6 (t := .boolean) (z' := (1 : Int32)) hret (by simp) (hb hby at_306) rfl ?_ (by decide) (by decide)
                    show Q0 Z p0 p1 p2 p3 p4 w_COMPACT_STRINGS h0 n0 _ T6.heap _
                    rw [e6]
                    exact ⟨rfl, N6, KC5⟩
                · refine OGW.step (F' := T6.setTop (mkF m 270 #[.val (.int p0), .val (.int p1), .val (.int p2), .val (.int p3), .val (.int p4), .val (.int (p2 &&& (3 : Int32))), .val (.int (own_hl p2)), .val (.int (own_n0 p0)), .val (.int (own_n1 p0)), .val (.int (own_n2 p0)), .val (.int x0), .val (.int x1), .val (.int x2), .val (.int an), .val (.int pt), .val (.int hp), .val (.ref b1), .val (.int (f10 b5_r hp b2_r (own_str (p2 &&& (3 : Int32)) (own_n0 p0) (own_n1 p0) (own_n2 p0)) (own_str (own_hl p2) x0 x1 x2) pt)), .val (.int (1 : Int32)), .unset, .unset] [])) (fun t kt => ?_) ?_
                  · show Steps p.tables e below (T6.setTop (mkF m 260 #[.val (.int p0), .val (.int p1), .val (.int p2), .val (.int p3), .val (.int p4), .val (.int (p2 &&& (3 : Int32))), .val (.int (own_hl p2)), .val (.int (own_n0 p0)), .val (.int (own_n1 p0)), .val (.int (own_n2 p0)), .val (.int x0), .val (.int x1), .val (.int x2), .val (.int an), .val (.int pt), .val (.int hp), .val (.ref b1), .val (.int (f10 b5_r hp b2_r (own_str (p2 &&& (3 : Int32)) (own_n0 p0) (own_n1 p0) (own_n2 p0)) (own_str (own_hl p2) x0 x1 x2) pt)), .val (.int (1 : Int32)), .unset, .unset] [(.int an)])) t
                    refine XS.ifYes X6.here hx rfl (pc0 := 260) (pc' := 270) rfl (hb hby at_260) rfl ((if0 _ _).trans (feq hc260).2) (by decide) (by decide) ?_
                    exact kt
                  refine OGW.step (F' := T6.setTop (mkF m 306 #[.val (.int p0), .val (.int p1), .val (.int p2), .val (.int p3), .val (.int p4), .val (.int (p2 &&& (3 : Int32))), .val (.int (own_hl p2)), .val (.int (own_n0 p0)), .val (.int (own_n1 p0)), .val (.int (own_n2 p0)), .val (.int x0), .val (.int x1), .val (.int x2), .val (.int an), .val (.int pt), .val (.int hp), .val (.ref b1), .val (.int (f10 b5_r hp b2_r (own_str (p2 &&& (3 : Int32)) (own_n0 p0) (own_n1 p0) (own_n2 p0)) (own_str (own_hl p2) x0 x1 x2) pt)), .val (.int (1 : Int32)), .val (.int (1 : Int32)), .val (.int (1 : Int32))] [(.int (1 : Int32))])) (fun t kt => ?_) ?_
                  · show Steps p.tables e below (T6.setTop (mkF m 270 #[.val (.int p0), .val (.int p1), .val (.int p2), .val (.int p3), .val (.int p4), .val (.int (p2 &&& (3 : Int32))), .val (.int (own_hl p2)), .val (.int (own_n0 p0)), .val (.int (own_n1 p0)), .val (.int (own_n2 p0)), .val (.int x0), .val (.int x1), .val (.int x2), .val (.int an), .val (.int pt), .val (.int hp), .val (.ref b1), .val (.int (f10 b5_r hp b2_r (own_str (p2 &&& (3 : Int32)) (own_n0 p0) (own_n1 p0) (own_n2 p0)) (own_str (own_hl p2) x0 x1 x2) pt)), .val (.int (1 : Int32)), .unset, .unset] [])) t
                    refine XS.iconst X6.here hx rfl (hb hby at_270) ?_
                    refine XS.goto X6.here hx rfl (pc0 := 271) (pc' := 275) rfl (hb hby at_271) (by decide) (by decide) ?_
                    refine XS.istore X6.here hx rfl (hb hby at_275) rfl (l' := #[.val (.int p0), .val (.int p1), .val (.int p2), .val (.int p3), .val (.int p4), .val (.int (p2 &&& (3 : Int32))), .val (.int (own_hl p2)), .val (.int (own_n0 p0)), .val (.int (own_n1 p0)), .val (.int (own_n2 p0)), .val (.int x0), .val (.int x1), .val (.int x2), .val (.int an), .val (.int pt), .val (.int hp), .val (.ref b1), .val (.int (f10 b5_r hp b2_r (own_str (p2 &&& (3 : Int32)) (own_n0 p0) (own_n1 p0) (own_n2 p0)) (own_str (own_hl p2) x0 x1 x2) pt)), .val (.int (1 : Int32)), .val (.int (1 : Int32)), .unset]) rfl ?_
                    refine XS.iload X6.here hx rfl (hb hby at_277) rfl ?_
                    refine XS.ifNo X6.here hx rfl (hb hby at_279) rfl ((if0 _ _).trans (feq (by decide : ¬ ((1 : Int32) = (0 : Int32)))).1) ?_
                    refine XS.iload X6.here hx rfl (hb hby at_282) rfl ?_
                    refine XS.ifNo X6.here hx rfl (hb hby at_284) rfl ((if0 _ _).trans (feq (by decide : ¬ ((1 : Int32) = (0 : Int32)))).1) ?_
                    refine XS.iconst X6.here hx rfl (hb hby at_287) ?_
                    refine XS.goto X6.here hx rfl (pc0 := 288) (pc' := 292) rfl (hb hby at_288) (by decide) (by decide) ?_
                    refine XS.istore X6.here hx rfl (hb hby at_292) rfl (l' := #[.val (.int p0), .val (.int p1), .val (.int p2), .val (.int p3), .val (.int p4), .val (.int (p2 &&& (3 : Int32))), .val (.int (own_hl p2)), .val (.int (own_n0 p0)), .val (.int (own_n1 p0)), .val (.int (own_n2 p0)), .val (.int x0), .val (.int x1), .val (.int x2), .val (.int an), .val (.int pt), .val (.int hp), .val (.ref b1), .val (.int (f10 b5_r hp b2_r (own_str (p2 &&& (3 : Int32)) (own_n0 p0) (own_n1 p0) (own_n2 p0)) (own_str (own_hl p2) x0 x1 x2) pt)), .val (.int (1 : Int32)), .val (.int (1 : Int32)), .val (.int (1 : Int32))]) rfl ?_
                    refine XS.iload X6.here hx rfl (hb hby at_294) rfl ?_
                    refine XS.iload X6.here hx rfl (hb hby at_296) rfl ?_
                    refine XS.icmpNo X6.here hx rfl (hb hby at_298) rfl (teq ((own_fin _ _ (Nat.ne_of_lt (Nat.lt_of_lt_of_le (P2_0.keep K4).lt szo_b5_r)) _ _ _ _ _ _ _ _ _ _ _ (own_nl _) (own_nl _) (own_rn0 _) (own_rn1 _) (own_rn2 _) hx0 hx1 hx2 hap).1 ⟨⟨hc209, Or.inr hc222, Or.inl hc228, Or.inr hc248⟩, Or.inl hc260⟩)).2 ?_
                    refine XS.iconst X6.here hx rfl (hb hby at_301) ?_
                    refine XS.goto X6.here hx rfl (pc0 := 302) (pc' := 306) rfl (hb hby at_302) (by decide) (by decide) ?_
                    exact kt
                  refine OGW.retZ X6 hx hlk hS hk hZ hEL CR e6 (t := .boolean) (z' := (1 : Int32)) hret (by simp) (hb hby at_306) rfl ?_ (by decide) (by decide)
                  show Q0 Z p0 p1 p2 p3 p4 w_COMPACT_STRINGS h0 n0 _ T6.heap _
                  rw [e6]
                  exact ⟨rfl, N6, KC5⟩
              · refine OGW.step (F' := T6.setTop (mkF m 255 #[.val (.int p0), .val (.int p1), .val (.int p2), .val (.int p3), .val (.int p4), .val (.int (p2 &&& (3 : Int32))), .val (.int (own_hl p2)), .val (.int (own_n0 p0)), .val (.int (own_n1 p0)), .val (.int (own_n2 p0)), .val (.int x0), .val (.int x1), .val (.int x2), .val (.int an), .val (.int pt), .val (.int hp), .val (.ref b1), .val (.int (f10 b5_r hp b2_r (own_str (p2 &&& (3 : Int32)) (own_n0 p0) (own_n1 p0) (own_n2 p0)) (own_str (own_hl p2) x0 x1 x2) pt)), .unset, .unset, .unset] [])) (fun t kt => ?_) ?_
                · show Steps p.tables e below (T6.setTop (mkF m 248 #[.val (.int p0), .val (.int p1), .val (.int p2), .val (.int p3), .val (.int p4), .val (.int (p2 &&& (3 : Int32))), .val (.int (own_hl p2)), .val (.int (own_n0 p0)), .val (.int (own_n1 p0)), .val (.int (own_n2 p0)), .val (.int x0), .val (.int x1), .val (.int x2), .val (.int an), .val (.int pt), .val (.int hp), .val (.ref b1), .val (.int (f10 b5_r hp b2_r (own_str (p2 &&& (3 : Int32)) (own_n0 p0) (own_n1 p0) (own_n2 p0)) (own_str (own_hl p2) x0 x1 x2) pt)), .unset, .unset, .unset] [(.int x2), (.int (own_n2 p0))])) t
                  refine XS.icmpYes X6.here hx rfl (pc0 := 248) (pc' := 255) rfl (hb hby at_248) rfl (feq hc248).2 (by decide) (by decide) ?_
                  exact kt
                refine OGW.step (F' := T6.setTop (mkF m 260 #[.val (.int p0), .val (.int p1), .val (.int p2), .val (.int p3), .val (.int p4), .val (.int (p2 &&& (3 : Int32))), .val (.int (own_hl p2)), .val (.int (own_n0 p0)), .val (.int (own_n1 p0)), .val (.int (own_n2 p0)), .val (.int x0), .val (.int x1), .val (.int x2), .val (.int an), .val (.int pt), .val (.int hp), .val (.ref b1), .val (.int (f10 b5_r hp b2_r (own_str (p2 &&& (3 : Int32)) (own_n0 p0) (own_n1 p0) (own_n2 p0)) (own_str (own_hl p2) x0 x1 x2) pt)), .val (.int (0 : Int32)), .unset, .unset] [(.int an)])) (fun t kt => ?_) ?_
                · show Steps p.tables e below (T6.setTop (mkF m 255 #[.val (.int p0), .val (.int p1), .val (.int p2), .val (.int p3), .val (.int p4), .val (.int (p2 &&& (3 : Int32))), .val (.int (own_hl p2)), .val (.int (own_n0 p0)), .val (.int (own_n1 p0)), .val (.int (own_n2 p0)), .val (.int x0), .val (.int x1), .val (.int x2), .val (.int an), .val (.int pt), .val (.int hp), .val (.ref b1), .val (.int (f10 b5_r hp b2_r (own_str (p2 &&& (3 : Int32)) (own_n0 p0) (own_n1 p0) (own_n2 p0)) (own_str (own_hl p2) x0 x1 x2) pt)), .unset, .unset, .unset] [])) t
                  refine XS.iconst X6.here hx rfl (hb hby at_255) ?_
                  refine XS.istore X6.here hx rfl (hb hby at_256) rfl (l' := #[.val (.int p0), .val (.int p1), .val (.int p2), .val (.int p3), .val (.int p4), .val (.int (p2 &&& (3 : Int32))), .val (.int (own_hl p2)), .val (.int (own_n0 p0)), .val (.int (own_n1 p0)), .val (.int (own_n2 p0)), .val (.int x0), .val (.int x1), .val (.int x2), .val (.int an), .val (.int pt), .val (.int hp), .val (.ref b1), .val (.int (f10 b5_r hp b2_r (own_str (p2 &&& (3 : Int32)) (own_n0 p0) (own_n1 p0) (own_n2 p0)) (own_str (own_hl p2) x0 x1 x2) pt)), .val (.int (0 : Int32)), .unset, .unset]) rfl ?_
                  refine XS.iload X6.here hx rfl (hb hby at_258) rfl ?_
                  exact kt
                by_cases hc260 : an = (0 : Int32)
                · refine OGW.step (F' := T6.setTop (mkF m 263 #[.val (.int p0), .val (.int p1), .val (.int p2), .val (.int p3), .val (.int p4), .val (.int (p2 &&& (3 : Int32))), .val (.int (own_hl p2)), .val (.int (own_n0 p0)), .val (.int (own_n1 p0)), .val (.int (own_n2 p0)), .val (.int x0), .val (.int x1), .val (.int x2), .val (.int an), .val (.int pt), .val (.int hp), .val (.ref b1), .val (.int (f10 b5_r hp b2_r (own_str (p2 &&& (3 : Int32)) (own_n0 p0) (own_n1 p0) (own_n2 p0)) (own_str (own_hl p2) x0 x1 x2) pt)), .val (.int (0 : Int32)), .unset, .unset] [])) (fun t kt => ?_) ?_
                  · show Steps p.tables e below (T6.setTop (mkF m 260 #[.val (.int p0), .val (.int p1), .val (.int p2), .val (.int p3), .val (.int p4), .val (.int (p2 &&& (3 : Int32))), .val (.int (own_hl p2)), .val (.int (own_n0 p0)), .val (.int (own_n1 p0)), .val (.int (own_n2 p0)), .val (.int x0), .val (.int x1), .val (.int x2), .val (.int an), .val (.int pt), .val (.int hp), .val (.ref b1), .val (.int (f10 b5_r hp b2_r (own_str (p2 &&& (3 : Int32)) (own_n0 p0) (own_n1 p0) (own_n2 p0)) (own_str (own_hl p2) x0 x1 x2) pt)), .val (.int (0 : Int32)), .unset, .unset] [(.int an)])) t
                    refine XS.ifNo X6.here hx rfl (hb hby at_260) rfl ((if0 _ _).trans (teq hc260).2) ?_
                    exact kt
                  refine OGW.step (F' := T6.setTop (mkF m 267 #[.val (.int p0), .val (.int p1), .val (.int p2), .val (.int p3), .val (.int p4), .val (.int (p2 &&& (3 : Int32))), .val (.int (own_hl p2)), .val (.int (own_n0 p0)), .val (.int (own_n1 p0)), .val (.int (own_n2 p0)), .val (.int x0), .val (.int x1), .val (.int x2), .val (.int an), .val (.int pt), .val (.int hp), .val (.ref b1), .val (.int (f10 b5_r hp b2_r (own_str (p2 &&& (3 : Int32)) (own_n0 p0) (own_n1 p0) (own_n2 p0)) (own_str (own_hl p2) x0 x1 x2) pt)), .val (.int (0 : Int32)), .unset, .unset] [(.int hp), (.int pt)])) (fun t kt => ?_) ?_
                  · show Steps p.tables e below (T6.setTop (mkF m 263 #[.val (.int p0), .val (.int p1), .val (.int p2), .val (.int p3), .val (.int p4), .val (.int (p2 &&& (3 : Int32))), .val (.int (own_hl p2)), .val (.int (own_n0 p0)), .val (.int (own_n1 p0)), .val (.int (own_n2 p0)), .val (.int x0), .val (.int x1), .val (.int x2), .val (.int an), .val (.int pt), .val (.int hp), .val (.ref b1), .val (.int (f10 b5_r hp b2_r (own_str (p2 &&& (3 : Int32)) (own_n0 p0) (own_n1 p0) (own_n2 p0)) (own_str (own_hl p2) x0 x1 x2) pt)), .val (.int (0 : Int32)), .unset, .unset] [])) t
                    refine XS.iload X6.here hx rfl (hb hby at_263) rfl ?_
                    refine XS.iload X6.here hx rfl (hb hby at_265) rfl ?_
                    exact kt
                  by_cases hc267 : pt = hp
                  · refine OGW.step (F' := T6.setTop (mkF m 270 #[.val (.int p0), .val (.int p1), .val (.int p2), .val (.int p3), .val (.int p4), .val (.int (p2 &&& (3 : Int32))), .val (.int (own_hl p2)), .val (.int (own_n0 p0)), .val (.int (own_n1 p0)), .val (.int (own_n2 p0)), .val (.int x0), .val (.int x1), .val (.int x2), .val (.int an), .val (.int pt), .val (.int hp), .val (.ref b1), .val (.int (f10 b5_r hp b2_r (own_str (p2 &&& (3 : Int32)) (own_n0 p0) (own_n1 p0) (own_n2 p0)) (own_str (own_hl p2) x0 x1 x2) pt)), .val (.int (0 : Int32)), .unset, .unset] [])) (fun t kt => ?_) ?_
                    · show Steps p.tables e below (T6.setTop (mkF m 267 #[.val (.int p0), .val (.int p1), .val (.int p2), .val (.int p3), .val (.int p4), .val (.int (p2 &&& (3 : Int32))), .val (.int (own_hl p2)), .val (.int (own_n0 p0)), .val (.int (own_n1 p0)), .val (.int (own_n2 p0)), .val (.int x0), .val (.int x1), .val (.int x2), .val (.int an), .val (.int pt), .val (.int hp), .val (.ref b1), .val (.int (f10 b5_r hp b2_r (own_str (p2 &&& (3 : Int32)) (own_n0 p0) (own_n1 p0) (own_n2 p0)) (own_str (own_hl p2) x0 x1 x2) pt)), .val (.int (0 : Int32)), .unset, .unset] [(.int hp), (.int pt)])) t
                      refine XS.icmpNo X6.here hx rfl (hb hby at_267) rfl (teq hc267).2 ?_
                      exact kt
                    refine OGW.step (F' := T6.setTop (mkF m 306 #[.val (.int p0), .val (.int p1), .val (.int p2), .val (.int p3), .val (.int p4), .val (.int (p2 &&& (3 : Int32))), .val (.int (own_hl p2)), .val (.int (own_n0 p0)), .val (.int (own_n1 p0)), .val (.int (own_n2 p0)), .val (.int x0), .val (.int x1), .val (.int x2), .val (.int an), .val (.int pt), .val (.int hp), .val (.ref b1), .val (.int (f10 b5_r hp b2_r (own_str (p2 &&& (3 : Int32)) (own_n0 p0) (own_n1 p0) (own_n2 p0)) (own_str (own_hl p2) x0 x1 x2) pt)), .val (.int (0 : Int32)), .val (.int (1 : Int32)), .val (.int (0 : Int32))] [(.int (1 : Int32))])) (fun t kt => ?_) ?_
                    · show Steps p.tables e below (T6.setTop (mkF m 270 #[.val (.int p0), .val (.int p1), .val (.int p2), .val (.int p3), .val (.int p4), .val (.int (p2 &&& (3 : Int32))), .val (.int (own_hl p2)), .val (.int (own_n0 p0)), .val (.int (own_n1 p0)), .val (.int (own_n2 p0)), .val (.int x0), .val (.int x1), .val (.int x2), .val (.int an), .val (.int pt), .val (.int hp), .val (.ref b1), .val (.int (f10 b5_r hp b2_r (own_str (p2 &&& (3 : Int32)) (own_n0 p0) (own_n1 p0) (own_n2 p0)) (own_str (own_hl p2) x0 x1 x2) pt)), .val (.int (0 : Int32)), .unset, .unset] [])) t
                      refine XS.iconst X6.here hx rfl (hb hby at_270) ?_
                      refine XS.goto X6.here hx rfl (pc0 := 271) (pc' := 275) rfl (hb hby at_271) (by decide) (by decide) ?_
                      refine XS.istore X6.here hx rfl (hb hby at_275) rfl (l' := #[.val (.int p0), .val (.int p1), .val (.int p2), .val (.int p3), .val (.int p4), .val (.int (p2 &&& (3 : Int32))), .val (.int (own_hl p2)), .val (.int (own_n0 p0)), .val (.int (own_n1 p0)), .val (.int (own_n2 p0)), .val (.int x0), .val (.int x1), .val (.int x2), .val (.int an), .val (.int pt), .val (.int hp), .val (.ref b1), .val (.int (f10 b5_r hp b2_r (own_str (p2 &&& (3 : Int32)) (own_n0 p0) (own_n1 p0) (own_n2 p0)) (own_str (own_hl p2) x0 x1 x2) pt)), .val (.int (0 : Int32)), .val (.int (1 : Int32)), .unset]) rfl ?_
                      refine XS.iload X6.here hx rfl (hb hby at_277) rfl ?_
                      refine XS.ifYes X6.here hx rfl (pc0 := 279) (pc' := 291) rfl (hb hby at_279) rfl ((if0 _ _).trans (teq (by decide : (0 : Int32) = (0 : Int32))).1) (by decide) (by decide) ?_
                      refine XS.iconst X6.here hx rfl (hb hby at_291) ?_
                      refine XS.istore X6.here hx rfl (hb hby at_292) rfl (l' := #[.val (.int p0), .val (.int p1), .val (.int p2), .val (.int p3), .val (.int p4), .val (.int (p2 &&& (3 : Int32))), .val (.int (own_hl p2)), .val (.int (own_n0 p0)), .val (.int (own_n1 p0)), .val (.int (own_n2 p0)), .val (.int x0), .val (.int x1), .val (.int x2), .val (.int an), .val (.int pt), .val (.int hp), .val (.ref b1), .val (.int (f10 b5_r hp b2_r (own_str (p2 &&& (3 : Int32)) (own_n0 p0) (own_n1 p0) (own_n2 p0)) (own_str (own_hl p2) x0 x1 x2) pt)), .val (.int (0 : Int32)), .val (.int (1 : Int32)), .val (.int (0 : Int32))]) rfl ?_
                      refine XS.iload X6.here hx rfl (hb hby at_294) rfl ?_
                      refine XS.iload X6.here hx rfl (hb hby at_296) rfl ?_
                      refine XS.icmpNo X6.here hx rfl (hb hby at_298) rfl (teq ((own_fin _ _ (Nat.ne_of_lt (Nat.lt_of_lt_of_le (P2_0.keep K4).lt szo_b5_r)) _ _ _ _ _ _ _ _ _ _ _ (own_nl _) (own_nl _) (own_rn0 _) (own_rn1 _) (own_rn2 _) hx0 hx1 hx2 hap).2 (fun q => q.1.2.2.2.elim hc241 hc248))).2 ?_
                      refine XS.iconst X6.here hx rfl (hb hby at_301) ?_
                      refine XS.goto X6.here hx rfl (pc0 := 302) (pc' := 306) rfl (hb hby at_302) (by decide) (by decide) ?_
                      exact kt
                    refine OGW.retZ X6 hx hlk hS hk hZ hEL CR e6 (t := .boolean) (z' := (1 : Int32)) hret (by simp) (hb hby at_306) rfl ?_ (by decide) (by decide)
                    show Q0 Z p0 p1 p2 p3 p4 w_COMPACT_STRINGS h0 n0 _ T6.heap _
                    rw [e6]
                    exact ⟨rfl, N6, KC5⟩
                  · refine OGW.step (F' := T6.setTop (mkF m 274 #[.val (.int p0), .val (.int p1), .val (.int p2), .val (.int p3), .val (.int p4), .val (.int (p2 &&& (3 : Int32))), .val (.int (own_hl p2)), .val (.int (own_n0 p0)), .val (.int (own_n1 p0)), .val (.int (own_n2 p0)), .val (.int x0), .val (.int x1), .val (.int x2), .val (.int an), .val (.int pt), .val (.int hp), .val (.ref b1), .val (.int (f10 b5_r hp b2_r (own_str (p2 &&& (3 : Int32)) (own_n0 p0) (own_n1 p0) (own_n2 p0)) (own_str (own_hl p2) x0 x1 x2) pt)), .val (.int (0 : Int32)), .unset, .unset] [])) (fun t kt => ?_) ?_
                    · show Steps p.tables e below (T6.setTop (mkF m 267 #[.val (.int p0), .val (.int p1), .val (.int p2), .val (.int p3), .val (.int p4), .val (.int (p2 &&& (3 : Int32))), .val (.int (own_hl p2)), .val (.int (own_n0 p0)), .val (.int (own_n1 p0)), .val (.int (own_n2 p0)), .val (.int x0), .val (.int x1), .val (.int x2), .val (.int an), .val (.int pt), .val (.int hp), .val (.ref b1), .val (.int (f10 b5_r hp b2_r (own_str (p2 &&& (3 : Int32)) (own_n0 p0) (own_n1 p0) (own_n2 p0)) (own_str (own_hl p2) x0 x1 x2) pt)), .val (.int (0 : Int32)), .unset, .unset] [(.int hp), (.int pt)])) t
                      refine XS.icmpYes X6.here hx rfl (pc0 := 267) (pc' := 274) rfl (hb hby at_267) rfl (feq hc267).2 (by decide) (by decide) ?_
                      exact kt
                    refine OGW.step (F' := T6.setTop (mkF m 306 #[.val (.int p0), .val (.int p1), .val (.int p2), .val (.int p3), .val (.int p4), .val (.int (p2 &&& (3 : Int32))), .val (.int (own_hl p2)), .val (.int (own_n0 p0)), .val (.int (own_n1 p0)), .val (.int (own_n2 p0)), .val (.int x0), .val (.int x1), .val (.int x2), .val (.int an), .val (.int pt), .val (.int hp), .val (.ref b1), .val (.int (f10 b5_r hp b2_r (own_str (p2 &&& (3 : Int32)) (own_n0 p0) (own_n1 p0) (own_n2 p0)) (own_str (own_hl p2) x0 x1 x2) pt)), .val (.int (0 : Int32)), .val (.int (0 : Int32)), .val (.int (0 : Int32))] [(.int (1 : Int32))])) (fun t kt => ?_) ?_
                    · show Steps p.tables e below (T6.setTop (mkF m 274 #[.val (.int p0), .val (.int p1), .val (.int p2), .val (.int p3), .val (.int p4), .val (.int (p2 &&& (3 : Int32))), .val (.int (own_hl p2)), .val (.int (own_n0 p0)), .val (.int (own_n1 p0)), .val (.int (own_n2 p0)), .val (.int x0), .val (.int x1), .val (.int x2), .val (.int an), .val (.int pt), .val (.int hp), .val (.ref b1), .val (.int (f10 b5_r hp b2_r (own_str (p2 &&& (3 : Int32)) (own_n0 p0) (own_n1 p0) (own_n2 p0)) (own_str (own_hl p2) x0 x1 x2) pt)), .val (.int (0 : Int32)), .unset, .unset] [])) t
                      refine XS.iconst X6.here hx rfl (hb hby at_274) ?_
                      refine XS.istore X6.here hx rfl (hb hby at_275) rfl (l' := #[.val (.int p0), .val (.int p1), .val (.int p2), .val (.int p3), .val (.int p4), .val (.int (p2 &&& (3 : Int32))), .val (.int (own_hl p2)), .val (.int (own_n0 p0)), .val (.int (own_n1 p0)), .val (.int (own_n2 p0)), .val (.int x0), .val (.int x1), .val (.int x2), .val (.int an), .val (.int pt), .val (.int hp), .val (.ref b1), .val (.int (f10 b5_r hp b2_r (own_str (p2 &&& (3 : Int32)) (own_n0 p0) (own_n1 p0) (own_n2 p0)) (own_str (own_hl p2) x0 x1 x2) pt)), .val (.int (0 : Int32)), .val (.int (0 : Int32)), .unset]) rfl ?_
                      refine XS.iload X6.here hx rfl (hb hby at_277) rfl ?_
                      refine XS.ifYes X6.here hx rfl (pc0 := 279) (pc' := 291) rfl (hb hby at_279) rfl ((if0 _ _).trans (teq (by decide : (0 : Int32) = (0 : Int32))).1) (by decide) (by decide) ?_
                      refine XS.iconst X6.here hx rfl (hb hby at_291) ?_
                      refine XS.istore X6.here hx rfl (hb hby at_292) rfl (l' := #[.val (.int p0), .val (.int p1), .val (.int p2), .val (.int p3), .val (.int p4), .val (.int (p2 &&& (3 : Int32))), .val (.int (own_hl p2)), .val (.int (own_n0 p0)), .val (.int (own_n1 p0)), .val (.int (own_n2 p0)), .val (.int x0), .val (.int x1), .val (.int x2), .val (.int an), .val (.int pt), .val (.int hp), .val (.ref b1), .val (.int (f10 b5_r hp b2_r (own_str (p2 &&& (3 : Int32)) (own_n0 p0) (own_n1 p0) (own_n2 p0)) (own_str (own_hl p2) x0 x1 x2) pt)), .val (.int (0 : Int32)), .val (.int (0 : Int32)), .val (.int (0 : Int32))]) rfl ?_
                      refine XS.iload X6.here hx rfl (hb hby at_294) rfl ?_
                      refine XS.iload X6.here hx rfl (hb hby at_296) rfl ?_
                      refine XS.icmpNo X6.here hx rfl (hb hby at_298) rfl (teq ((own_fin _ _ (Nat.ne_of_lt (Nat.lt_of_lt_of_le (P2_0.keep K4).lt szo_b5_r)) _ _ _ _ _ _ _ _ _ _ _ (own_nl _) (own_nl _) (own_rn0 _) (own_rn1 _) (own_rn2 _) hx0 hx1 hx2 hap).2 (fun q => q.1.2.2.2.elim hc241 hc248))).2 ?_
                      refine XS.iconst X6.here hx rfl (hb hby at_301) ?_
                      refine XS.goto X6.here hx rfl (pc0 := 302) (pc' := 306) rfl (hb hby at_302) (by decide) (by decide) ?_
                      exact kt
                    refine OGW.retZ X6 hx hlk hS hk hZ hEL CR e6 (t := .boolean) (z' := (1 : Int32)) hret (by simp) (hb hby at_306) rfl ?_ (by decide) (by decide)
                    show Q0 Z p0 p1 p2 p3 p4 w_COMPACT_STRINGS h0 n0 _ T6.heap _
                    rw [e6]
                    exact ⟨rfl, N6, KC5⟩
                · refine OGW.step (F' := T6.setTop (mkF m 270 #[.val (.int p0), .val (.int p1), .val (.int p2), .val (.int p3), .val (.int p4), .val (.int (p2 &&& (3 : Int32))), .val (.int (own_hl p2)), .val (.int (own_n0 p0)), .val (.int (own_n1 p0)), .val (.int (own_n2 p0)), .val (.int x0), .val (.int x1), .val (.int x2), .val (.int an), .val (.int pt), .val (.int hp), .val (.ref b1), .val (.int (f10 b5_r hp b2_r (own_str (p2 &&& (3 : Int32)) (own_n0 p0) (own_n1 p0) (own_n2 p0)) (own_str (own_hl p2) x0 x1 x2) pt)), .val (.int (0 : Int32)), .unset, .unset] [])) (fun t kt => ?_) ?_
                  · show Steps p.tables e below (T6.setTop (mkF m 260 #[.val (.int p0), .val (.int p1), .val (.int p2), .val (.int p3), .val (.int p4), .val (.int (p2 &&& (3 : Int32))), .val (.int (own_hl p2)), .val (.int (own_n0 p0)), .val (.int (own_n1 p0)), .val (.int (own_n2 p0)), .val (.int x0), .val (.int x1), .val (.int x2), .val (.int an), .val (.int pt), .val (.int hp), .val (.ref b1), .val (.int (f10 b5_r hp b2_r (own_str (p2 &&& (3 : Int32)) (own_n0 p0) (own_n1 p0) (own_n2 p0)) (own_str (own_hl p2) x0 x1 x2) pt)), .val (.int (0 : Int32)), .unset, .unset] [(.int an)])) t
                    refine XS.ifYes X6.here hx rfl (pc0 := 260) (pc' := 270) rfl (hb hby at_260) rfl ((if0 _ _).trans (feq hc260).2) (by decide) (by decide) ?_
                    exact kt
                  refine OGW.step (F' := T6.setTop (mkF m 306 #[.val (.int p0), .val (.int p1), .val (.int p2), .val (.int p3), .val (.int p4), .val (.int (p2 &&& (3 : Int32))), .val (.int (own_hl p2)), .val (.int (own_n0 p0)), .val (.int (own_n1 p0)), .val (.int (own_n2 p0)), .val (.int x0), .val (.int x1), .val (.int x2), .val (.int an), .val (.int pt), .val (.int hp), .val (.ref b1), .val (.int (f10 b5_r hp b2_r (own_str (p2 &&& (3 : Int32)) (own_n0 p0) (own_n1 p0) (own_n2 p0)) (own_str (own_hl p2) x0 x1 x2) pt)), .val (.int (0 : Int32)), .val (.int (1 : Int32)), .val (.int (0 : Int32))] [(.int (1 : Int32))])) (fun t kt => ?_) ?_
                  · show Steps p.tables e below (T6.setTop (mkF m 270 #[.val (.int p0), .val (.int p1), .val (.int p2), .val (.int p3), .val (.int p4), .val (.int (p2 &&& (3 : Int32))), .val (.int (own_hl p2)), .val (.int (own_n0 p0)), .val (.int (own_n1 p0)), .val (.int (own_n2 p0)), .val (.int x0), .val (.int x1), .val (.int x2), .val (.int an), .val (.int pt), .val (.int hp), .val (.ref b1), .val (.int (f10 b5_r hp b2_r (own_str (p2 &&& (3 : Int32)) (own_n0 p0) (own_n1 p0) (own_n2 p0)) (own_str (own_hl p2) x0 x1 x2) pt)), .val (.int (0 : Int32)), .unset, .unset] [])) t
                    refine XS.iconst X6.here hx rfl (hb hby at_270) ?_
                    refine XS.goto X6.here hx rfl (pc0 := 271) (pc' := 275) rfl (hb hby at_271) (by decide) (by decide) ?_
                    refine XS.istore X6.here hx rfl (hb hby at_275) rfl (l' := #[.val (.int p0), .val (.int p1), .val (.int p2), .val (.int p3), .val (.int p4), .val (.int (p2 &&& (3 : Int32))), .val (.int (own_hl p2)), .val (.int (own_n0 p0)), .val (.int (own_n1 p0)), .val (.int (own_n2 p0)), .val (.int x0), .val (.int x1), .val (.int x2), .val (.int an), .val (.int pt), .val (.int hp), .val (.ref b1), .val (.int (f10 b5_r hp b2_r (own_str (p2 &&& (3 : Int32)) (own_n0 p0) (own_n1 p0) (own_n2 p0)) (own_str (own_hl p2) x0 x1 x2) pt)), .val (.int (0 : Int32)), .val (.int (1 : Int32)), .unset]) rfl ?_
                    refine XS.iload X6.here hx rfl (hb hby at_277) rfl ?_
                    refine XS.ifYes X6.here hx rfl (pc0 := 279) (pc' := 291) rfl (hb hby at_279) rfl ((if0 _ _).trans (teq (by decide : (0 : Int32) = (0 : Int32))).1) (by decide) (by decide) ?_
                    refine XS.iconst X6.here hx rfl (hb hby at_291) ?_
                    refine XS.istore X6.here hx rfl (hb hby at_292) rfl (l' := #[.val (.int p0), .val (.int p1), .val (.int p2), .val (.int p3), .val (.int p4), .val (.int (p2 &&& (3 : Int32))), .val (.int (own_hl p2)), .val (.int (own_n0 p0)), .val (.int (own_n1 p0)), .val (.int (own_n2 p0)), .val (.int x0), .val (.int x1), .val (.int x2), .val (.int an), .val (.int pt), .val (.int hp), .val (.ref b1), .val (.int (f10 b5_r hp b2_r (own_str (p2 &&& (3 : Int32)) (own_n0 p0) (own_n1 p0) (own_n2 p0)) (own_str (own_hl p2) x0 x1 x2) pt)), .val (.int (0 : Int32)), .val (.int (1 : Int32)), .val (.int (0 : Int32))]) rfl ?_
                    refine XS.iload X6.here hx rfl (hb hby at_294) rfl ?_
                    refine XS.iload X6.here hx rfl (hb hby at_296) rfl ?_
                    refine XS.icmpNo X6.here hx rfl (hb hby at_298) rfl (teq ((own_fin _ _ (Nat.ne_of_lt (Nat.lt_of_lt_of_le (P2_0.keep K4).lt szo_b5_r)) _ _ _ _ _ _ _ _ _ _ _ (own_nl _) (own_nl _) (own_rn0 _) (own_rn1 _) (own_rn2 _) hx0 hx1 hx2 hap).2 (fun q => q.1.2.2.2.elim hc241 hc248))).2 ?_
                    refine XS.iconst X6.here hx rfl (hb hby at_301) ?_
                    refine XS.goto X6.here hx rfl (pc0 := 302) (pc' := 306) rfl (hb hby at_302) (by decide) (by decide) ?_
                    exact kt
                  refine OGW.retZ X6 hx hlk hS hk hZ hEL CR e6 (t := .boolean) (z' := (1 : Int32)) hret (by simp) (hb hby at_306) rfl ?_ (by decide) (by decide)
                  show Q0 Z p0 p1 p2 p3 p4 w_COMPACT_STRINGS h0 n0 _ T6.heap _
                  rw [e6]
                  exact ⟨rfl, N6, KC5⟩
          · refine OGW.step (F' := T6.setTop (mkF m 231 #[.val (.int p0), .val (.int p1), .val (.int p2), .val (.int p3), .val (.int p4), .val (.int (p2 &&& (3 : Int32))), .val (.int (own_hl p2)), .val (.int (own_n0 p0)), .val (.int (own_n1 p0)), .val (.int (own_n2 p0)), .val (.int x0), .val (.int x1), .val (.int x2), .val (.int an), .val (.int pt), .val (.int hp), .val (.ref b1), .val (.int (f10 b5_r hp b2_r (own_str (p2 &&& (3 : Int32)) (own_n0 p0) (own_n1 p0) (own_n2 p0)) (own_str (own_hl p2) x0 x1 x2) pt)), .unset, .unset, .unset] [])) (fun t kt => ?_) ?_
            · show Steps p.tables e below (T6.setTop (mkF m 228 #[.val (.int p0), .val (.int p1), .val (.int p2), .val (.int p3), .val (.int p4), .val (.int (p2 &&& (3 : Int32))), .val (.int (own_hl p2)), .val (.int (own_n0 p0)), .val (.int (own_n1 p0)), .val (.int (own_n2 p0)), .val (.int x0), .val (.int x1), .val (.int x2), .val (.int an), .val (.int pt), .val (.int hp), .val (.ref b1), .val (.int (f10 b5_r hp b2_r (own_str (p2 &&& (3 : Int32)) (own_n0 p0) (own_n1 p0) (own_n2 p0)) (own_str (own_hl p2) x0 x1 x2) pt)), .unset, .unset, .unset] [(.int (2 : Int32)), (.int (p2 &&& (3 : Int32)))])) t
              refine XS.icmpNo X6.here hx rfl (hb hby at_228) rfl (flt hc228).1 ?_
              exact kt
            refine OGW.step (F' := T6.setTop (mkF m 235 #[.val (.int p0), .val (.int p1), .val (.int p2), .val (.int p3), .val (.int p4), .val (.int (p2 &&& (3 : Int32))), .val (.int (own_hl p2)), .val (.int (own_n0 p0)), .val (.int (own_n1 p0)), .val (.int (own_n2 p0)), .val (.int x0), .val (.int x1), .val (.int x2), .val (.int an), .val (.int pt), .val (.int hp), .val (.ref b1), .val (.int (f10 b5_r hp b2_r (own_str (p2 &&& (3 : Int32)) (own_n0 p0) (own_n1 p0) (own_n2 p0)) (own_str (own_hl p2) x0 x1 x2) pt)), .unset, .unset, .unset] [(.int x1), (.int (own_n1 p0))])) (fun t kt => ?_) ?_
            · show Steps p.tables e below (T6.setTop (mkF m 231 #[.val (.int p0), .val (.int p1), .val (.int p2), .val (.int p3), .val (.int p4), .val (.int (p2 &&& (3 : Int32))), .val (.int (own_hl p2)), .val (.int (own_n0 p0)), .val (.int (own_n1 p0)), .val (.int (own_n2 p0)), .val (.int x0), .val (.int x1), .val (.int x2), .val (.int an), .val (.int pt), .val (.int hp), .val (.ref b1), .val (.int (f10 b5_r hp b2_r (own_str (p2 &&& (3 : Int32)) (own_n0 p0) (own_n1 p0) (own_n2 p0)) (own_str (own_hl p2) x0 x1 x2) pt)), .unset, .unset, .unset] [])) t
              refine XS.iload X6.here hx rfl (hb hby at_231) rfl ?_
              refine XS.iload X6.here hx rfl (hb hby at_233) rfl ?_
              exact kt
            by_cases hc235 : (own_n1 p0) = x1
            · refine OGW.step (F' := T6.setTop (mkF m 238 #[.val (.int p0), .val (.int p1), .val (.int p2), .val (.int p3), .val (.int p4), .val (.int (p2 &&& (3 : Int32))), .val (.int (own_hl p2)), .val (.int (own_n0 p0)), .val (.int (own_n1 p0)), .val (.int (own_n2 p0)), .val (.int x0), .val (.int x1), .val (.int x2), .val (.int an), .val (.int pt), .val (.int hp), .val (.ref b1), .val (.int (f10 b5_r hp b2_r (own_str (p2 &&& (3 : Int32)) (own_n0 p0) (own_n1 p0) (own_n2 p0)) (own_str (own_hl p2) x0 x1 x2) pt)), .unset, .unset, .unset] [])) (fun t kt => ?_) ?_
              · show Steps p.tables e below (T6.setTop (mkF m 235 #[.val (.int p0), .val (.int p1), .val (.int p2), .val (.int p3), .val (.int p4), .val (.int (p2 &&& (3 : Int32))), .val (.int (own_hl p2)), .val (.int (own_n0 p0)), .val (.int (own_n1 p0)), .val (.int (own_n2 p0)), .val (.int x0), .val (.int x1), .val (.int x2), .val (.int an), .val (.int pt), .val (.int hp), .val (.ref b1), .val (.int (f10 b5_r hp b2_r (own_str (p2 &&& (3 : Int32)) (own_n0 p0) (own_n1 p0) (own_n2 p0)) (own_str (own_hl p2) x0 x1 x2) pt)), .unset, .unset, .unset] [(.int x1), (.int (own_n1 p0))])) t
                refine XS.icmpNo X6.here hx rfl (hb hby at_235) rfl (teq hc235).2 ?_
                exact kt
              refine OGW.step (F' := T6.setTop (mkF m 241 #[.val (.int p0), .val (.int p1), .val (.int p2), .val (.int p3), .val (.int p4), .val (.int (p2 &&& (3 : Int32))), .val (.int (own_hl p2)), .val (.int (own_n0 p0)), .val (.int (own_n1 p0)), .val (.int (own_n2 p0)), .val (.int x0), .val (.int x1), .val (.int x2), .val (.int an), .val (.int pt), .val (.int hp), .val (.ref b1), .val (.int (f10 b5_r hp b2_r (own_str (p2 &&& (3 : Int32)) (own_n0 p0) (own_n1 p0) (own_n2 p0)) (own_str (own_hl p2) x0 x1 x2) pt)), .unset, .unset, .unset] [(.int (3 : Int32)), (.int (p2 &&& (3 : Int32)))])) (fun t kt => ?_) ?_
              · show Steps p.tables e below (T6.setTop (mkF m 238 #[.val (.int p0), .val (.int p1), .val (.int p2), .val (.int p3), .val (.int p4), .val (.int (p2 &&& (3 : Int32))), .val (.int (own_hl p2)), .val (.int (own_n0 p0)), .val (.int (own_n1 p0)), .val (.int (own_n2 p0)), .val (.int x0), .val (.int x1), .val (.int x2), .val (.int an), .val (.int pt), .val (.int hp), .val (.ref b1), .val (.int (f10 b5_r hp b2_r (own_str (p2 &&& (3 : Int32)) (own_n0 p0) (own_n1 p0) (own_n2 p0)) (own_str (own_hl p2) x0 x1 x2) pt)), .unset, .unset, .unset] [])) t
                refine XS.iload X6.here hx rfl (hb hby at_238) rfl ?_
                refine XS.iconst X6.here hx rfl (hb hby at_240) ?_
                exact kt
              by_cases hc241 : (p2 &&& (3 : Int32)) < (3 : Int32)
              · refine OGW.step (F' := T6.setTop (mkF m 251 #[.val (.int p0), .val (.int p1), .val (.int p2), .val (.int p3), .val (.int p4), .val (.int (p2 &&& (3 : Int32))), .val (.int (own_hl p2)), .val (.int (own_n0 p0)), .val (.int (own_n1 p0)), .val (.int (own_n2 p0)), .val (.int x0), .val (.int x1), .val (.int x2), .val (.int an), .val (.int pt), .val (.int hp), .val (.ref b1), .val (.int (f10 b5_r hp b2_r (own_str (p2 &&& (3 : Int32)) (own_n0 p0) (own_n1 p0) (own_n2 p0)) (own_str (own_hl p2) x0 x1 x2) pt)), .unset, .unset, .unset] [])) (fun t kt => ?_) ?_
                · show Steps p.tables e below (T6.setTop (mkF m 241 #[.val (.int p0), .val (.int p1), .val (.int p2), .val (.int p3), .val (.int p4), .val (.int (p2 &&& (3 : Int32))), .val (.int (own_hl p2)), .val (.int (own_n0 p0)), .val (.int (own_n1 p0)), .val (.int (own_n2 p0)), .val (.int x0), .val (.int x1), .val (.int x2), .val (.int an), .val (.int pt), .val (.int hp), .val (.ref b1), .val (.int (f10 b5_r hp b2_r (own_str (p2 &&& (3 : Int32)) (own_n0 p0) (own_n1 p0) (own_n2 p0)) (own_str (own_hl p2) x0 x1 x2) pt)), .unset, .unset, .unset] [(.int (3 : Int32)), (.int (p2 &&& (3 : Int32)))])) t
                  refine XS.icmpYes X6.here hx rfl (pc0 := 241) (pc' := 251) rfl (hb hby at_241) rfl (tlt hc241).1 (by decide) (by decide) ?_
                  exact kt
                refine OGW.step (F' := T6.setTop (mkF m 260 #[.val (.int p0), .val (.int p1), .val (.int p2), .val (.int p3), .val (.int p4), .val (.int (p2 &&& (3 : Int32))), .val (.int (own_hl p2)), .val (.int (own_n0 p0)), .val (.int (own_n1 p0)), .val (.int (own_n2 p0)), .val (.int x0), .val (.int x1), .val (.int x2), .val (.int an), .val (.int pt), .val (.int hp), .val (.ref b1), .val (.int (f10 b5_r hp b2_r (own_str (p2 &&& (3 : Int32)) (own_n0 p0) (own_n1 p0) (own_n2 p0)) (own_str (own_hl p2) x0 x1 x2) pt)), .val (.int (1 : Int32)), .unset, .unset] [(.int an)])) (fun t kt => ?_) ?_
                · show Steps p.tables e below (T6.setTop (mkF m 251 #[.val (.int p0), .val (.int p1), .val (.int p2), .val (.int p3), .val (.int p4), .val (.int (p2 &&& (3 : Int32))), .val (.int (own_hl p2)), .val (.int (own_n0 p0)), .val (.int (own_n1 p0)), .val (.int (own_n2 p0)), .val (.int x0), .val (.int x1), .val (.int x2), .val (.int an), .val (.int pt), .val (.int hp), .val (.ref b1), .val (.int (f10 b5_r hp b2_r (own_str (p2 &&& (3 : Int32)) (own_n0 p0) (own_n1 p0) (own_n2 p0)) (own_str (own_hl p2) x0 x1 x2) pt)), .unset, .unset, .unset] [])) t
                  refine XS.iconst X6.here hx rfl (hb hby at_251) ?_
                  refine XS.goto X6.here hx rfl (pc0 := 252) (pc' := 256) rfl (hb hby at_252) (by decide) (by decide) ?_
                  refine XS.istore X6.here hx rfl (hb hby at_256) rfl (l' := #[.val (.int p0), .val (.int p1), .val (.int p2), .val (.int p3), .val (.int p4), .val (.int (p2 &&& (3 : Int32))), .val (.int (own_hl p2)), .val (.int (own_n0 p0)), .val (.int (own_n1 p0)), .val (.int (own_n2 p0)), .val (.int x0), .val (.int x1), .val (.int x2), .val (.int an), .val (.int pt), .val (.int hp), .val (.ref b1), .val (.int (f10 b5_r hp b2_r (own_str (p2 &&& (3 : Int32)) (own_n0 p0) (own_n1 p0) (own_n2 p0)) (own_str (own_hl p2) x0 x1 x2) pt)), .val (.int (1 : Int32)), .unset, .unset]) rfl ?_
                  refine XS.iload X6.here hx rfl (hb hby at_258) rfl ?_
                  exact kt
                by_cases hc260 : an = (0 : Int32)
                · refine OGW.step (F' := T6.setTop (mkF m 263 #[.val (.int p0), .val (.int p1), .val (.int p2), .val (.int p3), .val (.int p4), .val (.int (p2 &&& (3 : Int32))), .val (.int (own_hl p2)), .val (.int (own_n0 p0)), .val (.int (own_n1 p0)), .val (.int (own_n2 p0)), .val (.int x0), .val (.int x1), .val (.int x2), .val (.int an), .val (.int pt), .val (.int hp), .val (.ref b1), .val (.int (f10 b5_r hp b2_r (own_str (p2 &&& (3 : Int32)) (own_n0 p0) (own_n1 p0) (own_n2 p0)) (own_str (own_hl p2) x0 x1 x2) pt)), .val (.int (1 : Int32)), .unset, .unset] [])) (fun t kt => ?_) ?_
                  · show Steps p.tables e below (T6.setTop (mkF m 260 #[.val (.int p0), .val (.int p1), .val (.int p2), .val (.int p3), .val (.int p4), .val (.int (p2 &&& (3 : Int32))), .val (.int (own_hl p2)), .val (.int (own_n0 p0)), .val (.int (own_n1 p0)), .val (.int (own_n2 p0)), .val (.int x0), .val (.int x1), .val (.int x2), .val (.int an), .val (.int pt), .val (.int hp), .val (.ref b1), .val (.int (f10 b5_r hp b2_r (own_str (p2 &&& (3 : Int32)) (own_n0 p0) (own_n1 p0) (own_n2 p0)) (own_str (own_hl p2) x0 x1 x2) pt)), .val (.int (1 : Int32)), .unset, .unset] [(.int an)])) t
                    refine XS.ifNo X6.here hx rfl (hb hby at_260) rfl ((if0 _ _).trans (teq hc260).2) ?_
                    exact kt
                  refine OGW.step (F' := T6.setTop (mkF m 267 #[.val (.int p0), .val (.int p1), .val (.int p2), .val (.int p3), .val (.int p4), .val (.int (p2 &&& (3 : Int32))), .val (.int (own_hl p2)), .val (.int (own_n0 p0)), .val (.int (own_n1 p0)), .val (.int (own_n2 p0)), .val (.int x0), .val (.int x1), .val (.int x2), .val (.int an), .val (.int pt), .val (.int hp), .val (.ref b1), .val (.int (f10 b5_r hp b2_r (own_str (p2 &&& (3 : Int32)) (own_n0 p0) (own_n1 p0) (own_n2 p0)) (own_str (own_hl p2) x0 x1 x2) pt)), .val (.int (1 : Int32)), .unset, .unset] [(.int hp), (.int pt)])) (fun t kt => ?_) ?_
                  · show Steps p.tables e below (T6.setTop (mkF m 263 #[.val (.int p0), .val (.int p1), .val (.int p2), .val (.int p3), .val (.int p4), .val (.int (p2 &&& (3 : Int32))), .val (.int (own_hl p2)), .val (.int (own_n0 p0)), .val (.int (own_n1 p0)), .val (.int (own_n2 p0)), .val (.int x0), .val (.int x1), .val (.int x2), .val (.int an), .val (.int pt), .val (.int hp), .val (.ref b1), .val (.int (f10 b5_r hp b2_r (own_str (p2 &&& (3 : Int32)) (own_n0 p0) (own_n1 p0) (own_n2 p0)) (own_str (own_hl p2) x0 x1 x2) pt)), .val (.int (1 : Int32)), .unset, .unset] [])) t
                    refine XS.iload X6.here hx rfl (hb hby at_263) rfl ?_
                    refine XS.iload X6.here hx rfl (hb hby at_265) rfl ?_
                    exact kt
                  by_cases hc267 : pt = hp
                  · refine OGW.step (F' := T6.setTop (mkF m 270 #[.val (.int p0), .val (.int p1), .val (.int p2), .val (.int p3), .val (.int p4), .val (.int (p2 &&& (3 : Int32))), .val (.int (own_hl p2)), .val (.int (own_n0 p0)), .val (.int (own_n1 p0)), .val (.int (own_n2 p0)), .val (.int x0), .val (.int x1), .val (.int x2), .val (.int an), .val (.int pt), .val (.int hp), .val (.ref b1), .val (.int (f10 b5_r hp b2_r (own_str (p2 &&& (3 : Int32)) (own_n0 p0) (own_n1 p0) (own_n2 p0)) (own_str (own_hl p2) x0 x1 x2) pt)), .val (.int (1 : Int32)), .unset, .unset] [])) (fun t kt => ?_) ?_
                    · show Steps p.tables e below (T6.setTop (mkF m 267 #[.val (.int p0), .val (.int p1), .val (.int p2), .val (.int p3), .val (.int p4), .val (.int (p2 &&& (3 : Int32))), .val (.int (own_hl p2)), .val (.int (own_n0 p0)), .val (.int (own_n1 p0)), .val (.int (own_n2 p0)), .val (.int x0), .val (.int x1), .val (.int x2), .val (.int an), .val (.int pt), .val (.int hp), .val (.ref b1), .val (.int (f10 b5_r hp b2_r (own_str (p2 &&& (3 : Int32)) (own_n0 p0) (own_n1 p0) (own_n2 p0)) (own_str (own_hl p2) x0 x1 x2) pt)), .val (.int (1 : Int32)), .unset, .unset] [(.int hp), (.int pt)])) t
                      refine XS.icmpNo X6.here hx rfl (hb hby at_267) rfl (teq hc267).2 ?_
                      exact kt
                    refine OGW.step (F' := T6.setTop (mkF m 306 #[.val (.int p0), .val (.int p1), .val (.int p2), .val (.int p3), .val (.int p4), .val (.int (p2 &&& (3 : Int32))), .val (.int (own_hl p2)), .val (.int (own_n0 p0)), .val (.int (own_n1 p0)), .val (.int (own_n2 p0)), .val (.int x0), .val (.int x1), .val (.int x2), .val (.int an), .val (.int pt), .val (.int hp), .val (.ref b1), .val (.int (f10 b5_r hp b2_r (own_str (p2 &&& (3 : Int32)) (own_n0 p0) (own_n1 p0) (own_n2 p0)) (own_str (own_hl p2) x0 x1 x2) pt)), .val (.int (1 : Int32)), .val (.int (1 : Int32)), .val (.int (1 : Int32))] [(.int (1 : Int32))])) (fun t kt => ?_) ?_
                    · show Steps p.tables e below (T6.setTop (mkF m 270 #[.val (.int p0), .val (.int p1), .val (.int p2), .val (.int p3), .val (.int p4), .val (.int (p2 &&& (3 : Int32))), .val (.int (own_hl p2)), .val (.int (own_n0 p0)), .val (.int (own_n1 p0)), .val (.int (own_n2 p0)), .val (.int x0), .val (.int x1), .val (.int x2), .val (.int an), .val (.int pt), .val (.int hp), .val (.ref b1), .val (.int (f10 b5_r hp b2_r (own_str (p2 &&& (3 : Int32)) (own_n0 p0) (own_n1 p0) (own_n2 p0)) (own_str (own_hl p2) x0 x1 x2) pt)), .val (.int (1 : Int32)), .unset, .unset] [])) t
                      refine XS.iconst X6.here hx rfl (hb hby at_270) ?_
                      refine XS.goto X6.here hx rfl (pc0 := 271) (pc' := 275) rfl (hb hby at_271) (by decide) (by decide) ?_
                      refine XS.istore X6.here hx rfl (hb hby at_275) rfl (l' := #[.val (.int p0), .val (.int p1), .val (.int p2), .val (.int p3), .val (.int p4), .val (.int (p2 &&& (3 : Int32))), .val (.int (own_hl p2)), .val (.int (own_n0 p0)), .val (.int (own_n1 p0)), .val (.int (own_n2 p0)), .val (.int x0), .val (.int x1), .val (.int x2), .val (.int an), .val (.int pt), .val (.int hp), .val (.ref b1), .val (.int (f10 b5_r hp b2_r (own_str (p2 &&& (3 : Int32)) (own_n0 p0) (own_n1 p0) (own_n2 p0)) (own_str (own_hl p2) x0 x1 x2) pt)), .val (.int (1 : Int32)), .val (.int (1 : Int32)), .unset]) rfl ?_
                      refine XS.iload X6.here hx rfl (hb hby at_277) rfl ?_
                      refine XS.ifNo X6.here hx rfl (hb hby at_279) rfl ((if0 _ _).trans (feq (by decide : ¬ ((1 : Int32) = (0 : Int32)))).1) ?_
                      refine XS.iload X6.here hx rfl (hb hby at_282) rfl ?_
                      refine XS.ifNo X6.here hx rfl (hb hby at_284) rfl ((if0 _ _).trans (feq (by decide : ¬ ((1 : Int32) = (0 : Int32)))).1) ?_
                      refine XS.iconst X6.here hx rfl (hb hby at_287) ?_
                      refine XS.goto X6.here hx rfl (pc0 := 288) (pc' := 292) rfl (hb hby at_288) (by decide) (by decide) ?_
                      refine XS.istore X6.here hx rfl (hb hby at_292) rfl (l' := #[.val (.int p0), .val (.int p1), .val (.int p2), .val (.int p3), .val (.int p4), .val (.int (p2 &&& (3 : Int32))), .val (.int (own_hl p2)), .val (.int (own_n0 p0)), .val (.int (own_n1 p0)), .val (.int (own_n2 p0)), .val (.int x0), .val (.int x1), .val (.int x2), .val (.int an), .val (.int pt), .val (.int hp), .val (.ref b1), .val (.int (f10 b5_r hp b2_r (own_str (p2 &&& (3 : Int32)) (own_n0 p0) (own_n1 p0) (own_n2 p0)) (own_str (own_hl p2) x0 x1 x2) pt)), .val (.int (1 : Int32)), .val (.int (1 : Int32)), .val (.int (1 : Int32))]) rfl ?_
                      refine XS.iload X6.here hx rfl (hb hby at_294) rfl ?_
                      refine XS.iload X6.here hx rfl (hb hby at_296) rfl ?_
                      refine XS.icmpNo X6.here hx rfl (hb hby at_298) rfl (teq ((own_fin _ _ (Nat.ne_of_lt (Nat.lt_of_lt_of_le (P2_0.keep K4).lt szo_b5_r)) _ _ _ _ _ _ _ _ _ _ _ (own_nl _) (own_nl _) (own_rn0 _) (own_rn1 _) (own_rn2 _) hx0 hx1 hx2 hap).1 ⟨⟨hc209, Or.inr hc222, Or.inr hc235, Or.inl hc241⟩, Or.inr hc267⟩)).2 ?_
                      refine XS.iconst X6.here hx rfl (hb hby at_301) ?_
                      refine XS.goto X6.here hx rfl (pc0 := 302) (pc' := 306) rfl (hb hby at_302) (by decide) (by decide) ?_
                      exact kt
                    refine OGW.retZ X6 hx hlk hS hk hZ hEL CR e6 (t := .boolean) (z' := (1 : Int32)) hret (by simp) (hb hby at_306) rfl ?_ (by decide) (by decide)
                    show Q0 Z p0 p1 p2 p3 p4 w_COMPACT_STRINGS h0 n0 _ T6.heap _
                    rw [e6]
                    exact ⟨rfl, N6, KC5⟩
                  · refine OGW.step (F' := T6.setTop (mkF m 274 #[.val (.int p0), .val (.int p1), .val (.int p2), .val (.int p3), .val (.int p4), .val (.int (p2 &&& (3 : Int32))), .val (.int (own_hl p2)), .val (.int (own_n0 p0)), .val (.int (own_n1 p0)), .val (.int (own_n2 p0)), .val (.int x0), .val (.int x1), .val (.int x2), .val (.int an), .val (.int pt), .val (.int hp), .val (.ref b1), .val (.int (f10 b5_r hp b2_r (own_str (p2 &&& (3 : Int32)) (own_n0 p0) (own_n1 p0) (own_n2 p0)) (own_str (own_hl p2) x0 x1 x2) pt)), .val (.int (1 : Int32)), .unset, .unset] [])) (fun t kt => ?_) ?_
                    · show Steps p.tables e below (T6.setTop (mkF m 267 #[.val (.int p0), .val (.int p1), .val (.int p2), .val (.int p3), .val (.int p4), .val (.int (p2 &&& (3 : Int32))), .val (.int (own_hl p2)), .val (.int (own_n0 p0)), .val (.int (own_n1 p0)), .val (.int (own_n2 p0)), .val (.int x0), .val (.int x1), .val (.int x2), .val (.int an), .val (.int pt), .val (.int hp), .val (.ref b1), .val (.int (f10 b5_r hp b2_r (own_str (p2 &&& (3 : Int32)) (own_n0 p0) (own_n1 p0) (own_n2 p0)) (own_str (own_hl p2) x0 x1 x2) pt)), .val (.int (1 : Int32)), .unset, .unset] [(.int hp), (.int pt)])) t
                      refine XS.icmpYes X6.here hx rfl (pc0 := 267) (pc' := 274) rfl (hb hby at_267) rfl (feq hc267).2 (by decide) (by decide) ?_
                      exact kt
                    refine OGW.step (F' := T6.setTop (mkF m 306 #[.val (.int p0), .val (.int p1), .val (.int p2), .val (.int p3), .val (.int p4), .val (.int (p2 &&& (3 : Int32))), .val (.int (own_hl p2)), .val (.int (own_n0 p0)), .val (.int (own_n1 p0)), .val (.int (own_n2 p0)), .val (.int x0), .val (.int x1), .val (.int x2), .val (.int an), .val (.int pt), .val (.int hp), .val (.ref b1), .val (.int (f10 b5_r hp b2_r (own_str (p2 &&& (3 : Int32)) (own_n0 p0) (own_n1 p0) (own_n2 p0)) (own_str (own_hl p2) x0 x1 x2) pt)), .val (.int (1 : Int32)), .val (.int (0 : Int32)), .val (.int (0 : Int32))] [(.int (1 : Int32))])) (fun t kt => ?_) ?_
                    · show Steps p.tables e below (T6.setTop (mkF m 274 #[.val (.int p0), .val (.int p1), .val (.int p2), .val (.int p3), .val (.int p4), .val (.int (p2 &&& (3 : Int32))), .val (.int (own_hl p2)), .val (.int (own_n0 p0)), .val (.int (own_n1 p0)), .val (.int (own_n2 p0)), .val (.int x0), .val (.int x1), .val (.int x2), .val (.int an), .val (.int pt), .val (.int hp), .val (.ref b1), .val (.int (f10 b5_r hp b2_r (own_str (p2 &&& (3 : Int32)) (own_n0 p0) (own_n1 p0) (own_n2 p0)) (own_str (own_hl p2) x0 x1 x2) pt)), .val (.int (1 : Int32)), .unset, .unset] [])) t
                      refine XS.iconst X6.here hx rfl (hb hby at_274) ?_
                      refine XS.istore X6.here hx rfl (hb hby at_275) rfl (l' := #[.val (.int p0), .val (.int p1), .val (.int p2), .val (.int p3), .val (.int p4), .val (.int (p2 &&& (3 : Int32))), .val (.int (own_hl p2)), .val (.int (own_n0 p0)), .val (.int (own_n1 p0)), .val (.int (own_n2 p0)), .val (.int x0), .val (.int x1), .val (.int x2), .val (.int an), .val (.int pt), .val (.int hp), .val (.ref b1), .val (.int (f10 b5_r hp b2_r (own_str (p2 &&& (3 : Int32)) (own_n0 p0) (own_n1 p0) (own_n2 p0)) (own_str (own_hl p2) x0 x1 x2) pt)), .val (.int (1 : Int32)), .val (.int (0 : Int32)), .unset]) rfl ?_
                      refine XS.iload X6.here hx rfl (hb hby at_277) rfl ?_
                      refine XS.ifNo X6.here hx rfl (hb hby at_279) rfl ((if0 _ _).trans (feq (by decide : ¬ ((1 : Int32) = (0 : Int32)))).1) ?_
                      refine XS.iload X6.here hx rfl (hb hby at_282) rfl ?_
                      refine XS.ifYes X6.here hx rfl (pc0 := 284) (pc' := 291) rfl (hb hby at_284) rfl ((if0 _ _).trans (teq (by decide : (0 : Int32) = (0 : Int32))).1) (by decide) (by decide) ?_
                      refine XS.iconst X6.here hx rfl (hb hby at_291) ?_
                      refine XS.istore X6.here hx rfl (hb hby at_292) rfl (l' := #[.val (.int p0), .val (.int p1), .val (.int p2), .val (.int p3), .val (.int p4), .val (.int (p2 &&& (3 : Int32))), .val (.int (own_hl p2)), .val (.int (own_n0 p0)), .val (.int (own_n1 p0)), .val (.int (own_n2 p0)), .val (.int x0), .val (.int x1), .val (.int x2), .val (.int an), .val (.int pt), .val (.int hp), .val (.ref b1), .val (.int (f10 b5_r hp b2_r (own_str (p2 &&& (3 : Int32)) (own_n0 p0) (own_n1 p0) (own_n2 p0)) (own_str (own_hl p2) x0 x1 x2) pt)), .val (.int (1 : Int32)), .val (.int (0 : Int32)), .val (.int (0 : Int32))]) rfl ?_
                      refine XS.iload X6.here hx rfl (hb hby at_294) rfl ?_
                      refine XS.iload X6.here hx rfl (hb hby at_296) rfl ?_
                      refine XS.icmpNo X6.here hx rfl (hb hby at_298) rfl (teq ((own_fin _ _ (Nat.ne_of_lt (Nat.lt_of_lt_of_le (P2_0.keep K4).lt szo_b5_r)) _ _ _ _ _ _ _ _ _ _ _ (own_nl _) (own_nl _) (own_rn0 _) (own_rn1 _) (own_rn2 _) hx0 hx1 hx2 hap).2 (fun q => q.2.elim (fun z => z hc260) hc267))).2 ?_
                      refine XS.iconst X6.here hx rfl (hb hby at_301) ?_
                      refine XS.goto X6.here hx rfl (pc0 := 302) (pc' := 306) rfl (hb hby at_302) (by decide) (by decide) ?_
                      exact kt
                    refine OGW.retZ X6 hx hlk hS hk hZ hEL CR e6 (t := .boolean) (z' := (1 : Int32)) hret (by simp) (hb hby at_306) rfl ?_ (by decide) (by decide)
                    show Q0 Z p0 p1 p2 p3 p4 w_COMPACT_STRINGS h0 n0 _ T6.heap _
                    rw [e6]
                    exact ⟨rfl, N6, KC5⟩
                · refine OGW.step (F' := T6.setTop (mkF m 270 #[.val (.int p0), .val (.int p1), .val (.int p2), .val (.int p3), .val (.int p4), .val (.int (p2 &&& (3 : Int32))), .val (.int (own_hl p2)), .val (.int (own_n0 p0)), .val (.int (own_n1 p0)), .val (.int (own_n2 p0)), .val (.int x0), .val (.int x1), .val (.int x2), .val (.int an), .val (.int pt), .val (.int hp), .val (.ref b1), .val (.int (f10 b5_r hp b2_r (own_str (p2 &&& (3 : Int32)) (own_n0 p0) (own_n1 p0) (own_n2 p0)) (own_str (own_hl p2) x0 x1 x2) pt)), .val (.int (1 : Int32)), .unset, .unset] [])) (fun t kt => ?_) ?_
                  · show Steps p.tables e below (T6.setTop (mkF m 260 #[.val (.int p0), .val (.int p1), .val (.int p2), .val (.int p3), .val (.int p4), .val (.int (p2 &&& (3 : Int32))), .val (.int (own_hl p2)), .val (.int (own_n0 p0)), .val (.int (own_n1 p0)), .val (.int (own_n2 p0)), .val (.int x0), .val (.int x1), .val (.int x2), .val (.int an), .val (.int pt), .val (.int hp), .val (.ref b1), .val (.int (f10 b5_r hp b2_r (own_str (p2 &&& (3 : Int32)) (own_n0 p0) (own_n1 p0) (own_n2 p0)) (own_str (own_hl p2) x0 x1 x2) pt)), .val (.int (1 : Int32)), .unset, .unset] [(.int an)])) t
                    refine XS.ifYes X6.here hx rfl (pc0 := 260) (pc' := 270) rfl (hb hby at_260) rfl ((if0 _ _).trans (feq hc260).2) (by decide) (by decide) ?_
                    exact kt
                  refine OGW.step (F' := T6.setTop (mkF m 306 #[.val (.int p0), .val (.int p1), .val (.int p2), .val (.int p3), .val (.int p4), .val (.int (p2 &&& (3 : Int32))), .val (.int (own_hl p2)), .val (.int (own_n0 p0)), .val (.int (own_n1 p0)), .val (.int (own_n2 p0)), .val (.int x0), .val (.int x1), .val (.int x2), .val (.int an), .val (.int pt), .val (.int hp), .val (.ref b1), .val (.int (f10 b5_r hp b2_r (own_str (p2 &&& (3 : Int32)) (own_n0 p0) (own_n1 p0) (own_n2 p0)) (own_str (own_hl p2) x0 x1 x2) pt)), .val (.int (1 : Int32)), .val (.int (1 : Int32)), .val (.int (1 : Int32))] [(.int (1 : Int32))])) (fun t kt => ?_) ?_
                  · show Steps p.tables e below (T6.setTop (mkF m 270 #[.val (.int p0), .val (.int p1), .val (.int p2), .val (.int p3), .val (.int p4), .val (.int (p2 &&& (3 : Int32))), .val (.int (own_hl p2)), .val (.int (own_n0 p0)), .val (.int (own_n1 p0)), .val (.int (own_n2 p0)), .val (.int x0), .val (.int x1), .val (.int x2), .val (.int an), .val (.int pt), .val (.int hp), .val (.ref b1), .val (.int (f10 b5_r hp b2_r (own_str (p2 &&& (3 : Int32)) (own_n0 p0) (own_n1 p0) (own_n2 p0)) (own_str (own_hl p2) x0 x1 x2) pt)), .val (.int (1 : Int32)), .unset, .unset] [])) t
                    refine XS.iconst X6.here hx rfl (hb hby at_270) ?_
                    refine XS.goto X6.here hx rfl (pc0 := 271) (pc' := 275) rfl (hb hby at_271) (by decide) (by decide) ?_
                    refine XS.istore X6.here hx rfl (hb hby at_275) rfl (l' := #[.val (.int p0), .val (.int p1), .val (.int p2), .val (.int p3), .val (.int p4), .val (.int (p2 &&& (3 : Int32))), .val (.int (own_hl p2)), .val (.int (own_n0 p0)), .val (.int (own_n1 p0)), .val (.int (own_n2 p0)), .val (.int x0), .val (.int x1), .val (.int x2), .val (.int an), .val (.int pt), .val (.int hp), .val (.ref b1), .val (.int (f10 b5_r hp b2_r (own_str (p2 &&& (3 : Int32)) (own_n0 p0) (own_n1 p0) (own_n2 p0)) (own_str (own_hl p2) x0 x1 x2) pt)), .val (.int (1 : Int32)), .val (.int (1 : Int32)), .unset]) rfl ?_
                    refine XS.iload X6.here hx rfl (hb hby at_277) rfl ?_
                    refine XS.ifNo X6.here hx rfl (hb hby at_279) rfl ((if0 _ _).trans (feq (by decide : ¬ ((1 : Int32) = (0 : Int32)))).1) ?_
                    refine XS.iload X6.here hx rfl (hb hby at_282) rfl ?_
                    refine XS.ifNo X6.here hx rfl (hb hby at_284) rfl ((if0 _ _).trans (feq (by decide : ¬ ((1 : Int32) = (0 : Int32)))).1) ?_
                    refine XS.iconst X6.here hx rfl (hb hby at_287) ?_
                    refine XS.goto X6.here hx rfl (pc0 := 288) (pc' := 292) rfl (hb hby at_288) (by decide) (by decide) ?_
                    refine XS.istore X6.here hx rfl (hb hby at_292) rfl (l' := #[.val (.int p0), .val (.int p1), .val (.int p2), .val (.int p3), .val (.int p4), .val (.int (p2 &&& (3 : Int32))), .val (.int (own_hl p2)), .val (.int (own_n0 p0)), .val (.int (own_n1 p0)), .val (.int (own_n2 p0)), .val (.int x0), .val (.int x1), .val (.int x2), .val (.int an), .val (.int pt), .val (.int hp), .val (.ref b1), .val (.int (f10 b5_r hp b2_r (own_str (p2 &&& (3 : Int32)) (own_n0 p0) (own_n1 p0) (own_n2 p0)) (own_str (own_hl p2) x0 x1 x2) pt)), .val (.int (1 : Int32)), .val (.int (1 : Int32)), .val (.int (1 : Int32))]) rfl ?_
                    refine XS.iload X6.here hx rfl (hb hby at_294) rfl ?_
                    refine XS.iload X6.here hx rfl (hb hby at_296) rfl ?_
                    refine XS.icmpNo X6.here hx rfl (hb hby at_298) rfl (teq ((own_fin _ _ (Nat.ne_of_lt (Nat.lt_of_lt_of_le (P2_0.keep K4).lt szo_b5_r)) _ _ _ _ _ _ _ _ _ _ _ (own_nl _) (own_nl _) (own_rn0 _) (own_rn1 _) (own_rn2 _) hx0 hx1 hx2 hap).1 ⟨⟨hc209, Or.inr hc222, Or.inr hc235, Or.inl hc241⟩, Or.inl hc260⟩)).2 ?_
                    refine XS.iconst X6.here hx rfl (hb hby at_301) ?_
                    refine XS.goto X6.here hx rfl (pc0 := 302) (pc' := 306) rfl (hb hby at_302) (by decide) (by decide) ?_
                    exact kt
                  refine OGW.retZ X6 hx hlk hS hk hZ hEL CR e6 (t := .boolean) (z' := (1 : Int32)) hret (by simp) (hb hby at_306) rfl ?_ (by decide) (by decide)
                  show Q0 Z p0 p1 p2 p3 p4 w_COMPACT_STRINGS h0 n0 _ T6.heap _
                  rw [e6]
                  exact ⟨rfl, N6, KC5⟩
              · refine OGW.step (F' := T6.setTop (mkF m 244 #[.val (.int p0), .val (.int p1), .val (.int p2), .val (.int p3), .val (.int p4), .val (.int (p2 &&& (3 : Int32))), .val (.int (own_hl p2)), .val (.int (own_n0 p0)), .val (.int (own_n1 p0)), .val (.int (own_n2 p0)), .val (.int x0), .val (.int x1), .val (.int x2), .val (.int an), .val (.int pt), .val (.int hp), .val (.ref b1), .val (.int (f10 b5_r hp b2_r (own_str (p2 &&& (3 : Int32)) (own_n0 p0) (own_n1 p0) (own_n2 p0)) (own_str (own_hl p2) x0 x1 x2) pt)), .unset, .unset, .unset] [])) (fun t kt => ?_) ?_
                · show Steps p.tables e below (T6.setTop (mkF m 241 #[.val (.int p0), .val (.int p1), .val (.int p2), .val (.int p3), .val (.int p4), .val (.int (p2 &&& (3 : Int32))), .val (.int (own_hl p2)), .val (.int (own_n0 p0)), .val (.int (own_n1 p0)), .val (.int (own_n2 p0)), .val (.int x0), .val (.int x1), .val (.int x2), .val (.int an), .val (.int pt), .val (.int hp), .val (.ref b1), .val (.int (f10 b5_r hp b2_r (own_str (p2 &&& (3 : Int32)) (own_n0 p0) (own_n1 p0) (own_n2 p0)) (own_str (own_hl p2) x0 x1 x2) pt)), .unset, .unset, .unset] [(.int (3 : Int32)), (.int (p2 &&& (3 : Int32)))])) t
                  refine XS.icmpNo X6.here hx rfl (hb hby at_241) rfl (flt hc241).1 ?_
                  exact kt
                refine OGW.step (F' := T6.setTop (mkF m 248 #[.val (.int p0), .val (.int p1), .val (.int p2), .val (.int p3), .val (.int p4), .val (.int (p2 &&& (3 : Int32))), .val (.int (own_hl p2)), .val (.int (own_n0 p0)), .val (.int (own_n1 p0)), .val (.int (own_n2 p0)), .val (.int x0), .val (.int x1), .val (.int x2), .val (.int an), .val (.int pt), .val (.int hp), .val (.ref b1), .val (.int (f10 b5_r hp b2_r (own_str (p2 &&& (3 : Int32)) (own_n0 p0) (own_n1 p0) (own_n2 p0)) (own_str (own_hl p2) x0 x1 x2) pt)), .unset, .unset, .unset] [(.int x2), (.int (own_n2 p0))])) (fun t kt => ?_) ?_
                · show Steps p.tables e below (T6.setTop (mkF m 244 #[.val (.int p0), .val (.int p1), .val (.int p2), .val (.int p3), .val (.int p4), .val (.int (p2 &&& (3 : Int32))), .val (.int (own_hl p2)), .val (.int (own_n0 p0)), .val (.int (own_n1 p0)), .val (.int (own_n2 p0)), .val (.int x0), .val (.int x1), .val (.int x2), .val (.int an), .val (.int pt), .val (.int hp), .val (.ref b1), .val (.int (f10 b5_r hp b2_r (own_str (p2 &&& (3 : Int32)) (own_n0 p0) (own_n1 p0) (own_n2 p0)) (own_str (own_hl p2) x0 x1 x2) pt)), .unset, .unset, .unset] [])) t
                  refine XS.iload X6.here hx rfl (hb hby at_244) rfl ?_
                  refine XS.iload X6.here hx rfl (hb hby at_246) rfl ?_
                  exact kt
                by_cases hc248 : (own_n2 p0) = x2
                · refine OGW.step (F' := T6.setTop (mkF m 251 #[.val (.int p0), .val (.int p1), .val (.int p2), .val (.int p3), .val (.int p4), .val (.int (p2 &&& (3 : Int32))), .val (.int (own_hl p2)), .val (.int (own_n0 p0)), .val (.int (own_n1 p0)), .val (.int (own_n2 p0)), .val (.int x0), .val (.int x1), .val (.int x2), .val (.int an), .val (.int pt), .val (.int hp), .val (.ref b1), .val (.int (f10 b5_r hp b2_r (own_str (p2 &&& (3 : Int32)) (own_n0 p0) (own_n1 p0) (own_n2 p0)) (own_str (own_hl p2) x0 x1 x2) pt)), .unset, .unset, .unset] [])) (fun t kt => ?_) ?_
                  · show Steps p.tables e below (T6.setTop (mkF m 248 #[.val (.int p0), .val (.int p1), .val (.int p2), .val (.int p3), .val (.int p4), .val (.int (p2 &&& (3 : Int32))), .val (.int (own_hl p2)), .val (.int (own_n0 p0)), .val (.int (own_n1 p0)), .val (.int (own_n2 p0)), .val (.int x0), .val (.int x1), .val (.int x2), .val (.int an), .val (.int pt), .val (.int hp), .val (.ref b1), .val (.int (f10 b5_r hp b2_r (own_str (p2 &&& (3 : Int32)) (own_n0 p0) (own_n1 p0) (own_n2 p0)) (own_str (own_hl p2) x0 x1 x2) pt)), .unset, .unset, .unset] [(.int x2), (.int (own_n2 p0))])) t
                    refine XS.icmpNo X6.here hx rfl (hb hby at_248) rfl (teq hc248).2 ?_
                    exact kt
                  refine OGW.step (F' := T6.setTop (mkF m 260 #[.val (.int p0), .val (.int p1), .val (.int p2), .val (.int p3), .val (.int p4), .val (.int (p2 &&& (3 : Int32))), .val (.int (own_hl p2)), .val (.int (own_n0 p0)), .val (.int (own_n1 p0)), .val (.int (own_n2 p0)), .val (.int x0), .val (.int x1), .val (.int x2), .val (.int an), .val (.int pt), .val (.int hp), .val (.ref b1), .val (.int (f10 b5_r hp b2_r (own_str (p2 &&& (3 : Int32)) (own_n0 p0) (own_n1 p0) (own_n2 p0)) (own_str (own_hl p2) x0 x1 x2) pt)), .val (.int (1 : Int32)), .unset, .unset] [(.int an)])) (fun t kt => ?_) ?_
                  · show Steps p.tables e below (T6.setTop (mkF m 251 #[.val (.int p0), .val (.int p1), .val (.int p2), .val (.int p3), .val (.int p4), .val (.int (p2 &&& (3 : Int32))), .val (.int (own_hl p2)), .val (.int (own_n0 p0)), .val (.int (own_n1 p0)), .val (.int (own_n2 p0)), .val (.int x0), .val (.int x1), .val (.int x2), .val (.int an), .val (.int pt), .val (.int hp), .val (.ref b1), .val (.int (f10 b5_r hp b2_r (own_str (p2 &&& (3 : Int32)) (own_n0 p0) (own_n1 p0) (own_n2 p0)) (own_str (own_hl p2) x0 x1 x2) pt)), .unset, .unset, .unset] [])) t
                    refine XS.iconst X6.here hx rfl (hb hby at_251) ?_
                    refine XS.goto X6.here hx rfl (pc0 := 252) (pc' := 256) rfl (hb hby at_252) (by decide) (by decide) ?_
                    refine XS.istore X6.here hx rfl (hb hby at_256) rfl (l' := #[.val (.int p0), .val (.int p1), .val (.int p2), .val (.int p3), .val (.int p4), .val (.int (p2 &&& (3 : Int32))), .val (.int (own_hl p2)), .val (.int (own_n0 p0)), .val (.int (own_n1 p0)), .val (.int (own_n2 p0)), .val (.int x0), .val (.int x1), .val (.int x2), .val (.int an), .val (.int pt), .val (.int hp), .val (.ref b1), .val (.int (f10 b5_r hp b2_r (own_str (p2 &&& (3 : Int32)) (own_n0 p0) (own_n1 p0) (own_n2 p0)) (own_str (own_hl p2) x0 x1 x2) pt)), .val (.int (1 : Int32)), .unset, .unset]) rfl ?_
                    refine XS.iload X6.here hx rfl (hb hby at_258) rfl ?_
                    exact kt
                  by_cases hc260 : an = (0 : Int32)
                  · refine OGW.step (F' := T6.setTop (mkF m 263 #[.val (.int p0), .val (.int p1), .val (.int p2), .val (.int p3), .val (.int p4), .val (.int (p2 &&& (3 : Int32))), .val (.int (own_hl p2)), .val (.int (own_n0 p0)), .val (.int (own_n1 p0)), .val (.int (own_n2 p0)), .val (.int x0), .val (.int x1), .val (.int x2), .val (.int an), .val (.int pt), .val (.int hp), .val (.ref b1), .val (.int (f10 b5_r hp b2_r (own_str (p2 &&& (3 : Int32)) (own_n0 p0) (own_n1 p0) (own_n2 p0)) (own_str (own_hl p2) x0 x1 x2) pt)), .val (.int (1 : Int32)), .unset, .unset] [])) (fun t kt => ?_) ?_
                    · show Steps p.tables e below (T6.setTop (mkF m 260 #[.val (.int p0), .val (.int p1), .val (.int p2), .val (.int p3), .val (.int p4), .val (.int (p2 &&& (3 : Int32))), .val (.int (own_hl p2)), .val (.int (own_n0 p0)), .val (.int (own_n1 p0)), .val (.int (own_n2 p0)), .val (.int x0), .val (.int x1), .val (.int x2), .val (.int an), .val (.int pt), .val (.int hp), .val (.ref b1), .val (.int (f10 b5_r hp b2_r (own_str (p2 &&& (3 : Int32)) (own_n0 p0) (own_n1 p0) (own_n2 p0)) (own_str (own_hl p2) x0 x1 x2) pt)), .val (.int (1 : Int32)), .unset, .unset] [(.int an)])) t
                      refine XS.ifNo X6.here hx rfl (hb hby at_260) rfl ((if0 _ _).trans (teq hc260).2) ?_
                      exact kt
                    refine OGW.step (F' := T6.setTop (mkF m 267 #[.val (.int p0), .val (.int p1), .val (.int p2), .val (.int p3), .val (.int p4), .val (.int (p2 &&& (3 : Int32))), .val (.int (own_hl p2)), .val (.int (own_n0 p0)), .val (.int (own_n1 p0)), .val (.int (own_n2 p0)), .val (.int x0), .val (.int x1), .val (.int x2), .val (.int an), .val (.int pt), .val (.int hp), .val (.ref b1), .val (.int (f10 b5_r hp b2_r (own_str (p2 &&& (3 : Int32)) (own_n0 p0) (own_n1 p0) (own_n2 p0)) (own_str (own_hl p2) x0 x1 x2) pt)), .val (.int (1 : Int32)), .unset, .unset] [(.int hp), (.int pt)])) (fun t kt => ?_) ?_
                    · show Steps p.tables e below (T6.setTop (mkF m 263 #[.val (.int p0), .val (.int p1), .val (.int p2), .val (.int p3), .val (.int p4), .val (.int (p2 &&& (3 : Int32))), .val (.int (own_hl p2)), .val (.int (own_n0 p0)), .val (.int (own_n1 p0)), .val (.int (own_n2 p0)), .val (.int x0), .val (.int x1), .val (.int x2), .val (.int an), .val (.int pt), .val (.int hp), .val (.ref b1), .val (.int (f10 b5_r hp b2_r (own_str (p2 &&& (3 : Int32)) (own_n0 p0) (own_n1 p0) (own_n2 p0)) (own_str (own_hl p2) x0 x1 x2) pt)), .val (.int (1 : Int32)), .unset, .unset] [])) t
                      refine XS.iload X6.here hx rfl (hb hby at_263) rfl ?_
                      refine XS.iload X6.here hx rfl (hb hby at_265) rfl ?_
                      exact kt
                    by_cases hc267 : pt = hp
                    · refine OGW.step (F' := T6.setTop (mkF m 270 #[.val (.int p0), .val (.int p1), .val (.int p2), .val (.int p3), .val (.int p4), .val (.int (p2 &&& (3 : Int32))), .val (.int (own_hl p2)), .val (.int (own_n0 p0)), .val (.int (own_n1 p0)), .val (.int (own_n2 p0)), .val (.int x0), .val (.int x1), .val (.int x2), .val (.int an), .val (.int pt), .val (.int hp), .val (.ref b1), .val (.int (f10 b5_r hp b2_r (own_str (p2 &&& (3 : Int32)) (own_n0 p0) (own_n1 p0) (own_n2 p0)) (own_str (own_hl p2) x0 x1 x2) pt)), .val (.int (1 : Int32)), .unset, .unset] [])) (fun t kt => ?_) ?_
                      · show Steps p.tables e below (T6.setTop (mkF m 267 #[.val (.int p0), .val (.int p1), .val (.int p2), .val (.int p3), .val (.int p4), .val (.int (p2 &&& (3 : Int32))), .val (.int (own_hl p2)), .val (.int (own_n0 p0)), .val (.int (own_n1 p0)), .val (.int (own_n2 p0)), .val (.int x0), .val (.int x1), .val (.int x2), .val (.int an), .val (.int pt), .val (.int hp), .val (.ref b1), .val (.int (f10 b5_r hp b2_r (own_str (p2 &&& (3 : Int32)) (own_n0 p0) (own_n1 p0) (own_n2 p0)) (own_str (own_hl p2) x0 x1 x2) pt)), .val (.int (1 : Int32)), .unset, .unset] [(.int hp), (.int pt)])) t
                        refine XS.icmpNo X6.here hx rfl (hb hby at_267) rfl (teq hc267).2 ?_
                        exact kt
                      refine OGW.step (F' := T6.setTop (mkF m 306 #[.val (.int p0), .val (.int p1), .val (.int p2), .val (.int p3), .val (.int p4), .val (.int (p2 &&& (3 : Int32))), .val (.int (own_hl p2)), .val (.int (own_n0 p0)), .val (.int (own_n1 p0)), .val (.int (own_n2 p0)), .val (.int x0), .val (.int x1), .val (.int x2), .val (.int an), .val (.int pt), .val (.int hp), .val (.ref b1), .val (.int (f10 b5_r hp b2_r (own_str (p2 &&& (3 : Int32)) (own_n0 p0) (own_n1 p0) (own_n2 p0)) (own_str (own_hl p2) x0 x1 x2) pt)), .val (.int (1 : Int32)), .val (.int (1 : Int32)), .val (.int (1 : Int32))] [(.int (1 : Int32))])) (fun t kt => ?_) ?_
                      · show Steps p.tables e below (T6.setTop (mkF m 270 #[.val (.int p0), .val (.int p1), .val (.int p2), .val (.int p3), .val (.int p4), .val (.int (p2 &&& (3 : Int32))), .val (.int (own_hl p2)), .val (.int (own_n0 p0)), .val (.int (own_n1 p0)), .val (.int (own_n2 p0)), .val (.int x0), .val (.int x1), .val (.int x2), .val (.int an), .val (.int pt), .val (.int hp), .val (.ref b1), .val (.int (f10 b5_r hp b2_r (own_str (p2 &&& (3 : Int32)) (own_n0 p0) (own_n1 p0) (own_n2 p0)) (own_str (own_hl p2) x0 x1 x2) pt)), .val (.int (1 : Int32)), .unset, .unset] [])) t
                        refine XS.iconst X6.here hx rfl (hb hby at_270) ?_
                        refine XS.goto X6.here hx rfl (pc0 := 271) (pc' := 275) rfl (hb hby at_271) (by decide) (by decide) ?_
                        refine XS.istore X6.here hx rfl (hb hby at_275) rfl (l' := #[.val (.int p0), .val (.int p1), .val (.int p2), .val (.int p3), .val (.int p4), .val (.int (p2 &&& (3 : Int32))), .val (.int (own_hl p2)), .val (.int (own_n0 p0)), .val (.int (own_n1 p0)), .val (.int (own_n2 p0)), .val (.int x0), .val (.int x1), .val (.int x2), .val (.int an), .val (.int pt), .val (.int hp), .val (.ref b1), .val (.int (f10 b5_r hp b2_r (own_str (p2 &&& (3 : Int32)) (own_n0 p0) (own_n1 p0) (own_n2 p0)) (own_str (own_hl p2) x0 x1 x2) pt)), .val (.int (1 : Int32)), .val (.int (1 : Int32)), .unset]) rfl ?_
                        refine XS.iload X6.here hx rfl (hb hby at_277) rfl ?_
                        refine XS.ifNo X6.here hx rfl (hb hby at_279) rfl ((if0 _ _).trans (feq (by decide : ¬ ((1 : Int32) = (0 : Int32)))).1) ?_
                        refine XS.iload X6.here hx rfl (hb hby at_282) rfl ?_
                        refine XS.ifNo X6.here hx rfl (hb hby at_284) rfl ((if0 _ _).trans (feq (by decide : ¬ ((1 : Int32) = (0 : Int32)))).1) ?_
                        refine XS.iconst X6.here hx rfl (hb hby at_287) ?_
                        refine XS.goto X6.here hx rfl (pc0 := 288) (pc' := 292) rfl (hb hby at_288) (by decide) (by decide) ?_
                        refine XS.istore X6.here hx rfl (hb hby at_292) rfl (l' := #[.val (.int p0), .val (.int p1), .val (.int p2), .val (.int p3), .val (.int p4), .val (.int (p2 &&& (3 : Int32))), .val (.int (own_hl p2)), .val (.int (own_n0 p0)), .val (.int (own_n1 p0)), .val (.int (own_n2 p0)), .val (.int x0), .val (.int x1), .val (.int x2), .val (.int an), .val (.int pt), .val (.int hp), .val (.ref b1), .val (.int (f10 b5_r hp b2_r (own_str (p2 &&& (3 : Int32)) (own_n0 p0) (own_n1 p0) (own_n2 p0)) (own_str (own_hl p2) x0 x1 x2) pt)), .val (.int (1 : Int32)), .val (.int (1 : Int32)), .val (.int (1 : Int32))]) rfl ?_
                        refine XS.iload X6.here hx rfl (hb hby at_294) rfl ?_
                        refine XS.iload X6.here hx rfl (hb hby at_296) rfl ?_
                        refine XS.icmpNo X6.here hx rfl (hb hby at_298) rfl (teq ((own_fin _ _ (Nat.ne_of_lt (Nat.lt_of_lt_of_le (P2_0.keep K4).lt szo_b5_r)) _ _ _ _ _ _ _ _ _ _ _ (own_nl _) (own_nl _) (own_rn0 _) (own_rn1 _) (own_rn2 _) hx0 hx1 hx2 hap).1 ⟨⟨hc209, Or.inr hc222, Or.inr hc235, Or.inr hc248⟩, Or.inr hc267⟩)).2 ?_
                        refine XS.iconst X6.here hx rfl (hb hby at_301) ?_
                        refine XS.goto X6.here hx rfl (pc0 := 302) (pc' := 306) rfl (hb hby at_302) (by decide) (by decide) ?_
                        exact kt
                      refine OGW.retZ X6 hx hlk hS hk hZ hEL CR e6 (t := .boolean) (z' := (1 : Int32)) hret (by simp) (hb hby at_306) rfl ?_ (by decide) (by decide)
                      show Q0 Z p0 p1 p2 p3 p4 w_COMPACT_STRINGS h0 n0 _ T6.heap _
                      rw [e6]
                      exact ⟨rfl, N6, KC5⟩
                    · refine OGW.step (F' := T6.setTop (mkF m 274 #[.val (.int p0), .val (.int p1), .val (.int p2), .val (.int p3), .val (.int p4), .val (.int (p2 &&& (3 : Int32))), .val (.int (own_hl p2)), .val (.int (own_n0 p0)), .val (.int (own_n1 p0)), .val (.int (own_n2 p0)), .val (.int x0), .val (.int x1), .val (.int x2), .val (.int an), .val (.int pt), .val (.int hp), .val (.ref b1), .val (.int (f10 b5_r hp b2_r (own_str (p2 &&& (3 : Int32)) (own_n0 p0) (own_n1 p0) (own_n2 p0)) (own_str (own_hl p2) x0 x1 x2) pt)), .val (.int (1 : Int32)), .unset, .unset] [])) (fun t kt => ?_) ?_
                      · show Steps p.tables e below (T6.setTop (mkF m 267 #[.val (.int p0), .val (.int p1), .val (.int p2), .val (.int p3), .val (.int p4), .val (.int (p2 &&& (3 : Int32))), .val (.int (own_hl p2)), .val (.int (own_n0 p0)), .val (.int (own_n1 p0)), .val (.int (own_n2 p0)), .val (.int x0), .val (.int x1), .val (.int x2), .val (.int an), .val (.int pt), .val (.int hp), .val (.ref b1), .val (.int (f10 b5_r hp b2_r (own_str (p2 &&& (3 : Int32)) (own_n0 p0) (own_n1 p0) (own_n2 p0)) (own_str (own_hl p2) x0 x1 x2) pt)), .val (.int (1 : Int32)), .unset, .unset] [(.int hp), (.int pt)])) t
                        refine XS.icmpYes X6.here hx rfl (pc0 := 267) (pc' := 274) rfl (hb hby at_267) rfl (feq hc267).2 (by decide) (by decide) ?_
                        exact kt
                      refine OGW.step (F' := T6.setTop (mkF m 306 #[.val (.int p0), .val (.int p1), .val (.int p2), .val (.int p3), .val (.int p4), .val (.int (p2 &&& (3 : Int32))), .val (.int (own_hl p2)), .val (.int (own_n0 p0)), .val (.int (own_n1 p0)), .val (.int (own_n2 p0)), .val (.int x0), .val (.int x1), .val (.int x2), .val (.int an), .val (.int pt), .val (.int hp), .val (.ref b1), .val (.int (f10 b5_r hp b2_r (own_str (p2 &&& (3 : Int32)) (own_n0 p0) (own_n1 p0) (own_n2 p0)) (own_str (own_hl p2) x0 x1 x2) pt)), .val (.int (1 : Int32)), .val (.int (0 : Int32)), .val (.int (0 : Int32))] [(.int (1 : Int32))])) (fun t kt => ?_) ?_
                      · show Steps p.tables e below (T6.setTop (mkF m 274 #[.val (.int p0), .val (.int p1), .val (.int p2), .val (.int p3), .val (.int p4), .val (.int (p2 &&& (3 : Int32))), .val (.int (own_hl p2)), .val (.int (own_n0 p0)), .val (.int (own_n1 p0)), .val (.int (own_n2 p0)), .val (.int x0), .val (.int x1), .val (.int x2), .val (.int an), .val (.int pt), .val (.int hp), .val (.ref b1), .val (.int (f10 b5_r hp b2_r (own_str (p2 &&& (3 : Int32)) (own_n0 p0) (own_n1 p0) (own_n2 p0)) (own_str (own_hl p2) x0 x1 x2) pt)), .val (.int (1 : Int32)), .unset, .unset] [])) t
                        refine XS.iconst X6.here hx rfl (hb hby at_274) ?_
                        refine XS.istore X6.here hx rfl (hb hby at_275) rfl (l' := #[.val (.int p0), .val (.int p1), .val (.int p2), .val (.int p3), .val (.int p4), .val (.int (p2 &&& (3 : Int32))), .val (.int (own_hl p2)), .val (.int (own_n0 p0)), .val (.int (own_n1 p0)), .val (.int (own_n2 p0)), .val (.int x0), .val (.int x1), .val (.int x2), .val (.int an), .val (.int pt), .val (.int hp), .val (.ref b1), .val (.int (f10 b5_r hp b2_r (own_str (p2 &&& (3 : Int32)) (own_n0 p0) (own_n1 p0) (own_n2 p0)) (own_str (own_hl p2) x0 x1 x2) pt)), .val (.int (1 : Int32)), .val (.int (0 : Int32)), .unset]) rfl ?_
                        refine XS.iload X6.here hx rfl (hb hby at_277) rfl ?_
                        refine XS.ifNo X6.here hx rfl (hb hby at_279) rfl ((if0 _ _).trans (feq (by decide : ¬ ((1 : Int32) = (0 : Int32)))).1) ?_
                        refine XS.iload X6.here hx rfl (hb hby at_282) rfl ?_
                        refine XS.ifYes X6.here hx rfl (pc0 := 284) (pc' := 291) rfl (hb hby at_284) rfl ((if0 _ _).trans (teq (by decide : (0 : Int32) = (0 : Int32))).1) (by decide) (by decide) ?_
                        refine XS.iconst X6.here hx rfl (hb hby at_291) ?_
                        refine XS.istore X6.here hx rfl (hb hby at_292) rfl (l' := #[.val (.int p0), .val (.int p1), .val (.int p2), .val (.int p3), .val (.int p4), .val (.int (p2 &&& (3 : Int32))), .val (.int (own_hl p2)), .val (.int (own_n0 p0)), .val (.int (own_n1 p0)), .val (.int (own_n2 p0)), .val (.int x0), .val (.int x1), .val (.int x2), .val (.int an), .val (.int pt), .val (.int hp), .val (.ref b1), .val (.int (f10 b5_r hp b2_r (own_str (p2 &&& (3 : Int32)) (own_n0 p0) (own_n1 p0) (own_n2 p0)) (own_str (own_hl p2) x0 x1 x2) pt)), .val (.int (1 : Int32)), .val (.int (0 : Int32)), .val (.int (0 : Int32))]) rfl ?_
                        refine XS.iload X6.here hx rfl (hb hby at_294) rfl ?_
                        refine XS.iload X6.here hx rfl (hb hby at_296) rfl ?_
                        refine XS.icmpNo X6.here hx rfl (hb hby at_298) rfl (teq ((own_fin _ _ (Nat.ne_of_lt (Nat.lt_of_lt_of_le (P2_0.keep K4).lt szo_b5_r)) _ _ _ _ _ _ _ _ _ _ _ (own_nl _) (own_nl _) (own_rn0 _) (own_rn1 _) (own_rn2 _) hx0 hx1 hx2 hap).2 (fun q => q.2.elim (fun z => z hc260) hc267))).2 ?_
                        refine XS.iconst X6.here hx rfl (hb hby at_301) ?_
                        refine XS.goto X6.here hx rfl (pc0 := 302) (pc' := 306) rfl (hb hby at_302) (by decide) (by decide) ?_
                        exact kt
                      refine OGW.retZ X6 hx hlk hS hk hZ hEL CR e6 (t := .boolean) (z' := (1 : Int32)) hret (by simp) (hb hby at_306) rfl ?_ (by decide) (by decide)
                      show Q0 Z p0 p1 p2 p3 p4 w_COMPACT_STRINGS h0 n0 _ T6.heap _
                      rw [e6]
                      exact ⟨rfl, N6, KC5⟩
                  · refine OGW.step (F' := T6.setTop (mkF m 270 #[.val (.int p0), .val (.int p1), .val (.int p2), .val (.int p3), .val (.int p4), .val (.int (p2 &&& (3 : Int32))), .val (.int (own_hl p2)), .val (.int (own_n0 p0)), .val (.int (own_n1 p0)), .val (.int (own_n2 p0)), .val (.int x0), .val (.int x1), .val (.int x2), .val (.int an), .val (.int pt), .val (.int hp), .val (.ref b1), .val (.int (f10 b5_r hp b2_r (own_str (p2 &&& (3 : Int32)) (own_n0 p0) (own_n1 p0) (own_n2 p0)) (own_str (own_hl p2) x0 x1 x2) pt)), .val (.int (1 : Int32)), .unset, .unset] [])) (fun t kt => ?_) ?_
                    · show Steps p.tables e below (T6.setTop (mkF m 260 #[.val (.int p0), .val (.int p1), .val (.int p2), .val (.int p3), .val (.int p4), .val (.int (p2 &&& (3 : Int32))), .val (.int (own_hl p2)), .val (.int (own_n0 p0)), .val (.int (own_n1 p0)), .val (.int (own_n2 p0)), .val (.int x0), .val (.int x1), .val (.int x2), .val (.int an), .val (.int pt), .val (.int hp), .val (.ref b1), .val (.int (f10 b5_r hp b2_r (own_str (p2 &&& (3 : Int32)) (own_n0 p0) (own_n1 p0) (own_n2 p0)) (own_str (own_hl p2) x0 x1 x2) pt)), .val (.int (1 : Int32)), .unset, .unset] [(.int an)])) t
                      refine XS.ifYes X6.here hx rfl (pc0 := 260) (pc' := 270) rfl (hb hby at_260) rfl ((if0 _ _).trans (feq hc260).2) (by decide) (by decide) ?_
                      exact kt
                    refine OGW.step (F' := T6.setTop (mkF m 306 #[.val (.int p0), .val (.int p1), .val (.int p2), .val (.int p3), .val (.int p4), .val (.int (p2 &&& (3 : Int32))), .val (.int (own_hl p2)), .val (.int (own_n0 p0)), .val (.int (own_n1 p0)), .val (.int (own_n2 p0)), .val (.int x0), .val (.int x1), .val (.int x2), .val (.int an), .val (.int pt), .val (.int hp), .val (.ref b1), .val (.int (f10 b5_r hp b2_r (own_str (p2 &&& (3 : Int32)) (own_n0 p0) (own_n1 p0) (own_n2 p0)) (own_str (own_hl p2) x0 x1 x2) pt)), .val (.int (1 : Int32)), .val (.int (1 : Int32)), .val (.int (1 : Int32))] [(.int (1 : Int32))])) (fun t kt => ?_) ?_
                    · show Steps p.tables e below (T6.setTop (mkF m 270 #[.val (.int p0), .val (.int p1), .val (.int p2), .val (.int p3), .val (.int p4), .val (.int (p2 &&& (3 : Int32))), .val (.int (own_hl p2)), .val (.int (own_n0 p0)), .val (.int (own_n1 p0)), .val (.int (own_n2 p0)), .val (.int x0), .val (.int x1), .val (.int x2), .val (.int an), .val (.int pt), .val (.int hp), .val (.ref b1), .val (.int (f10 b5_r hp b2_r (own_str (p2 &&& (3 : Int32)) (own_n0 p0) (own_n1 p0) (own_n2 p0)) (own_str (own_hl p2) x0 x1 x2) pt)), .val (.int (1 : Int32)), .unset, .unset] [])) t
                      refine XS.iconst X6.here hx rfl (hb hby at_270) ?_
                      refine XS.goto X6.here hx rfl (pc0 := 271) (pc' := 275) rfl (hb hby at_271) (by decide) (by decide) ?_
                      refine XS.istore X6.here hx rfl (hb hby at_275) rfl (l' := #[.val (.int p0), .val (.int p1), .val (.int p2), .val (.int p3), .val (.int p4), .val (.int (p2 &&& (3 : Int32))), .val (.int (own_hl p2)), .val (.int (own_n0 p0)), .val (.int (own_n1 p0)), .val (.int (own_n2 p0)), .val (.int x0), .val (.int x1), .val (.int x2), .val (.int an), .val (.int pt), .val (.int hp), .val (.ref b1), .val (.int (f10 b5_r hp b2_r (own_str (p2 &&& (3 : Int32)) (own_n0 p0) (own_n1 p0) (own_n2 p0)) (own_str (own_hl p2) x0 x1 x2) pt)), .val (.int (1 : Int32)), .val (.int (1 : Int32)), .unset]) rfl ?_
                      refine XS.iload X6.here hx rfl (hb hby at_277) rfl ?_
                      refine XS.ifNo X6.here hx rfl (hb hby at_279) rfl ((if0 _ _).trans (feq (by decide : ¬ ((1 : Int32) = (0 : Int32)))).1) ?_
                      refine XS.iload X6.here hx rfl (hb hby at_282) rfl ?_
                      refine XS.ifNo X6.here hx rfl (hb hby at_284) rfl ((if0 _ _).trans (feq (by decide : ¬ ((1 : Int32) = (0 : Int32)))).1) ?_
                      refine XS.iconst X6.here hx rfl (hb hby at_287) ?_
                      refine XS.goto X6.here hx rfl (pc0 := 288) (pc' := 292) rfl (hb hby at_288) (by decide) (by decide) ?_
                      refine XS.istore X6.here hx rfl (hb hby at_292) rfl (l' := #[.val (.int p0), .val (.int p1), .val (.int p2), .val (.int p3), .val (.int p4), .val (.int (p2 &&& (3 : Int32))), .val (.int (own_hl p2)), .val (.int (own_n0 p0)), .val (.int (own_n1 p0)), .val (.int (own_n2 p0)), .val (.int x0), .val (.int x1), .val (.int x2), .val (.int an), .val (.int pt), .val (.int hp), .val (.ref b1), .val (.int (f10 b5_r hp b2_r (own_str (p2 &&& (3 : Int32)) (own_n0 p0) (own_n1 p0) (own_n2 p0)) (own_str (own_hl p2) x0 x1 x2) pt)), .val (.int (1 : Int32)), .val (.int (1 : Int32)), .val (.int (1 : Int32))]) rfl ?_
                      refine XS.iload X6.here hx rfl (hb hby at_294) rfl ?_
                      refine XS.iload X6.here hx rfl (hb hby at_296) rfl ?_
                      refine XS.icmpNo X6.here hx rfl (hb hby at_298) rfl (teq ((own_fin _ _ (Nat.ne_of_lt (Nat.lt_of_lt_of_le (P2_0.keep K4).lt szo_b5_r)) _ _ _ _ _ _ _ _ _ _ _ (own_nl _) (own_nl _) (own_rn0 _) (own_rn1 _) (own_rn2 _) hx0 hx1 hx2 hap).1 ⟨⟨hc209, Or.inr hc222, Or.inr hc235, Or.inr hc248⟩, Or.inl hc260⟩)).2 ?_
                      refine XS.iconst X6.here hx rfl (hb hby at_301) ?_
                      refine XS.goto X6.here hx rfl (pc0 := 302) (pc' := 306) rfl (hb hby at_302) (by decide) (by decide) ?_
                      exact kt
                    refine OGW.retZ X6 hx hlk hS hk hZ hEL CR e6 (t := .boolean) (z' := (1 : Int32)) hret (by simp) (hb hby at_306) rfl ?_ (by decide) (by decide)
                    show Q0 Z p0 p1 p2 p3 p4 w_COMPACT_STRINGS h0 n0 _ T6.heap _
                    rw [e6]
                    exact ⟨rfl, N6, KC5⟩
                · refine OGW.step (F' := T6.setTop (mkF m 255 #[.val (.int p0), .val (.int p1), .val (.int p2), .val (.int p3), .val (.int p4), .val (.int (p2 &&& (3 : Int32))), .val (.int (own_hl p2)), .val (.int (own_n0 p0)), .val (.int (own_n1 p0)), .val (.int (own_n2 p0)), .val (.int x0), .val (.int x1), .val (.int x2), .val (.int an), .val (.int pt), .val (.int hp), .val (.ref b1), .val (.int (f10 b5_r hp b2_r (own_str (p2 &&& (3 : Int32)) (own_n0 p0) (own_n1 p0) (own_n2 p0)) (own_str (own_hl p2) x0 x1 x2) pt)), .unset, .unset, .unset] [])) (fun t kt => ?_) ?_
                  · show Steps p.tables e below (T6.setTop (mkF m 248 #[.val (.int p0), .val (.int p1), .val (.int p2), .val (.int p3), .val (.int p4), .val (.int (p2 &&& (3 : Int32))), .val (.int (own_hl p2)), .val (.int (own_n0 p0)), .val (.int (own_n1 p0)), .val (.int (own_n2 p0)), .val (.int x0), .val (.int x1), .val (.int x2), .val (.int an), .val (.int pt), .val (.int hp), .val (.ref b1), .val (.int (f10 b5_r hp b2_r (own_str (p2 &&& (3 : Int32)) (own_n0 p0) (own_n1 p0) (own_n2 p0)) (own_str (own_hl p2) x0 x1 x2) pt)), .unset, .unset, .unset] [(.int x2), (.int (own_n2 p0))])) t
                    refine XS.icmpYes X6.here hx rfl (pc0 := 248) (pc' := 255) rfl (hb hby at_248) rfl (feq hc248).2 (by decide) (by decide) ?_
                    exact kt
                  refine OGW.step (F' := T6.setTop (mkF m 260 #[.val (.int p0), .val (.int p1), .val (.int p2), .val (.int p3), .val (.int p4), .val (.int (p2 &&& (3 : Int32))), .val (.int (own_hl p2)), .val (.int (own_n0 p0)), .val (.int (own_n1 p0)), .val (.int (own_n2 p0)), .val (.int x0), .val (.int x1), .val (.int x2), .val (.int an), .val (.int pt), .val (.int hp), .val (.ref b1), .val (.int (f10 b5_r hp b2_r (own_str (p2 &&& (3 : Int32)) (own_n0 p0) (own_n1 p0) (own_n2 p0)) (own_str (own_hl p2) x0 x1 x2) pt)), .val (.int (0 : Int32)), .unset, .unset] [(.int an)])) (fun t kt => ?_) ?_
                  · show Steps p.tables e below (T6.setTop (mkF m 255 #[.val (.int p0), .val (.int p1), .val (.int p2), .val (.int p3), .val (.int p4), .val (.int (p2 &&& (3 : Int32))), .val (.int (own_hl p2)), .val (.int (own_n0 p0)), .val (.int (own_n1 p0)), .val (.int (own_n2 p0)), .val (.int x0), .val (.int x1), .val (.int x2), .val (.int an), .val (.int pt), .val (.int hp), .val (.ref b1), .val (.int (f10 b5_r hp b2_r (own_str (p2 &&& (3 : Int32)) (own_n0 p0) (own_n1 p0) (own_n2 p0)) (own_str (own_hl p2) x0 x1 x2) pt)), .unset, .unset, .unset] [])) t
                    refine XS.iconst X6.here hx rfl (hb hby at_255) ?_
                    refine XS.istore X6.here hx rfl (hb hby at_256) rfl (l' := #[.val (.int p0), .val (.int p1), .val (.int p2), .val (.int p3), .val (.int p4), .val (.int (p2 &&& (3 : Int32))), .val (.int (own_hl p2)), .val (.int (own_n0 p0)), .val (.int (own_n1 p0)), .val (.int (own_n2 p0)), .val (.int x0), .val (.int x1), .val (.int x2), .val (.int an), .val (.int pt), .val (.int hp), .val (.ref b1), .val (.int (f10 b5_r hp b2_r (own_str (p2 &&& (3 : Int32)) (own_n0 p0) (own_n1 p0) (own_n2 p0)) (own_str (own_hl p2) x0 x1 x2) pt)), .val (.int (0 : Int32)), .unset, .unset]) rfl ?_
                    refine XS.iload X6.here hx rfl (hb hby at_258) rfl ?_
                    exact kt
                  by_cases hc260 : an = (0 : Int32)
                  · refine OGW.step (F' := T6.setTop (mkF m 263 #[.val (.int p0), .val (.int p1), .val (.int p2), .val (.int p3), .val (.int p4), .val (.int (p2 &&& (3 : Int32))), .val (.int (own_hl p2)), .val (.int (own_n0 p0)), .val (.int (own_n1 p0)), .val (.int (own_n2 p0)), .val (.int x0), .val (.int x1), .val (.int x2), .val (.int an), .val (.int pt), .val (.int hp), .val (.ref b1), .val (.int (f10 b5_r hp b2_r (own_str (p2 &&& (3 : Int32)) (own_n0 p0) (own_n1 p0) (own_n2 p0)) (own_str (own_hl p2) x0 x1 x2) pt)), .val (.int (0 : Int32)), .unset, .unset] [])) (fun t kt => ?_) ?_
                    · show Steps p.tables e below (T6.setTop (mkF m 260 #[.val (.int p0), .val (.int p1), .val (.int p2), .val (.int p3), .val (.int p4), .val (.int (p2 &&& (3 : Int32))), .val (.int (own_hl p2)), .val (.int (own_n0 p0)), .val (.int (own_n1 p0)), .val (.int (own_n2 p0)), .val (.int x0), .val (.int x1), .val (.int x2), .val (.int an), .val (.int pt), .val (.int hp), .val (.ref b1), .val (.int (f10 b5_r hp b2_r (own_str (p2 &&& (3 : Int32)) (own_n0 p0) (own_n1 p0) (own_n2 p0)) (own_str (own_hl p2) x0 x1 x2) pt)), .val (.int (0 : Int32)), .unset, .unset] [(.int an)])) t
                      refine XS.ifNo X6.here hx rfl (hb hby at_260) rfl ((if0 _ _).trans (teq hc260).2) ?_
                      exact kt
                    refine OGW.step (F' := T6.setTop (mkF m 267 #[.val (.int p0), .val (.int p1), .val (.int p2), .val (.int p3), .val (.int p4), .val (.int (p2 &&& (3 : Int32))), .val (.int (own_hl p2)), .val (.int (own_n0 p0)), .val (.int (own_n1 p0)), .val (.int (own_n2 p0)), .val (.int x0), .val (.int x1), .val (.int x2), .val (.int an), .val (.int pt), .val (.int hp), .val (.ref b1), .val (.int (f10 b5_r hp b2_r (own_str (p2 &&& (3 : Int32)) (own_n0 p0) (own_n1 p0) (own_n2 p0)) (own_str (own_hl p2) x0 x1 x2) pt)), .val (.int (0 : Int32)), .unset, .unset] [(.int hp), (.int pt)])) (fun t kt => ?_) ?_
                    · show Steps p.tables e below (T6.setTop (mkF m 263 #[.val (.int p0), .val (.int p1), .val (.int p2), .val (.int p3), .val (.int p4), .val (.int (p2 &&& (3 : Int32))), .val (.int (own_hl p2)), .val (.int (own_n0 p0)), .val (.int (own_n1 p0)), .val (.int (own_n2 p0)), .val (.int x0), .val (.int x1), .val (.int x2), .val (.int an), .val (.int pt), .val (.int hp), .val (.ref b1), .val (.int (f10 b5_r hp b2_r (own_str (p2 &&& (3 : Int32)) (own_n0 p0) (own_n1 p0) (own_n2 p0)) (own_str (own_hl p2) x0 x1 x2) pt)), .val (.int (0 : Int32)), .unset, .unset] [])) t
                      refine XS.iload X6.here hx rfl (hb hby at_263) rfl ?_
                      refine XS.iload X6.here hx rfl (hb hby at_265) rfl ?_
                      exact kt
                    by_cases hc267 : pt = hp
                    · refine OGW.step (F' := T6.setTop (mkF m 270 #[.val (.int p0), .val (.int p1), .val (.int p2), .val (.int p3), .val (.int p4), .val (.int (p2 &&& (3 : Int32))), .val (.int (own_hl p2)), .val (.int (own_n0 p0)), .val (.int (own_n1 p0)), .val (.int (own_n2 p0)), .val (.int x0), .val (.int x1), .val (.int x2), .val (.int an), .val (.int pt), .val (.int hp), .val (.ref b1), .val (.int (f10 b5_r hp b2_r (own_str (p2 &&& (3 : Int32)) (own_n0 p0) (own_n1 p0) (own_n2 p0)) (own_str (own_hl p2) x0 x1 x2) pt)), .val (.int (0 : Int32)), .unset, .unset] [])) (fun t kt => ?_) ?_
                      · show Steps p.tables e below (T6.setTop (mkF m 267 #[.val (.int p0), .val (.int p1), .val (.int p2), .val (.int p3), .val (.int p4), .val (.int (p2 &&& (3 : Int32))), .val (.int (own_hl p2)), .val (.int (own_n0 p0)), .val (.int (own_n1 p0)), .val (.int (own_n2 p0)), .val (.int x0), .val (.int x1), .val (.int x2), .val (.int an), .val (.int pt), .val (.int hp), .val (.ref b1), .val (.int (f10 b5_r hp b2_r (own_str (p2 &&& (3 : Int32)) (own_n0 p0) (own_n1 p0) (own_n2 p0)) (own_str (own_hl p2) x0 x1 x2) pt)), .val (.int (0 : Int32)), .unset, .unset] [(.int hp), (.int pt)])) t
                        refine XS.icmpNo X6.here hx rfl (hb hby at_267) rfl (teq hc267).2 ?_
                        exact kt
                      refine OGW.step (F' := T6.setTop (mkF m 306 #[.val (.int p0), .val (.int p1), .val (.int p2), .val (.int p3), .val (.int p4), .val (.int (p2 &&& (3 : Int32))), .val (.int (own_hl p2)), .val (.int (own_n0 p0)), .val (.int (own_n1 p0)), .val (.int (own_n2 p0)), .val (.int x0), .val (.int x1), .val (.int x2), .val (.int an), .val (.int pt), .val (.int hp), .val (.ref b1), .val (.int (f10 b5_r hp b2_r (own_str (p2 &&& (3 : Int32)) (own_n0 p0) (own_n1 p0) (own_n2 p0)) (own_str (own_hl p2) x0 x1 x2) pt)), .val (.int (0 : Int32)), .val (.int (1 : Int32)), .val (.int (0 : Int32))] [(.int (1 : Int32))])) (fun t kt => ?_) ?_
                      · show Steps p.tables e below (T6.setTop (mkF m 270 #[.val (.int p0), .val (.int p1), .val (.int p2), .val (.int p3), .val (.int p4), .val (.int (p2 &&& (3 : Int32))), .val (.int (own_hl p2)), .val (.int (own_n0 p0)), .val (.int (own_n1 p0)), .val (.int (own_n2 p0)), .val (.int x0), .val (.int x1), .val (.int x2), .val (.int an), .val (.int pt), .val (.int hp), .val (.ref b1), .val (.int (f10 b5_r hp b2_r (own_str (p2 &&& (3 : Int32)) (own_n0 p0) (own_n1 p0) (own_n2 p0)) (own_str (own_hl p2) x0 x1 x2) pt)), .val (.int (0 : Int32)), .unset, .unset] [])) t
                        refine XS.iconst X6.here hx rfl (hb hby at_270) ?_
                        refine XS.goto X6.here hx rfl (pc0 := 271) (pc' := 275) rfl (hb hby at_271) (by decide) (by decide) ?_
                        refine XS.istore X6.here hx rfl (hb hby at_275) rfl (l' := #[.val (.int p0), .val (.int p1), .val (.int p2), .val (.int p3), .val (.int p4), .val (.int (p2 &&& (3 : Int32))), .val (.int (own_hl p2)), .val (.int (own_n0 p0)), .val (.int (own_n1 p0)), .val (.int (own_n2 p0)), .val (.int x0), .val (.int x1), .val (.int x2), .val (.int an), .val (.int pt), .val (.int hp), .val (.ref b1), .val (.int (f10 b5_r hp b2_r (own_str (p2 &&& (3 : Int32)) (own_n0 p0) (own_n1 p0) (own_n2 p0)) (own_str (own_hl p2) x0 x1 x2) pt)), .val (.int (0 : Int32)), .val (.int (1 : Int32)), .unset]) rfl ?_
                        refine XS.iload X6.here hx rfl (hb hby at_277) rfl ?_
                        refine XS.ifYes X6.here hx rfl (pc0 := 279) (pc' := 291) rfl (hb hby at_279) rfl ((if0 _ _).trans (teq (by decide : (0 : Int32) = (0 : Int32))).1) (by decide) (by decide) ?_
                        refine XS.iconst X6.here hx rfl (hb hby at_291) ?_
                        refine XS.istore X6.here hx rfl (hb hby at_292) rfl (l' := #[.val (.int p0), .val (.int p1), .val (.int p2), .val (.int p3), .val (.int p4), .val (.int (p2 &&& (3 : Int32))), .val (.int (own_hl p2)), .val (.int (own_n0 p0)), .val (.int (own_n1 p0)), .val (.int (own_n2 p0)), .val (.int x0), .val (.int x1), .val (.int x2), .val (.int an), .val (.int pt), .val (.int hp), .val (.ref b1), .val (.int (f10 b5_r hp b2_r (own_str (p2 &&& (3 : Int32)) (own_n0 p0) (own_n1 p0) (own_n2 p0)) (own_str (own_hl p2) x0 x1 x2) pt)), .val (.int (0 : Int32)), .val (.int (1 : Int32)), .val (.int (0 : Int32))]) rfl ?_
                        refine XS.iload X6.here hx rfl (hb hby at_294) rfl ?_
                        refine XS.iload X6.here hx rfl (hb hby at_296) rfl ?_
                        refine XS.icmpNo X6.here hx rfl (hb hby at_298) rfl (teq ((own_fin _ _ (Nat.ne_of_lt (Nat.lt_of_lt_of_le (P2_0.keep K4).lt szo_b5_r)) _ _ _ _ _ _ _ _ _ _ _ (own_nl _) (own_nl _) (own_rn0 _) (own_rn1 _) (own_rn2 _) hx0 hx1 hx2 hap).2 (fun q => q.1.2.2.2.elim hc241 hc248))).2 ?_
                        refine XS.iconst X6.here hx rfl (hb hby at_301) ?_
                        refine XS.goto X6.here hx rfl (pc0 := 302) (pc' := 306) rfl (hb hby at_302) (by decide) (by decide) ?_
                        exact kt
                      refine OGW.retZ X6 hx hlk hS hk hZ hEL CR e6 (t := .boolean) (z' := (1 : Int32)) hret (by simp) (hb hby at_306) rfl ?_ (by decide) (by decide)
                      show Q0 Z p0 p1 p2 p3 p4 w_COMPACT_STRINGS h0 n0 _ T6.heap _
                      rw [e6]
                      exact ⟨rfl, N6, KC5⟩
                    · refine OGW.step (F' := T6.setTop (mkF m 274 #[.val (.int p0), .val (.int p1), .val (.int p2), .val (.int p3), .val (.int p4), .val (.int (p2 &&& (3 : Int32))), .val (.int (own_hl p2)), .val (.int (own_n0 p0)), .val (.int (own_n1 p0)), .val (.int (own_n2 p0)), .val (.int x0), .val (.int x1), .val (.int x2), .val (.int an), .val (.int pt), .val (.int hp), .val (.ref b1), .val (.int (f10 b5_r hp b2_r (own_str (p2 &&& (3 : Int32)) (own_n0 p0) (own_n1 p0) (own_n2 p0)) (own_str (own_hl p2) x0 x1 x2) pt)), .val (.int (0 : Int32)), .unset, .unset] [])) (fun t kt => ?_) ?_
                      · show Steps p.tables e below (T6.setTop (mkF m 267 #[.val (.int p0), .val (.int p1), .val (.int p2), .val (.int p3), .val (.int p4), .val (.int (p2 &&& (3 : Int32))), .val (.int (own_hl p2)), .val (.int (own_n0 p0)), .val (.int (own_n1 p0)), .val (.int (own_n2 p0)), .val (.int x0), .val (.int x1), .val (.int x2), .val (.int an), .val (.int pt), .val (.int hp), .val (.ref b1), .val (.int (f10 b5_r hp b2_r (own_str (p2 &&& (3 : Int32)) (own_n0 p0) (own_n1 p0) (own_n2 p0)) (own_str (own_hl p2) x0 x1 x2) pt)), .val (.int (0 : Int32)), .unset, .unset] [(.int hp), (.int pt)])) t
                        refine XS.icmpYes X6.here hx rfl (pc0 := 267) (pc' := 274) rfl (hb hby at_267) rfl (feq hc267).2 (by decide) (by decide) ?_
                        exact kt
                      refine OGW.step (F' := T6.setTop (mkF m 306 #[.val (.int p0), .val (.int p1), .val (.int p2), .val (.int p3), .val (.int p4), .val (.int (p2 &&& (3 : Int32))), .val (.int (own_hl p2)), .val (.int (own_n0 p0)), .val (.int (own_n1 p0)), .val (.int (own_n2 p0)), .val (.int x0), .val (.int x1), .val (.int x2), .val (.int an), .val (.int pt), .val (.int hp), .val (.ref b1), .val (.int (f10 b5_r hp b2_r (own_str (p2 &&& (3 : Int32)) (own_n0 p0) (own_n1 p0) (own_n2 p0)) (own_str (own_hl p2) x0 x1 x2) pt)), .val (.int (0 : Int32)), .val (.int (0 : Int32)), .val (.int (0 : Int32))] [(.int (1 : Int32))])) (fun t kt => ?_) ?_
                      · show Steps p.tables e below (T6.setTop (mkF m 274 #[.val (.int p0), .val (.int p1), .val (.int p2), .val (.int p3), .val (.int p4), .val (.int (p2 &&& (3 : Int32))), .val (.int (own_hl p2)), .val (.int (own_n0 p0)), .val (.int (own_n1 p0)), .val (.int (own_n2 p0)), .val (.int x0), .val (.int x1), .val (.int x2), .val (.int an), .val (.int pt), .val (.int hp), .val (.ref b1), .val (.int (f10 b5_r hp b2_r (own_str (p2 &&& (3 : Int32)) (own_n0 p0) (own_n1 p0) (own_n2 p0)) (own_str (own_hl p2) x0 x1 x2) pt)), .val (.int (0 : Int32)), .unset, .unset] [])) t
                        refine XS.iconst X6.here hx rfl (hb hby at_274) ?_
                        refine XS.istore X6.here hx rfl (hb hby at_275) rfl (l' := #[.val (.int p0), .val (.int p1), .val (.int p2), .val (.int p3), .val (.int p4), .val (.int (p2 &&& (3 : Int32))), .val (.int (own_hl p2)), .val (.int (own_n0 p0)), .val (.int (own_n1 p0)), .val (.int (own_n2 p0)), .val (.int x0), .val (.int x1), .val (.int x2), .val (.int an), .val (.int pt), .val (.int hp), .val (.ref b1), .val (.int (f10 b5_r hp b2_r (own_str (p2 &&& (3 : Int32)) (own_n0 p0) (own_n1 p0) (own_n2 p0)) (own_str (own_hl p2) x0 x1 x2) pt)), .val (.int (0 : Int32)), .val (.int (0 : Int32)), .unset]) rfl ?_
                        refine XS.iload X6.here hx rfl (hb hby at_277) rfl ?_
                        refine XS.ifYes X6.here hx rfl (pc0 := 279) (pc' := 291) rfl (hb hby at_279) rfl ((if0 _ _).trans (teq (by decide : (0 : Int32) = (0 : Int32))).1) (by decide) (by decide) ?_
                        refine XS.iconst X6.here hx rfl (hb hby at_291) ?_
                        refine XS.istore X6.here hx rfl (hb hby at_292) rfl (l' := #[.val (.int p0), .val (.int p1), .val (.int p2), .val (.int p3), .val (.int p4), .val (.int (p2 &&& (3 : Int32))), .val (.int (own_hl p2)), .val (.int (own_n0 p0)), .val (.int (own_n1 p0)), .val (.int (own_n2 p0)), .val (.int x0), .val (.int x1), .val (.int x2), .val (.int an), .val (.int pt), .val (.int hp), .val (.ref b1), .val (.int (f10 b5_r hp b2_r (own_str (p2 &&& (3 : Int32)) (own_n0 p0) (own_n1 p0) (own_n2 p0)) (own_str (own_hl p2) x0 x1 x2) pt)), .val (.int (0 : Int32)), .val (.int (0 : Int32)), .val (.int (0 : Int32))]) rfl ?_
                        refine XS.iload X6.here hx rfl (hb hby at_294) rfl ?_
                        refine XS.iload X6.here hx rfl (hb hby at_296) rfl ?_
                        refine XS.icmpNo X6.here hx rfl (hb hby at_298) rfl (teq ((own_fin _ _ (Nat.ne_of_lt (Nat.lt_of_lt_of_le (P2_0.keep K4).lt szo_b5_r)) _ _ _ _ _ _ _ _ _ _ _ (own_nl _) (own_nl _) (own_rn0 _) (own_rn1 _) (own_rn2 _) hx0 hx1 hx2 hap).2 (fun q => q.1.2.2.2.elim hc241 hc248))).2 ?_
                        refine XS.iconst X6.here hx rfl (hb hby at_301) ?_
                        refine XS.goto X6.here hx rfl (pc0 := 302) (pc' := 306) rfl (hb hby at_302) (by decide) (by decide) ?_
                        exact kt
                      refine OGW.retZ X6 hx hlk hS hk hZ hEL CR e6 (t := .boolean) (z' := (1 : Int32)) hret (by simp) (hb hby at_306) rfl ?_ (by decide) (by decide)
                      show Q0 Z p0 p1 p2 p3 p4 w_COMPACT_STRINGS h0 n0 _ T6.heap _
                      rw [e6]
                      exact ⟨rfl, N6, KC5⟩
                  · refine OGW.step (F' := T6.setTop (mkF m 270 #[.val (.int p0), .val (.int p1), .val (.int p2), .val (.int p3), .val (.int p4), .val (.int (p2 &&& (3 : Int32))), .val (.int (own_hl p2)), .val (.int (own_n0 p0)), .val (.int (own_n1 p0)), .val (.int (own_n2 p0)), .val (.int x0), .val (.int x1), .val (.int x2), .val (.int an), .val (.int pt), .val (.int hp), .val (.ref b1), .val (.int (f10 b5_r hp b2_r (own_str (p2 &&& (3 : Int32)) (own_n0 p0) (own_n1 p0) (own_n2 p0)) (own_str (own_hl p2) x0 x1 x2) pt)), .val (.int (0 : Int32)), .unset, .unset] [])) (fun t kt => ?_) ?_
                    · show Steps p.tables e below (T6.setTop (mkF m 260 #[.val (.int p0), .val (.int p1), .val (.int p2), .val (.int p3), .val (.int p4), .val (.int (p2 &&& (3 : Int32))), .val (.int (own_hl p2)), .val (.int (own_n0 p0)), .val (.int (own_n1 p0)), .val (.int (own_n2 p0)), .val (.int x0), .val (.int x1), .val (.int x2), .val (.int an), .val (.int pt), .val (.int hp), .val (.ref b1), .val (.int (f10 b5_r hp b2_r (own_str (p2 &&& (3 : Int32)) (own_n0 p0) (own_n1 p0) (own_n2 p0)) (own_str (own_hl p2) x0 x1 x2) pt)), .val (.int (0 : Int32)), .unset, .unset] [(.int an)])) t
                      refine XS.ifYes X6.here hx rfl (pc0 := 260) (pc' := 270) rfl (hb hby at_260) rfl ((if0 _ _).trans (feq hc260).2) (by decide) (by decide) ?_
                      exact kt
                    refine OGW.step (F' := T6.setTop (mkF m 306 #[.val (.int p0), .val (.int p1), .val (.int p2), .val (.int p3), .val (.int p4), .val (.int (p2 &&& (3 : Int32))), .val (.int (own_hl p2)), .val (.int (own_n0 p0)), .val (.int (own_n1 p0)), .val (.int (own_n2 p0)), .val (.int x0), .val (.int x1), .val (.int x2), .val (.int an), .val (.int pt), .val (.int hp), .val (.ref b1), .val (.int (f10 b5_r hp b2_r (own_str (p2 &&& (3 : Int32)) (own_n0 p0) (own_n1 p0) (own_n2 p0)) (own_str (own_hl p2) x0 x1 x2) pt)), .val (.int (0 : Int32)), .val (.int (1 : Int32)), .val (.int (0 : Int32))] [(.int (1 : Int32))])) (fun t kt => ?_) ?_
                    · show Steps p.tables e below (T6.setTop (mkF m 270 #[.val (.int p0), .val (.int p1), .val (.int p2), .val (.int p3), .val (.int p4), .val (.int (p2 &&& (3 : Int32))), .val (.int (own_hl p2)), .val (.int (own_n0 p0)), .val (.int (own_n1 p0)), .val (.int (own_n2 p0)), .val (.int x0), .val (.int x1), .val (.int x2), .val (.int an), .val (.int pt), .val (.int hp), .val (.ref b1), .val (.int (f10 b5_r hp b2_r (own_str (p2 &&& (3 : Int32)) (own_n0 p0) (own_n1 p0) (own_n2 p0)) (own_str (own_hl p2) x0 x1 x2) pt)), .val (.int (0 : Int32)), .unset, .unset] [])) t
                      refine XS.iconst X6.here hx rfl (hb hby at_270) ?_
                      refine XS.goto X6.here hx rfl (pc0 := 271) (pc' := 275) rfl (hb hby at_271) (by decide) (by decide) ?_
                      refine XS.istore X6.here hx rfl (hb hby at_275) rfl (l' := #[.val (.int p0), .val (.int p1), .val (.int p2), .val (.int p3), .val (.int p4), .val (.int (p2 &&& (3 : Int32))), .val (.int (own_hl p2)), .val (.int (own_n0 p0)), .val (.int (own_n1 p0)), .val (.int (own_n2 p0)), .val (.int x0), .val (.int x1), .val (.int x2), .val (.int an), .val (.int pt), .val (.int hp), .val (.ref b1), .val (.int (f10 b5_r hp b2_r (own_str (p2 &&& (3 : Int32)) (own_n0 p0) (own_n1 p0) (own_n2 p0)) (own_str (own_hl p2) x0 x1 x2) pt)), .val (.int (0 : Int32)), .val (.int (1 : Int32)), .unset]) rfl ?_
                      refine XS.iload X6.here hx rfl (hb hby at_277) rfl ?_
                      refine XS.ifYes X6.here hx rfl (pc0 := 279) (pc' := 291) rfl (hb hby at_279) rfl ((if0 _ _).trans (teq (by decide : (0 : Int32) = (0 : Int32))).1) (by decide) (by decide) ?_
                      refine XS.iconst X6.here hx rfl (hb hby at_291) ?_
                      refine XS.istore X6.here hx rfl (hb hby at_292) rfl (l' := #[.val (.int p0), .val (.int p1), .val (.int p2), .val (.int p3), .val (.int p4), .val (.int (p2 &&& (3 : Int32))), .val (.int (own_hl p2)), .val (.int (own_n0 p0)), .val (.int (own_n1 p0)), .val (.int (own_n2 p0)), .val (.int x0), .val (.int x1), .val (.int x2), .val (.int an), .val (.int pt), .val (.int hp), .val (.ref b1), .val (.int (f10 b5_r hp b2_r (own_str (p2 &&& (3 : Int32)) (own_n0 p0) (own_n1 p0) (own_n2 p0)) (own_str (own_hl p2) x0 x1 x2) pt)), .val (.int (0 : Int32)), .val (.int (1 : Int32)), .val (.int (0 : Int32))]) rfl ?_
                      refine XS.iload X6.here hx rfl (hb hby at_294) rfl ?_
                      refine XS.iload X6.here hx rfl (hb hby at_296) rfl ?_
                      refine XS.icmpNo X6.here hx rfl (hb hby at_298) rfl (teq ((own_fin _ _ (Nat.ne_of_lt (Nat.lt_of_lt_of_le (P2_0.keep K4).lt szo_b5_r)) _ _ _ _ _ _ _ _ _ _ _ (own_nl _) (own_nl _) (own_rn0 _) (own_rn1 _) (own_rn2 _) hx0 hx1 hx2 hap).2 (fun q => q.1.2.2.2.elim hc241 hc248))).2 ?_
                      refine XS.iconst X6.here hx rfl (hb hby at_301) ?_
                      refine XS.goto X6.here hx rfl (pc0 := 302) (pc' := 306) rfl (hb hby at_302) (by decide) (by decide) ?_
                      exact kt
                    refine OGW.retZ X6 hx hlk hS hk hZ hEL CR e6 (t := .boolean) (z' := (1 : Int32)) hret (by simp) (hb hby at_306) rfl ?_ (by decide) (by decide)
                    show Q0 Z p0 p1 p2 p3 p4 w_COMPACT_STRINGS h0 n0 _ T6.heap _
                    rw [e6]
                    exact ⟨rfl, N6, KC5⟩
            · refine OGW.step (F' := T6.setTop (mkF m 255 #[.val (.int p0), .val (.int p1), .val (.int p2), .val (.int p3), .val (.int p4), .val (.int (p2 &&& (3 : Int32))), .val (.int (own_hl p2)), .val (.int (own_n0 p0)), .val (.int (own_n1 p0)), .val (.int (own_n2 p0)), .val (.int x0), .val (.int x1), .val (.int x2), .val (.int an), .val (.int pt), .val (.int hp), .val (.ref b1), .val (.int (f10 b5_r hp b2_r (own_str (p2 &&& (3 : Int32)) (own_n0 p0) (own_n1 p0) (own_n2 p0)) (own_str (own_hl p2) x0 x1 x2) pt)), .unset, .unset, .unset] [])) (fun t kt => ?_) ?_
              · show Steps p.tables e below (T6.setTop (mkF m 235 #[.val (.int p0), .val (.int p1), .val (.int p2), .val (.int p3), .val (.int p4), .val (.int (p2 &&& (3 : Int32))), .val (.int (own_hl p2)), .val (.int (own_n0 p0)), .val (.int (own_n1 p0)), .val (.int (own_n2 p0)), .val (.int x0), .val (.int x1), .val (.int x2), .val (.int an), .val (.int pt), .val (.int hp), .val (.ref b1), .val (.int (f10 b5_r hp b2_r (own_str (p2 &&& (3 : Int32)) (own_n0 p0) (own_n1 p0) (own_n2 p0)) (own_str (own_hl p2) x0 x1 x2) pt)), .unset, .unset, .unset] [(.int x1), (.int (own_n1 p0))])) t
                refine XS.icmpYes X6.here hx rfl (pc0 := 235) (pc' := 255) rfl (hb hby at_235) rfl (feq hc235).2 (by decide) (by decide) ?_
                exact kt
              refine OGW.step (F' := T6.setTop (mkF m 260 #[.val (.int p0), .val (.int p1), .val (.int p2), .val (.int p3), .val (.int p4), .val (.int (p2 &&& (3 : Int32))), .val (.int (own_hl p2)), .val (.int (own_n0 p0)), .val (.int (own_n1 p0)), .val (.int (own_n2 p0)), .val (.int x0), .val (.int x1), .val (.int x2), .val (.int an), .val (.int pt), .val (.int hp), .val (.ref b1), .val (.int (f10 b5_r hp b2_r (own_str (p2 &&& (3 : Int32)) (own_n0 p0) (own_n1 p0) (own_n2 p0)) (own_str (own_hl p2) x0 x1 x2) pt)), .val (.int (0 : Int32)), .unset, .unset] [(.int an)])) (fun t kt => ?_) ?_
              · show Steps p.tables e below (T6.setTop (mkF m 255 #[.val (.int p0), .val (.int p1), .val (.int p2), .val (.int p3), .val (.int p4), .val (.int (p2 &&& (3 : Int32))), .val (.int (own_hl p2)), .val (.int (own_n0 p0)), .val (.int (own_n1 p0)), .val (.int (own_n2 p0)), .val (.int x0), .val (.int x1), .val (.int x2), .val (.int an), .val (.int pt), .val (.int hp), .val (.ref b1), .val (.int (f10 b5_r hp b2_r (own_str (p2 &&& (3 : Int32)) (own_n0 p0) (own_n1 p0) (own_n2 p0)) (own_str (own_hl p2) x0 x1 x2) pt)), .unset, .unset, .unset] [])) t
                refine XS.iconst X6.here hx rfl (hb hby at_255) ?_
                refine XS.istore X6.here hx rfl (hb hby at_256) rfl (l' := #[.val (.int p0), .val (.int p1), .val (.int p2), .val (.int p3), .val (.int p4), .val (.int (p2 &&& (3 : Int32))), .val (.int (own_hl p2)), .val (.int (own_n0 p0)), .val (.int (own_n1 p0)), .val (.int (own_n2 p0)), .val (.int x0), .val (.int x1), .val (.int x2), .val (.int an), .val (.int pt), .val (.int hp), .val (.ref b1), .val (.int (f10 b5_r hp b2_r (own_str (p2 &&& (3 : Int32)) (own_n0 p0) (own_n1 p0) (own_n2 p0)) (own_str (own_hl p2) x0 x1 x2) pt)), .val (.int (0 : Int32)), .unset, .unset]) rfl ?_
                refine XS.iload X6.here hx rfl (hb hby at_258) rfl ?_
                exact kt
              by_cases hc260 : an = (0 : Int32)
              · refine OGW.step (F' := T6.setTop (mkF m 263 #[.val (.int p0), .val (.int p1), .val (.int p2), .val (.int p3), .val (.int p4), .val (.int (p2 &&& (3 : Int32))), .val (.int (own_hl p2)), .val (.int (own_n0 p0)), .val (.int (own_n1 p0)), .val (.int (own_n2 p0)), .val (.int x0), .val (.int x1), .val (.int x2), .val (.int an), .val (.int pt), .val (.int hp), .val (.ref b1), .val (.int (f10 b5_r hp b2_r (own_str (p2 &&& (3 : Int32)) (own_n0 p0) (own_n1 p0) (own_n2 p0)) (own_str (own_hl p2) x0 x1 x2) pt)), .val (.int (0 : Int32)), .unset, .unset] [])) (fun t kt => ?_) ?_
                · show Steps p.tables e below (T6.setTop (mkF m 260 #[.val (.int p0), .val (.int p1), .val (.int p2), .val (.int p3), .val (.int p4), .val (.int (p2 &&& (3 : Int32))), .val (.int (own_hl p2)), .val (.int (own_n0 p0)), .val (.int (own_n1 p0)), .val (.int (own_n2 p0)), .val (.int x0), .val (.int x1), .val (.int x2), .val (.int an), .val (.int pt), .val (.int hp), .val (.ref b1), .val (.int (f10 b5_r hp b2_r (own_str (p2 &&& (3 : Int32)) (own_n0 p0) (own_n1 p0) (own_n2 p0)) (own_str (own_hl p2) x0 x1 x2) pt)), .val (.int (0 : Int32)), .unset, .unset] [(.int an)])) t
                  refine XS.ifNo X6.here hx rfl (hb hby at_260) rfl ((if0 _ _).trans (teq hc260).2) ?_
                  exact kt
                refine OGW.step (F' := T6.setTop (mkF m 267 #[.val (.int p0), .val (.int p1), .val (.int p2), .val (.int p3), .val (.int p4), .val (.int (p2 &&& (3 : Int32))), .val (.int (own_hl p2)), .val (.int (own_n0 p0)), .val (.int (own_n1 p0)), .val (.int (own_n2 p0)), .val (.int x0), .val (.int x1), .val (.int x2), .val (.int an), .val (.int pt), .val (.int hp), .val (.ref b1), .val (.int (f10 b5_r hp b2_r (own_str (p2 &&& (3 : Int32)) (own_n0 p0) (own_n1 p0) (own_n2 p0)) (own_str (own_hl p2) x0 x1 x2) pt)), .val (.int (0 : Int32)), .unset, .unset] [(.int hp), (.int pt)])) (fun t kt => ?_) ?_
                · show Steps p.tables e below (T6.setTop (mkF m 263 #[.val (.int p0), .val (.int p1), .val (.int p2), .val (.int p3), .val (.int p4), .val (.int (p2 &&& (3 : Int32))), .val (.int (own_hl p2)), .val (.int (own_n0 p0)), .val (.int (own_n1 p0)), .val (.int (own_n2 p0)), .val (.int x0), .val (.int x1), .val (.int x2), .val (.int an), .val (.int pt), .val (.int hp), .val (.ref b1), .val (.int (f10 b5_r hp b2_r (own_str (p2 &&& (3 : Int32)) (own_n0 p0) (own_n1 p0) (own_n2 p0)) (own_str (own_hl p2) x0 x1 x2) pt)), .val (.int (0 : Int32)), .unset, .unset] [])) t
                  refine XS.iload X6.here hx rfl (hb hby at_263) rfl ?_
                  refine XS.iload X6.here hx rfl (hb hby at_265) rfl ?_
                  exact kt
                by_cases hc267 : pt = hp
                · refine OGW.step (F' := T6.setTop (mkF m 270 #[.val (.int p0), .val (.int p1), .val (.int p2), .val (.int p3), .val (.int p4), .val (.int (p2 &&& (3 : Int32))), .val (.int (own_hl p2)), .val (.int (own_n0 p0)), .val (.int (own_n1 p0)), .val (.int (own_n2 p0)), .val (.int x0), .val (.int x1), .val (.int x2), .val (.int an), .val (.int pt), .val (.int hp), .val (.ref b1), .val (.int (f10 b5_r hp b2_r (own_str (p2 &&& (3 : Int32)) (own_n0 p0) (own_n1 p0) (own_n2 p0)) (own_str (own_hl p2) x0 x1 x2) pt)), .val (.int (0 : Int32)), .unset, .unset] [])) (fun t kt => ?_) ?_
                  · show Steps p.tables e below (T6.setTop (mkF m 267 #[.val (.int p0), .val (.int p1), .val (.int p2), .val (.int p3), .val (.int p4), .val (.int (p2 &&& (3 : Int32))), .val (.int (own_hl p2)), .val (.int (own_n0 p0)), .val (.int (own_n1 p0)), .val (.int (own_n2 p0)), .val (.int x0), .val (.int x1), .val (.int x2), .val (.int an), .val (.int pt), .val (.int hp), .val (.ref b1), .val (.int (f10 b5_r hp b2_r (own_str (p2 &&& (3 : Int32)) (own_n0 p0) (own_n1 p0) (own_n2 p0)) (own_str (own_hl p2) x0 x1 x2) pt)), .val (.int (0 : Int32)), .unset, .unset] [(.int hp), (.int pt)])) t
                    refine XS.icmpNo X6.here hx rfl (hb hby at_267) rfl (teq hc267).2 ?_
                    exact kt
                  refine OGW.step (F' := T6.setTop (mkF m 306 #[.val (.int p0), .val (.int p1), .val (.int p2), .val (.int p3), .val (.int p4), .val (.int (p2 &&& (3 : Int32))), .val (.int (own_hl p2)), .val (.int (own_n0 p0)), .val (.int (own_n1 p0)), .val (.int (own_n2 p0)), .val (.int x0), .val (.int x1), .val (.int x2), .val (.int an), .val (.int pt), .val (.int hp), .val (.ref b1), .val (.int (f10 b5_r hp b2_r (own_str (p2 &&& (3 : Int32)) (own_n0 p0) (own_n1 p0) (own_n2 p0)) (own_str (own_hl p2) x0 x1 x2) pt)), .val (.int (0 : Int32)), .val (.int (1 : Int32)), .val (.int (0 : Int32))] [(.int (1 : Int32))])) (fun t kt => ?_) ?_
                  · show Steps p.tables e below (T6.setTop (mkF m 270 #[.val (.int p0), .val (.int p1), .val (.int p2), .val (.int p3), .val (.int p4), .val (.int (p2 &&& (3 : Int32))), .val (.int (own_hl p2)), .val (.int (own_n0 p0)), .val (.int (own_n1 p0)), .val (.int (own_n2 p0)), .val (.int x0), .val (.int x1), .val (.int x2), .val (.int an), .val (.int pt), .val (.int hp), .val (.ref b1), .val (.int (f10 b5_r hp b2_r (own_str (p2 &&& (3 : Int32)) (own_n0 p0) (own_n1 p0) (own_n2 p0)) (own_str (own_hl p2) x0 x1 x2) pt)), .val (.int (0 : Int32)), .unset, .unset] [])) t
                    refine XS.iconst X6.here hx rfl (hb hby at_270) ?_
                    refine XS.goto X6.here hx rfl (pc0 := 271) (pc' := 275) rfl (hb hby at_271) (by decide) (by decide) ?_
                    refine XS.istore X6.here hx rfl (hb hby at_275) rfl (l' := #[.val (.int p0), .val (.int p1), .val (.int p2), .val (.int p3), .val (.int p4), .val (.int (p2 &&& (3 : Int32))), .val (.int (own_hl p2)), .val (.int (own_n0 p0)), .val (.int (own_n1 p0)), .val (.int (own_n2 p0)), .val (.int x0), .val (.int x1), .val (.int x2), .val (.int an), .val (.int pt), .val (.int hp), .val (.ref b1), .val (.int (f10 b5_r hp b2_r (own_str (p2 &&& (3 : Int32)) (own_n0 p0) (own_n1 p0) (own_n2 p0)) (own_str (own_hl p2) x0 x1 x2) pt)), .val (.int (0 : Int32)), .val (.int (1 : Int32)), .unset]) rfl ?_
                    refine XS.iload X6.here hx rfl (hb hby at_277) rfl ?_
                    refine XS.ifYes X6.here hx rfl (pc0 := 279) (pc' := 291) rfl (hb hby at_279) rfl ((if0 _ _).trans (teq (by decide : (0 : Int32) = (0 : Int32))).1) (by decide) (by decide) ?_
                    refine XS.iconst X6.here hx rfl (hb hby at_291) ?_
                    refine XS.istore X6.here hx rfl (hb hby at_292) rfl (l' := #[.val (.int p0), .val (.int p1), .val (.int p2), .val (.int p3), .val (.int p4), .val (.int (p2 &&& (3 : Int32))), .val (.int (own_hl p2)), .val (.int (own_n0 p0)), .val (.int (own_n1 p0)), .val (.int (own_n2 p0)), .val (.int x0), .val (.int x1), .val (.int x2), .val (.int an), .val (.int pt), .val (.int hp), .val (.ref b1), .val (.int (f10 b5_r hp b2_r (own_str (p2 &&& (3 : Int32)) (own_n0 p0) (own_n1 p0) (own_n2 p0)) (own_str (own_hl p2) x0 x1 x2) pt)), .val (.int (0 : Int32)), .val (.int (1 : Int32)), .val (.int (0 : Int32))]) rfl ?_
                    refine XS.iload X6.here hx rfl (hb hby at_294) rfl ?_
                    refine XS.iload X6.here hx rfl (hb hby at_296) rfl ?_
                    refine XS.icmpNo X6.here hx rfl (hb hby at_298) rfl (teq ((own_fin _ _ (Nat.ne_of_lt (Nat.lt_of_lt_of_le (P2_0.keep K4).lt szo_b5_r)) _ _ _ _ _ _ _ _ _ _ _ (own_nl _) (own_nl _) (own_rn0 _) (own_rn1 _) (own_rn2 _) hx0 hx1 hx2 hap).2 (fun q => q.1.2.2.1.elim hc228 hc235))).2 ?_
                    refine XS.iconst X6.here hx rfl (hb hby at_301) ?_
                    refine XS.goto X6.here hx rfl (pc0 := 302) (pc' := 306) rfl (hb hby at_302) (by decide) (by decide) ?_
                    exact kt
                  refine OGW.retZ X6 hx hlk hS hk hZ hEL CR e6 (t := .boolean) (z' := (1 : Int32)) hret (by simp) (hb hby at_306) rfl ?_ (by decide) (by decide)
                  show Q0 Z p0 p1 p2 p3 p4 w_COMPACT_STRINGS h0 n0 _ T6.heap _
                  rw [e6]
                  exact ⟨rfl, N6, KC5⟩
                · refine OGW.step (F' := T6.setTop (mkF m 274 #[.val (.int p0), .val (.int p1), .val (.int p2), .val (.int p3), .val (.int p4), .val (.int (p2 &&& (3 : Int32))), .val (.int (own_hl p2)), .val (.int (own_n0 p0)), .val (.int (own_n1 p0)), .val (.int (own_n2 p0)), .val (.int x0), .val (.int x1), .val (.int x2), .val (.int an), .val (.int pt), .val (.int hp), .val (.ref b1), .val (.int (f10 b5_r hp b2_r (own_str (p2 &&& (3 : Int32)) (own_n0 p0) (own_n1 p0) (own_n2 p0)) (own_str (own_hl p2) x0 x1 x2) pt)), .val (.int (0 : Int32)), .unset, .unset] [])) (fun t kt => ?_) ?_
                  · show Steps p.tables e below (T6.setTop (mkF m 267 #[.val (.int p0), .val (.int p1), .val (.int p2), .val (.int p3), .val (.int p4), .val (.int (p2 &&& (3 : Int32))), .val (.int (own_hl p2)), .val (.int (own_n0 p0)), .val (.int (own_n1 p0)), .val (.int (own_n2 p0)), .val (.int x0), .val (.int x1), .val (.int x2), .val (.int an), .val (.int pt), .val (.int hp), .val (.ref b1), .val (.int (f10 b5_r hp b2_r (own_str (p2 &&& (3 : Int32)) (own_n0 p0) (own_n1 p0) (own_n2 p0)) (own_str (own_hl p2) x0 x1 x2) pt)), .val (.int (0 : Int32)), .unset, .unset] [(.int hp), (.int pt)])) t
                    refine XS.icmpYes X6.here hx rfl (pc0 := 267) (pc' := 274) rfl (hb hby at_267) rfl (feq hc267).2 (by decide) (by decide) ?_
                    exact kt
                  refine OGW.step (F' := T6.setTop (mkF m 306 #[.val (.int p0), .val (.int p1), .val (.int p2), .val (.int p3), .val (.int p4), .val (.int (p2 &&& (3 : Int32))), .val (.int (own_hl p2)), .val (.int (own_n0 p0)), .val (.int (own_n1 p0)), .val (.int (own_n2 p0)), .val (.int x0), .val (.int x1), .val (.int x2), .val (.int an), .val (.int pt), .val (.int hp), .val (.ref b1), .val (.int (f10 b5_r hp b2_r (own_str (p2 &&& (3 : Int32)) (own_n0 p0) (own_n1 p0) (own_n2 p0)) (own_str (own_hl p2) x0 x1 x2) pt)), .val (.int (0 : Int32)), .val (.int (0 : Int32)), .val (.int (0 : Int32))] [(.int (1 : Int32))])) (fun t kt => ?_) ?_
                  · show Steps p.tables e below (T6.setTop (mkF m 274 #[.val (.int p0), .val (.int p1), .val (.int p2), .val (.int p3), .val (.int p4), .val (.int (p2 &&& (3 : Int32))), .val (.int (own_hl p2)), .val (.int (own_n0 p0)), .val (.int (own_n1 p0)), .val (.int (own_n2 p0)), .val (.int x0), .val (.int x1), .val (.int x2), .val (.int an), .val (.int pt), .val (.int hp), .val (.ref b1), .val (.int (f10 b5_r hp b2_r (own_str (p2 &&& (3 : Int32)) (own_n0 p0) (own_n1 p0) (own_n2 p0)) (own_str (own_hl p2) x0 x1 x2) pt)), .val (.int (0 : Int32)), .unset, .unset] [])) t
                    refine XS.iconst X6.here hx rfl (hb hby at_274) ?_
                    refine XS.istore X6.here hx rfl (hb hby at_275) rfl (l' := #[.val (.int p0), .val (.int p1), .val (.int p2), .val (.int p3), .val (.int p4), .val (.int (p2 &&& (3 : Int32))), .val (.int (own_hl p2)), .val (.int (own_n0 p0)), .val (.int (own_n1 p0)), .val (.int (own_n2 p0)), .val (.int x0), .val (.int x1), .val (.int x2), .val (.int an), .val (.int pt), .val (.int hp), .val (.ref b1), .val (.int (f10 b5_r hp b2_r (own_str (p2 &&& (3 : Int32)) (own_n0 p0) (own_n1 p0) (own_n2 p0)) (own_str (own_hl p2) x0 x1 x2) pt)), .val (.int (0 : Int32)), .val (.int (0 : Int32)), .unset]) rfl ?_
                    refine XS.iload X6.here hx rfl (hb hby at_277) rfl ?_
                    refine XS.ifYes X6.here hx rfl (pc0 := 279) (pc' := 291) rfl (hb hby at_279) rfl ((if0 _ _).trans (teq (by decide : (0 : Int32) = (0 : Int32))).1) (by decide) (by decide) ?_
                    refine XS.iconst X6.here hx rfl (hb hby at_291) ?_
                    refine XS.istore X6.here hx rfl (hb hby at_292) rfl (l' := #[.val (.int p0), .val (.int p1), .val (.int p2), .val (.int p3), .val (.int p4), .val (.int (p2 &&& (3 : Int32))), .val (.int (own_hl p2)), .val (.int (own_n0 p0)), .val (.int (own_n1 p0)), .val (.int (own_n2 p0)), .val (.int x0), .val (.int x1), .val (.int x2), .val (.int an), .val (.int pt), .val (.int hp), .val (.ref b1), .val (.int (f10 b5_r hp b2_r (own_str (p2 &&& (3 : Int32)) (own_n0 p0) (own_n1 p0) (own_n2 p0)) (own_str (own_hl p2) x0 x1 x2) pt)), .val (.int (0 : Int32)), .val (.int (0 : Int32)), .val (.int (0 : Int32))]) rfl ?_
                    refine XS.iload X6.here hx rfl (hb hby at_294) rfl ?_
                    refine XS.iload X6.here hx rfl (hb hby at_296) rfl ?_
                    refine XS.icmpNo X6.here hx rfl (hb hby at_298) rfl (teq ((own_fin _ _ (Nat.ne_of_lt (Nat.lt_of_lt_of_le (P2_0.keep K4).lt szo_b5_r)) _ _ _ _ _ _ _ _ _ _ _ (own_nl _) (own_nl _) (own_rn0 _) (own_rn1 _) (own_rn2 _) hx0 hx1 hx2 hap).2 (fun q => q.1.2.2.1.elim hc228 hc235))).2 ?_
                    refine XS.iconst X6.here hx rfl (hb hby at_301) ?_
                    refine XS.goto X6.here hx rfl (pc0 := 302) (pc' := 306) rfl (hb hby at_302) (by decide) (by decide) ?_
                    exact kt
                  refine OGW.retZ X6 hx hlk hS hk hZ hEL CR e6 (t := .boolean) (z' := (1 : Int32)) hret (by simp) (hb hby at_306) rfl ?_ (by decide) (by decide)
                  show Q0 Z p0 p1 p2 p3 p4 w_COMPACT_STRINGS h0 n0 _ T6.heap _
                  rw [e6]
                  exact ⟨rfl, N6, KC5⟩
              · refine OGW.step (F' := T6.setTop (mkF m 270 #[.val (.int p0), .val (.int p1), .val (.int p2), .val (.int p3), .val (.int p4), .val (.int (p2 &&& (3 : Int32))), .val (.int (own_hl p2)), .val (.int (own_n0 p0)), .val (.int (own_n1 p0)), .val (.int (own_n2 p0)), .val (.int x0), .val (.int x1), .val (.int x2), .val (.int an), .val (.int pt), .val (.int hp), .val (.ref b1), .val (.int (f10 b5_r hp b2_r (own_str (p2 &&& (3 : Int32)) (own_n0 p0) (own_n1 p0) (own_n2 p0)) (own_str (own_hl p2) x0 x1 x2) pt)), .val (.int (0 : Int32)), .unset, .unset] [])) (fun t kt => ?_) ?_
                · show Steps p.tables e below (T6.setTop (mkF m 260 #[.val (.int p0), .val (.int p1), .val (.int p2), .val (.int p3), .val (.int p4), .val (.int (p2 &&& (3 : Int32))), .val (.int (own_hl p2)), .val (.int (own_n0 p0)), .val (.int (own_n1 p0)), .val (.int (own_n2 p0)), .val (.int x0), .val (.int x1), .val (.int x2), .val (.int an), .val (.int pt), .val (.int hp), .val (.ref b1), .val (.int (f10 b5_r hp b2_r (own_str (p2 &&& (3 : Int32)) (own_n0 p0) (own_n1 p0) (own_n2 p0)) (own_str (own_hl p2) x0 x1 x2) pt)), .val (.int (0 : Int32)), .unset, .unset] [(.int an)])) t
                  refine XS.ifYes X6.here hx rfl (pc0 := 260) (pc' := 270) rfl (hb hby at_260) rfl ((if0 _ _).trans (feq hc260).2) (by decide) (by decide) ?_
                  exact kt
                refine OGW.step (F' := T6.setTop (mkF m 306 #[.val (.int p0), .val (.int p1), .val (.int p2), .val (.int p3), .val (.int p4), .val (.int (p2 &&& (3 : Int32))), .val (.int (own_hl p2)), .val (.int (own_n0 p0)), .val (.int (own_n1 p0)), .val (.int (own_n2 p0)), .val (.int x0), .val (.int x1), .val (.int x2), .val (.int an), .val (.int pt), .val (.int hp), .val (.ref b1), .val (.int (f10 b5_r hp b2_r (own_str (p2 &&& (3 : Int32)) (own_n0 p0) (own_n1 p0) (own_n2 p0)) (own_str (own_hl p2) x0 x1 x2) pt)), .val (.int (0 : Int32)), .val (.int (1 : Int32)), .val (.int (0 : Int32))] [(.int (1 : Int32))])) (fun t kt => ?_) ?_
                · show Steps p.tables e below (T6.setTop (mkF m 270 #[.val (.int p0), .val (.int p1), .val (.int p2), .val (.int p3), .val (.int p4), .val (.int (p2 &&& (3 : Int32))), .val (.int (own_hl p2)), .val (.int (own_n0 p0)), .val (.int (own_n1 p0)), .val (.int (own_n2 p0)), .val (.int x0), .val (.int x1), .val (.int x2), .val (.int an), .val (.int pt), .val (.int hp), .val (.ref b1), .val (.int (f10 b5_r hp b2_r (own_str (p2 &&& (3 : Int32)) (own_n0 p0) (own_n1 p0) (own_n2 p0)) (own_str (own_hl p2) x0 x1 x2) pt)), .val (.int (0 : Int32)), .unset, .unset] [])) t
                  refine XS.iconst X6.here hx rfl (hb hby at_270) ?_
                  refine XS.goto X6.here hx rfl (pc0 := 271) (pc' := 275) rfl (hb hby at_271) (by decide) (by decide) ?_
                  refine XS.istore X6.here hx rfl (hb hby at_275) rfl (l' := #[.val (.int p0), .val (.int p1), .val (.int p2), .val (.int p3), .val (.int p4), .val (.int (p2 &&& (3 : Int32))), .val (.int (own_hl p2)), .val (.int (own_n0 p0)), .val (.int (own_n1 p0)), .val (.int (own_n2 p0)), .val (.int x0), .val (.int x1), .val (.int x2), .val (.int an), .val (.int pt), .val (.int hp), .val (.ref b1), .val (.int (f10 b5_r hp b2_r (own_str (p2 &&& (3 : Int32)) (own_n0 p0) (own_n1 p0) (own_n2 p0)) (own_str (own_hl p2) x0 x1 x2) pt)), .val (.int (0 : Int32)), .val (.int (1 : Int32)), .unset]) rfl ?_
                  refine XS.iload X6.here hx rfl (hb hby at_277) rfl ?_
                  refine XS.ifYes X6.here hx rfl (pc0 := 279) (pc' := 291) rfl (hb hby at_279) rfl ((if0 _ _).trans (teq (by decide : (0 : Int32) = (0 : Int32))).1) (by decide) (by decide) ?_
                  refine XS.iconst X6.here hx rfl (hb hby at_291) ?_
                  refine XS.istore X6.here hx rfl (hb hby at_292) rfl (l' := #[.val (.int p0), .val (.int p1), .val (.int p2), .val (.int p3), .val (.int p4), .val (.int (p2 &&& (3 : Int32))), .val (.int (own_hl p2)), .val (.int (own_n0 p0)), .val (.int (own_n1 p0)), .val (.int (own_n2 p0)), .val (.int x0), .val (.int x1), .val (.int x2), .val (.int an), .val (.int pt), .val (.int hp), .val (.ref b1), .val (.int (f10 b5_r hp b2_r (own_str (p2 &&& (3 : Int32)) (own_n0 p0) (own_n1 p0) (own_n2 p0)) (own_str (own_hl p2) x0 x1 x2) pt)), .val (.int (0 : Int32)), .val (.int (1 : Int32)), .val (.int (0 : Int32))]) rfl ?_
                  refine XS.iload X6.here hx rfl (hb hby at_294) rfl ?_
                  refine XS.iload X6.here hx rfl (hb hby at_296) rfl ?_
                  refine XS.icmpNo X6.here hx rfl (hb hby at_298) rfl (teq ((own_fin _ _ (Nat.ne_of_lt (Nat.lt_of_lt_of_le (P2_0.keep K4).lt szo_b5_r)) _ _ _ _ _ _ _ _ _ _ _ (own_nl _) (own_nl _) (own_rn0 _) (own_rn1 _) (own_rn2 _) hx0 hx1 hx2 hap).2 (fun q => q.1.2.2.1.elim hc228 hc235))).2 ?_
                  refine XS.iconst X6.here hx rfl (hb hby at_301) ?_
                  refine XS.goto X6.here hx rfl (pc0 := 302) (pc' := 306) rfl (hb hby at_302) (by decide) (by decide) ?_
                  exact kt
                refine OGW.retZ X6 hx hlk hS hk hZ hEL CR e6 (t := .boolean) (z' := (1 : Int32)) hret (by simp) (hb hby at_306) rfl ?_ (by decide) (by decide)
                show Q0 Z p0 p1 p2 p3 p4 w_COMPACT_STRINGS h0 n0 _ T6.heap _
                rw [e6]
                exact ⟨rfl, N6, KC5⟩
        · refine OGW.step (F' := T6.setTop (mkF m 255 #[.val (.int p0), .val (.int p1), .val (.int p2), .val (.int p3), .val (.int p4), .val (.int (p2 &&& (3 : Int32))), .val (.int (own_hl p2)), .val (.int (own_n0 p0)), .val (.int (own_n1 p0)), .val (.int (own_n2 p0)), .val (.int x0), .val (.int x1), .val (.int x2), .val (.int an), .val (.int pt), .val (.int hp), .val (.ref b1), .val (.int (f10 b5_r hp b2_r (own_str (p2 &&& (3 : Int32)) (own_n0 p0) (own_n1 p0) (own_n2 p0)) (own_str (own_hl p2) x0 x1 x2) pt)), .unset, .unset, .unset] [])) (fun t kt => ?_) ?_
          · show Steps p.tables e below (T6.setTop (mkF m 222 #[.val (.int p0), .val (.int p1), .val (.int p2), .val (.int p3), .val (.int p4), .val (.int (p2 &&& (3 : Int32))), .val (.int (own_hl p2)), .val (.int (own_n0 p0)), .val (.int (own_n1 p0)), .val (.int (own_n2 p0)), .val (.int x0), .val (.int x1), .val (.int x2), .val (.int an), .val (.int pt), .val (.int hp), .val (.ref b1), .val (.int (f10 b5_r hp b2_r (own_str (p2 &&& (3 : Int32)) (own_n0 p0) (own_n1 p0) (own_n2 p0)) (own_str (own_hl p2) x0 x1 x2) pt)), .unset, .unset, .unset] [(.int x0), (.int (own_n0 p0))])) t
            refine XS.icmpYes X6.here hx rfl (pc0 := 222) (pc' := 255) rfl (hb hby at_222) rfl (feq hc222).2 (by decide) (by decide) ?_
            exact kt
          refine OGW.step (F' := T6.setTop (mkF m 260 #[.val (.int p0), .val (.int p1), .val (.int p2), .val (.int p3), .val (.int p4), .val (.int (p2 &&& (3 : Int32))), .val (.int (own_hl p2)), .val (.int (own_n0 p0)), .val (.int (own_n1 p0)), .val (.int (own_n2 p0)), .val (.int x0), .val (.int x1), .val (.int x2), .val (.int an), .val (.int pt), .val (.int hp), .val (.ref b1), .val (.int (f10 b5_r hp b2_r (own_str (p2 &&& (3 : Int32)) (own_n0 p0) (own_n1 p0) (own_n2 p0)) (own_str (own_hl p2) x0 x1 x2) pt)), .val (.int (0 : Int32)), .unset, .unset] [(.int an)])) (fun t kt => ?_) ?_
          · show Steps p.tables e below (T6.setTop (mkF m 255 #[.val (.int p0), .val (.int p1), .val (.int p2), .val (.int p3), .val (.int p4), .val (.int (p2 &&& (3 : Int32))), .val (.int (own_hl p2)), .val (.int (own_n0 p0)), .val (.int (own_n1 p0)), .val (.int (own_n2 p0)), .val (.int x0), .val (.int x1), .val (.int x2), .val (.int an), .val (.int pt), .val (.int hp), .val (.ref b1), .val (.int (f10 b5_r hp b2_r (own_str (p2 &&& (3 : Int32)) (own_n0 p0) (own_n1 p0) (own_n2 p0)) (own_str (own_hl p2) x0 x1 x2) pt)), .unset, .unset, .unset] [])) t
            refine XS.iconst X6.here hx rfl (hb hby at_255) ?_
            refine XS.istore X6.here hx rfl (hb hby at_256) rfl (l' := #[.val (.int p0), .val (.int p1), .val (.int p2), .val (.int p3), .val (.int p4), .val (.int (p2 &&& (3 : Int32))), .val (.int (own_hl p2)), .val (.int (own_n0 p0)), .val (.int (own_n1 p0)), .val (.int (own_n2 p0)), .val (.int x0), .val (.int x1), .val (.int x2), .val (.int an), .val (.int pt), .val (.int hp), .val (.ref b1), .val (.int (f10 b5_r hp b2_r (own_str (p2 &&& (3 : Int32)) (own_n0 p0) (own_n1 p0) (own_n2 p0)) (own_str (own_hl p2) x0 x1 x2) pt)), .val (.int (0 : Int32)), .unset, .unset]) rfl ?_
            refine XS.iload X6.here hx rfl (hb hby at_258) rfl ?_
            exact kt
          by_cases hc260 : an = (0 : Int32)
          · refine OGW.step (F' := T6.setTop (mkF m 263 #[.val (.int p0), .val (.int p1), .val (.int p2), .val (.int p3), .val (.int p4), .val (.int (p2 &&& (3 : Int32))), .val (.int (own_hl p2)), .val (.int (own_n0 p0)), .val (.int (own_n1 p0)), .val (.int (own_n2 p0)), .val (.int x0), .val (.int x1), .val (.int x2), .val (.int an), .val (.int pt), .val (.int hp), .val (.ref b1), .val (.int (f10 b5_r hp b2_r (own_str (p2 &&& (3 : Int32)) (own_n0 p0) (own_n1 p0) (own_n2 p0)) (own_str (own_hl p2) x0 x1 x2) pt)), .val (.int (0 : Int32)), .unset, .unset] [])) (fun t kt => ?_) ?_
            · show Steps p.tables e below (T6.setTop (mkF m 260 #[.val (.int p0), .val (.int p1), .val (.int p2), .val (.int p3), .val (.int p4), .val (.int (p2 &&& (3 : Int32))), .val (.int (own_hl p2)), .val (.int (own_n0 p0)), .val (.int (own_n1 p0)), .val (.int (own_n2 p0)), .val (.int x0), .val (.int x1), .val (.int x2), .val (.int an), .val (.int pt), .val (.int hp), .val (.ref b1), .val (.int (f10 b5_r hp b2_r (own_str (p2 &&& (3 : Int32)) (own_n0 p0) (own_n1 p0) (own_n2 p0)) (own_str (own_hl p2) x0 x1 x2) pt)), .val (.int (0 : Int32)), .unset, .unset] [(.int an)])) t
              refine XS.ifNo X6.here hx rfl (hb hby at_260) rfl ((if0 _ _).trans (teq hc260).2) ?_
              exact kt
            refine OGW.step (F' := T6.setTop (mkF m 267 #[.val (.int p0), .val (.int p1), .val (.int p2), .val (.int p3), .val (.int p4), .val (.int (p2 &&& (3 : Int32))), .val (.int (own_hl p2)), .val (.int (own_n0 p0)), .val (.int (own_n1 p0)), .val (.int (own_n2 p0)), .val (.int x0), .val (.int x1), .val (.int x2), .val (.int an), .val (.int pt), .val (.int hp), .val (.ref b1), .val (.int (f10 b5_r hp b2_r (own_str (p2 &&& (3 : Int32)) (own_n0 p0) (own_n1 p0) (own_n2 p0)) (own_str (own_hl p2) x0 x1 x2) pt)), .val (.int (0 : Int32)), .unset, .unset] [(.int hp), (.int pt)])) (fun t kt => ?_) ?_
            · show Steps p.tables e below (T6.setTop (mkF m 263 #[.val (.int p0), .val (.int p1), .val (.int p2), .val (.int p3), .val (.int p4), .val (.int (p2 &&& (3 : Int32))), .val (.int (own_hl p2)), .val (.int (own_n0 p0)), .val (.int (own_n1 p0)), .val (.int (own_n2 p0)), .val (.int x0), .val (.int x1), .val (.int x2), .val (.int an), .val (.int pt), .val (.int hp), .val (.ref b1), .val (.int (f10 b5_r hp b2_r (own_str (p2 &&& (3 : Int32)) (own_n0 p0) (own_n1 p0) (own_n2 p0)) (own_str (own_hl p2) x0 x1 x2) pt)), .val (.int (0 : Int32)), .unset, .unset] [])) t
              refine XS.iload X6.here hx rfl (hb hby at_263) rfl ?_
              refine XS.iload X6.here hx rfl (hb hby at_265) rfl ?_
              exact kt
            by_cases hc267 : pt = hp
            · refine OGW.step (F' := T6.setTop (mkF m 270 #[.val (.int p0), .val (.int p1), .val (.int p2), .val (.int p3), .val (.int p4), .val (.int (p2 &&& (3 : Int32))), .val (.int (own_hl p2)), .val (.int (own_n0 p0)), .val (.int (own_n1 p0)), .val (.int (own_n2 p0)), .val (.int x0), .val (.int x1), .val (.int x2), .val (.int an), .val (.int pt), .val (.int hp), .val (.ref b1), .val (.int (f10 b5_r hp b2_r (own_str (p2 &&& (3 : Int32)) (own_n0 p0) (own_n1 p0) (own_n2 p0)) (own_str (own_hl p2) x0 x1 x2) pt)), .val (.int (0 : Int32)), .unset, .unset] [])) (fun t kt => ?_) ?_
              · show Steps p.tables e below (T6.setTop (mkF m 267 #[.val (.int p0), .val (.int p1), .val (.int p2), .val (.int p3), .val (.int p4), .val (.int (p2 &&& (3 : Int32))), .val (.int (own_hl p2)), .val (.int (own_n0 p0)), .val (.int (own_n1 p0)), .val (.int (own_n2 p0)), .val (.int x0), .val (.int x1), .val (.int x2), .val (.int an), .val (.int pt), .val (.int hp), .val (.ref b1), .val (.int (f10 b5_r hp b2_r (own_str (p2 &&& (3 : Int32)) (own_n0 p0) (own_n1 p0) (own_n2 p0)) (own_str (own_hl p2) x0 x1 x2) pt)), .val (.int (0 : Int32)), .unset, .unset] [(.int hp), (.int pt)])) t
                refine XS.icmpNo X6.here hx rfl (hb hby at_267) rfl (teq hc267).2 ?_
                exact kt
              refine OGW.step (F' := T6.setTop (mkF m 306 #[.val (.int p0), .val (.int p1), .val (.int p2), .val (.int p3), .val (.int p4), .val (.int (p2 &&& (3 : Int32))), .val (.int (own_hl p2)), .val (.int (own_n0 p0)), .val (.int (own_n1 p0)), .val (.int (own_n2 p0)), .val (.int x0), .val (.int x1), .val (.int x2), .val (.int an), .val (.int pt), .val (.int hp), .val (.ref b1), .val (.int (f10 b5_r hp b2_r (own_str (p2 &&& (3 : Int32)) (own_n0 p0) (own_n1 p0) (own_n2 p0)) (own_str (own_hl p2) x0 x1 x2) pt)), .val (.int (0 : Int32)), .val (.int (1 : Int32)), .val (.int (0 : Int32))] [(.int (1 : Int32))])) (fun t kt => ?_) ?_
              · show Steps p.tables e below (T6.setTop (mkF m 270 #[.val (.int p0), .val (.int p1), .val (.int p2), .val (.int p3), .val (.int p4), .val (.int (p2 &&& (3 : Int32))), .val (.int (own_hl p2)), .val (.int (own_n0 p0)), .val (.int (own_n1 p0)), .val (.int (own_n2 p0)), .val (.int x0), .val (.int x1), .val (.int x2), .val (.int an), .val (.int pt), .val (.int hp), .val (.ref b1), .val (.int (f10 b5_r hp b2_r (own_str (p2 &&& (3 : Int32)) (own_n0 p0) (own_n1 p0) (own_n2 p0)) (own_str (own_hl p2) x0 x1 x2) pt)), .val (.int (0 : Int32)), .unset, .unset] [])) t
                refine XS.iconst X6.here hx rfl (hb hby at_270) ?_
                refine XS.goto X6.here hx rfl (pc0 := 271) (pc' := 275) rfl (hb hby at_271) (by decide) (by decide) ?_
                refine XS.istore X6.here hx rfl (hb hby at_275) rfl (l' := #[.val (.int p0), .val (.int p1), .val (.int p2), .val (.int p3), .val (.int p4), .val (.int (p2 &&& (3 : Int32))), .val (.int (own_hl p2)), .val (.int (own_n0 p0)), .val (.int (own_n1 p0)), .val (.int (own_n2 p0)), .val (.int x0), .val (.int x1), .val (.int x2), .val (.int an), .val (.int pt), .val (.int hp), .val (.ref b1), .val (.int (f10 b5_r hp b2_r (own_str (p2 &&& (3 : Int32)) (own_n0 p0) (own_n1 p0) (own_n2 p0)) (own_str (own_hl p2) x0 x1 x2) pt)), .val (.int (0 : Int32)), .val (.int (1 : Int32)), .unset]) rfl ?_
                refine XS.iload X6.here hx rfl (hb hby at_277) rfl ?_
                refine XS.ifYes X6.here hx rfl (pc0 := 279) (pc' := 291) rfl (hb hby at_279) rfl ((if0 _ _).trans (teq (by decide : (0 : Int32) = (0 : Int32))).1) (by decide) (by decide) ?_
                refine XS.iconst X6.here hx rfl (hb hby at_291) ?_
                refine XS.istore X6.here hx rfl (hb hby at_292) rfl (l' := #[.val (.int p0), .val (.int p1), .val (.int p2), .val (.int p3), .val (.int p4), .val (.int (p2 &&& (3 : Int32))), .val (.int (own_hl p2)), .val (.int (own_n0 p0)), .val (.int (own_n1 p0)), .val (.int (own_n2 p0)), .val (.int x0), .val (.int x1), .val (.int x2), .val (.int an), .val (.int pt), .val (.int hp), .val (.ref b1), .val (.int (f10 b5_r hp b2_r (own_str (p2 &&& (3 : Int32)) (own_n0 p0) (own_n1 p0) (own_n2 p0)) (own_str (own_hl p2) x0 x1 x2) pt)), .val (.int (0 : Int32)), .val (.int (1 : Int32)), .val (.int (0 : Int32))]) rfl ?_
                refine XS.iload X6.here hx rfl (hb hby at_294) rfl ?_
                refine XS.iload X6.here hx rfl (hb hby at_296) rfl ?_
                refine XS.icmpNo X6.here hx rfl (hb hby at_298) rfl (teq ((own_fin _ _ (Nat.ne_of_lt (Nat.lt_of_lt_of_le (P2_0.keep K4).lt szo_b5_r)) _ _ _ _ _ _ _ _ _ _ _ (own_nl _) (own_nl _) (own_rn0 _) (own_rn1 _) (own_rn2 _) hx0 hx1 hx2 hap).2 (fun q => q.1.2.1.elim hc215 hc222))).2 ?_
                refine XS.iconst X6.here hx rfl (hb hby at_301) ?_
                refine XS.goto X6.here hx rfl (pc0 := 302) (pc' := 306) rfl (hb hby at_302) (by decide) (by decide) ?_
                exact kt
              refine OGW.retZ X6 hx hlk hS hk hZ hEL CR e6 (t := .boolean) (z' := (1 : Int32)) hret (by simp) (hb hby at_306) rfl ?_ (by decide) (by decide)
              show Q0 Z p0 p1 p2 p3 p4 w_COMPACT_STRINGS h0 n0 _ T6.heap _
              rw [e6]
              exact ⟨rfl, N6, KC5⟩
            · refine OGW.step (F' := T6.setTop (mkF m 274 #[.val (.int p0), .val (.int p1), .val (.int p2), .val (.int p3), .val (.int p4), .val (.int (p2 &&& (3 : Int32))), .val (.int (own_hl p2)), .val (.int (own_n0 p0)), .val (.int (own_n1 p0)), .val (.int (own_n2 p0)), .val (.int x0), .val (.int x1), .val (.int x2), .val (.int an), .val (.int pt), .val (.int hp), .val (.ref b1), .val (.int (f10 b5_r hp b2_r (own_str (p2 &&& (3 : Int32)) (own_n0 p0) (own_n1 p0) (own_n2 p0)) (own_str (own_hl p2) x0 x1 x2) pt)), .val (.int (0 : Int32)), .unset, .unset] [])) (fun t kt => ?_) ?_
              · show Steps p.tables e below (T6.setTop (mkF m 267 #[.val (.int p0), .val (.int p1), .val (.int p2), .val (.int p3), .val (.int p4), .val (.int (p2 &&& (3 : Int32))), .val (.int (own_hl p2)), .val (.int (own_n0 p0)), .val (.int (own_n1 p0)), .val (.int (own_n2 p0)), .val (.int x0), .val (.int x1), .val (.int x2), .val (.int an), .val (.int pt), .val (.int hp), .val (.ref b1), .val (.int (f10 b5_r hp b2_r (own_str (p2 &&& (3 : Int32)) (own_n0 p0) (own_n1 p0) (own_n2 p0)) (own_str (own_hl p2) x0 x1 x2) pt)), .val (.int (0 : Int32)), .unset, .unset] [(.int hp), (.int pt)])) t
                refine XS.icmpYes X6.here hx rfl (pc0 := 267) (pc' := 274) rfl (hb hby at_267) rfl (feq hc267).2 (by decide) (by decide) ?_
                exact kt
              refine OGW.step (F' := T6.setTop (mkF m 306 #[.val (.int p0), .val (.int p1), .val (.int p2), .val (.int p3), .val (.int p4), .val (.int (p2 &&& (3 : Int32))), .val (.int (own_hl p2)), .val (.int (own_n0 p0)), .val (.int (own_n1 p0)), .val (.int (own_n2 p0)), .val (.int x0), .val (.int x1), .val (.int x2), .val (.int an), .val (.int pt), .val (.int hp), .val (.ref b1), .val (.int (f10 b5_r hp b2_r (own_str (p2 &&& (3 : Int32)) (own_n0 p0) (own_n1 p0) (own_n2 p0)) (own_str (own_hl p2) x0 x1 x2) pt)), .val (.int (0 : Int32)), .val (.int (0 : Int32)), .val (.int (0 : Int32))] [(.int (1 : Int32))])) (fun t kt => ?_) ?_
              · show Steps p.tables e below (T6.setTop (mkF m 274 #[.val (.int p0), .val (.int p1), .val (.int p2), .val (.int p3), .val (.int p4), .val (.int (p2 &&& (3 : Int32))), .val (.int (own_hl p2)), .val (.int (own_n0 p0)), .val (.int (own_n1 p0)), .val (.int (own_n2 p0)), .val (.int x0), .val (.int x1), .val (.int x2), .val (.int an), .val (.int pt), .val (.int hp), .val (.ref b1), .val (.int (f10 b5_r hp b2_r (own_str (p2 &&& (3 : Int32)) (own_n0 p0) (own_n1 p0) (own_n2 p0)) (own_str (own_hl p2) x0 x1 x2) pt)), .val (.int (0 : Int32)), .unset, .unset] [])) t
                refine XS.iconst X6.here hx rfl (hb hby at_274) ?_
                refine XS.istore X6.here hx rfl (hb hby at_275) rfl (l' := #[.val (.int p0), .val (.int p1), .val (.int p2), .val (.int p3), .val (.int p4), .val (.int (p2 &&& (3 : Int32))), .val (.int (own_hl p2)), .val (.int (own_n0 p0)), .val (.int (own_n1 p0)), .val (.int (own_n2 p0)), .val (.int x0), .val (.int x1), .val (.int x2), .val (.int an), .val (.int pt), .val (.int hp), .val (.ref b1), .val (.int (f10 b5_r hp b2_r (own_str (p2 &&& (3 : Int32)) (own_n0 p0) (own_n1 p0) (own_n2 p0)) (own_str (own_hl p2) x0 x1 x2) pt)), .val (.int (0 : Int32)), .val (.int (0 : Int32)), .unset]) rfl ?_
                refine XS.iload X6.here hx rfl (hb hby at_277) rfl ?_
                refine XS.ifYes X6.here hx rfl (pc0 := 279) (pc' := 291) rfl (hb hby at_279) rfl ((if0 _ _).trans (teq (by decide : (0 : Int32) = (0 : Int32))).1) (by decide) (by decide) ?_
                refine XS.iconst X6.here hx rfl (hb hby at_291) ?_
                refine XS.istore X6.here hx rfl (hb hby at_292) rfl (l' := #[.val (.int p0), .val (.int p1), .val (.int p2), .val (.int p3), .val (.int p4), .val (.int (p2 &&& (3 : Int32))), .val (.int (own_hl p2)), .val (.int (own_n0 p0)), .val (.int (own_n1 p0)), .val (.int (own_n2 p0)), .val (.int x0), .val (.int x1), .val (.int x2), .val (.int an), .val (.int pt), .val (.int hp), .val (.ref b1), .val (.int (f10 b5_r hp b2_r (own_str (p2 &&& (3 : Int32)) (own_n0 p0) (own_n1 p0) (own_n2 p0)) (own_str (own_hl p2) x0 x1 x2) pt)), .val (.int (0 : Int32)), .val (.int (0 : Int32)), .val (.int (0 : Int32))]) rfl ?_
                refine XS.iload X6.here hx rfl (hb hby at_294) rfl ?_
                refine XS.iload X6.here hx rfl (hb hby at_296) rfl ?_
                refine XS.icmpNo X6.here hx rfl (hb hby at_298) rfl (teq ((own_fin _ _ (Nat.ne_of_lt (Nat.lt_of_lt_of_le (P2_0.keep K4).lt szo_b5_r)) _ _ _ _ _ _ _ _ _ _ _ (own_nl _) (own_nl _) (own_rn0 _) (own_rn1 _) (own_rn2 _) hx0 hx1 hx2 hap).2 (fun q => q.1.2.1.elim hc215 hc222))).2 ?_
                refine XS.iconst X6.here hx rfl (hb hby at_301) ?_
                refine XS.goto X6.here hx rfl (pc0 := 302) (pc' := 306) rfl (hb hby at_302) (by decide) (by decide) ?_
                exact kt
              refine OGW.retZ X6 hx hlk hS hk hZ hEL CR e6 (t := .boolean) (z' := (1 : Int32)) hret (by simp) (hb hby at_306) rfl ?_ (by decide) (by decide)
              show Q0 Z p0 p1 p2 p3 p4 w_COMPACT_STRINGS h0 n0 _ T6.heap _
              rw [e6]
              exact ⟨rfl, N6, KC5⟩
          · refine OGW.step (F' := T6.setTop (mkF m 270 #[.val (.int p0), .val (.int p1), .val (.int p2), .val (.int p3), .val (.int p4), .val (.int (p2 &&& (3 : Int32))), .val (.int (own_hl p2)), .val (.int (own_n0 p0)), .val (.int (own_n1 p0)), .val (.int (own_n2 p0)), .val (.int x0), .val (.int x1), .val (.int x2), .val (.int an), .val (.int pt), .val (.int hp), .val (.ref b1), .val (.int (f10 b5_r hp b2_r (own_str (p2 &&& (3 : Int32)) (own_n0 p0) (own_n1 p0) (own_n2 p0)) (own_str (own_hl p2) x0 x1 x2) pt)), .val (.int (0 : Int32)), .unset, .unset] [])) (fun t kt => ?_) ?_
            · show Steps p.tables e below (T6.setTop (mkF m 260 #[.val (.int p0), .val (.int p1), .val (.int p2), .val (.int p3), .val (.int p4), .val (.int (p2 &&& (3 : Int32))), .val (.int (own_hl p2)), .val (.int (own_n0 p0)), .val (.int (own_n1 p0)), .val (.int (own_n2 p0)), .val (.int x0), .val (.int x1), .val (.int x2), .val (.int an), .val (.int pt), .val (.int hp), .val (.ref b1), .val (.int (f10 b5_r hp b2_r (own_str (p2 &&& (3 : Int32)) (own_n0 p0) (own_n1 p0) (own_n2 p0)) (own_str (own_hl p2) x0 x1 x2) pt)), .val (.int (0 : Int32)), .unset, .unset] [(.int an)])) t
              refine XS.ifYes X6.here hx rfl (pc0 := 260) (pc' := 270) rfl (hb hby at_260) rfl ((if0 _ _).trans (feq hc260).2) (by decide) (by decide) ?_
              exact kt
            refine OGW.step (F' := T6.setTop (mkF m 306 #[.val (.int p0), .val (.int p1), .val (.int p2), .val (.int p3), .val (.int p4), .val (.int (p2 &&& (3 : Int32))), .val (.int (own_hl p2)), .val (.int (own_n0 p0)), .val (.int (own_n1 p0)), .val (.int (own_n2 p0)), .val (.int x0), .val (.int x1), .val (.int x2), .val (.int an), .val (.int pt), .val (.int hp), .val (.ref b1), .val (.int (f10 b5_r hp b2_r (own_str (p2 &&& (3 : Int32)) (own_n0 p0) (own_n1 p0) (own_n2 p0)) (own_str (own_hl p2) x0 x1 x2) pt)), .val (.int (0 : Int32)), .val (.int (1 : Int32)), .val (.int (0 : Int32))] [(.int (1 : Int32))])) (fun t kt => ?_) ?_
            · show Steps p.tables e below (T6.setTop (mkF m 270 #[.val (.int p0), .val (.int p1), .val (.int p2), .val (.int p3), .val (.int p4), .val (.int (p2 &&& (3 : Int32))), .val (.int (own_hl p2)), .val (.int (own_n0 p0)), .val (.int (own_n1 p0)), .val (.int (own_n2 p0)), .val (.int x0), .val (.int x1), .val (.int x2), .val (.int an), .val (.int pt), .val (.int hp), .val (.ref b1), .val (.int (f10 b5_r hp b2_r (own_str (p2 &&& (3 : Int32)) (own_n0 p0) (own_n1 p0) (own_n2 p0)) (own_str (own_hl p2) x0 x1 x2) pt)), .val (.int (0 : Int32)), .unset, .unset] [])) t
              refine XS.iconst X6.here hx rfl (hb hby at_270) ?_
              refine XS.goto X6.here hx rfl (pc0 := 271) (pc' := 275) rfl (hb hby at_271) (by decide) (by decide) ?_
              refine XS.istore X6.here hx rfl (hb hby at_275) rfl (l' := #[.val (.int p0), .val (.int p1), .val (.int p2), .val (.int p3), .val (.int p4), .val (.int (p2 &&& (3 : Int32))), .val (.int (own_hl p2)), .val (.int (own_n0 p0)), .val (.int (own_n1 p0)), .val (.int (own_n2 p0)), .val (.int x0), .val (.int x1), .val (.int x2), .val (.int an), .val (.int pt), .val (.int hp), .val (.ref b1), .val (.int (f10 b5_r hp b2_r (own_str (p2 &&& (3 : Int32)) (own_n0 p0) (own_n1 p0) (own_n2 p0)) (own_str (own_hl p2) x0 x1 x2) pt)), .val (.int (0 : Int32)), .val (.int (1 : Int32)), .unset]) rfl ?_
              refine XS.iload X6.here hx rfl (hb hby at_277) rfl ?_
              refine XS.ifYes X6.here hx rfl (pc0 := 279) (pc' := 291) rfl (hb hby at_279) rfl ((if0 _ _).trans (teq (by decide : (0 : Int32) = (0 : Int32))).1) (by decide) (by decide) ?_
              refine XS.iconst X6.here hx rfl (hb hby at_291) ?_
              refine XS.istore X6.here hx rfl (hb hby at_292) rfl (l' := #[.val (.int p0), .val (.int p1), .val (.int p2), .val (.int p3), .val (.int p4), .val (.int (p2 &&& (3 : Int32))), .val (.int (own_hl p2)), .val (.int (own_n0 p0)), .val (.int (own_n1 p0)), .val (.int (own_n2 p0)), .val (.int x0), .val (.int x1), .val (.int x2), .val (.int an), .val (.int pt), .val (.int hp), .val (.ref b1), .val (.int (f10 b5_r hp b2_r (own_str (p2 &&& (3 : Int32)) (own_n0 p0) (own_n1 p0) (own_n2 p0)) (own_str (own_hl p2) x0 x1 x2) pt)), .val (.int (0 : Int32)), .val (.int (1 : Int32)), .val (.int (0 : Int32))]) rfl ?_
              refine XS.iload X6.here hx rfl (hb hby at_294) rfl ?_
              refine XS.iload X6.here hx rfl (hb hby at_296) rfl ?_
              refine XS.icmpNo X6.here hx rfl (hb hby at_298) rfl (teq ((own_fin _ _ (Nat.ne_of_lt (Nat.lt_of_lt_of_le (P2_0.keep K4).lt szo_b5_r)) _ _ _ _ _ _ _ _ _ _ _ (own_nl _) (own_nl _) (own_rn0 _) (own_rn1 _) (own_rn2 _) hx0 hx1 hx2 hap).2 (fun q => q.1.2.1.elim hc215 hc222))).2 ?_
              refine XS.iconst X6.here hx rfl (hb hby at_301) ?_
              refine XS.goto X6.here hx rfl (pc0 := 302) (pc' := 306) rfl (hb hby at_302) (by decide) (by decide) ?_
              exact kt
            refine OGW.retZ X6 hx hlk hS hk hZ hEL CR e6 (t := .boolean) (z' := (1 : Int32)) hret (by simp) (hb hby at_306) rfl ?_ (by decide) (by decide)
            show Q0 Z p0 p1 p2 p3 p4 w_COMPACT_STRINGS h0 n0 _ T6.heap _
            rw [e6]
            exact ⟨rfl, N6, KC5⟩
    · refine OGW.step (F' := T6.setTop (mkF m 255 #[.val (.int p0), .val (.int p1), .val (.int p2), .val (.int p3), .val (.int p4), .val (.int (p2 &&& (3 : Int32))), .val (.int (own_hl p2)), .val (.int (own_n0 p0)), .val (.int (own_n1 p0)), .val (.int (own_n2 p0)), .val (.int x0), .val (.int x1), .val (.int x2), .val (.int an), .val (.int pt), .val (.int hp), .val (.ref b1), .val (.int (f10 b5_r hp b2_r (own_str (p2 &&& (3 : Int32)) (own_n0 p0) (own_n1 p0) (own_n2 p0)) (own_str (own_hl p2) x0 x1 x2) pt)), .unset, .unset, .unset] [])) (fun t kt => ?_) ?_
      · show Steps p.tables e below (T6.setTop (mkF m 209 #[.val (.int p0), .val (.int p1), .val (.int p2), .val (.int p3), .val (.int p4), .val (.int (p2 &&& (3 : Int32))), .val (.int (own_hl p2)), .val (.int (own_n0 p0)), .val (.int (own_n1 p0)), .val (.int (own_n2 p0)), .val (.int x0), .val (.int x1), .val (.int x2), .val (.int an), .val (.int pt), .val (.int hp), .val (.ref b1), .val (.int (f10 b5_r hp b2_r (own_str (p2 &&& (3 : Int32)) (own_n0 p0) (own_n1 p0) (own_n2 p0)) (own_str (own_hl p2) x0 x1 x2) pt)), .unset, .unset, .unset] [(.int (own_hl p2)), (.int (p2 &&& (3 : Int32)))])) t
        refine XS.icmpYes X6.here hx rfl (pc0 := 209) (pc' := 255) rfl (hb hby at_209) rfl (feq hc209).2 (by decide) (by decide) ?_
        exact kt
      refine OGW.step (F' := T6.setTop (mkF m 260 #[.val (.int p0), .val (.int p1), .val (.int p2), .val (.int p3), .val (.int p4), .val (.int (p2 &&& (3 : Int32))), .val (.int (own_hl p2)), .val (.int (own_n0 p0)), .val (.int (own_n1 p0)), .val (.int (own_n2 p0)), .val (.int x0), .val (.int x1), .val (.int x2), .val (.int an), .val (.int pt), .val (.int hp), .val (.ref b1), .val (.int (f10 b5_r hp b2_r (own_str (p2 &&& (3 : Int32)) (own_n0 p0) (own_n1 p0) (own_n2 p0)) (own_str (own_hl p2) x0 x1 x2) pt)), .val (.int (0 : Int32)), .unset, .unset] [(.int an)])) (fun t kt => ?_) ?_
      · show Steps p.tables e below (T6.setTop (mkF m 255 #[.val (.int p0), .val (.int p1), .val (.int p2), .val (.int p3), .val (.int p4), .val (.int (p2 &&& (3 : Int32))), .val (.int (own_hl p2)), .val (.int (own_n0 p0)), .val (.int (own_n1 p0)), .val (.int (own_n2 p0)), .val (.int x0), .val (.int x1), .val (.int x2), .val (.int an), .val (.int pt), .val (.int hp), .val (.ref b1), .val (.int (f10 b5_r hp b2_r (own_str (p2 &&& (3 : Int32)) (own_n0 p0) (own_n1 p0) (own_n2 p0)) (own_str (own_hl p2) x0 x1 x2) pt)), .unset, .unset, .unset] [])) t
        refine XS.iconst X6.here hx rfl (hb hby at_255) ?_
        refine XS.istore X6.here hx rfl (hb hby at_256) rfl (l' := #[.val (.int p0), .val (.int p1), .val (.int p2), .val (.int p3), .val (.int p4), .val (.int (p2 &&& (3 : Int32))), .val (.int (own_hl p2)), .val (.int (own_n0 p0)), .val (.int (own_n1 p0)), .val (.int (own_n2 p0)), .val (.int x0), .val (.int x1), .val (.int x2), .val (.int an), .val (.int pt), .val (.int hp), .val (.ref b1), .val (.int (f10 b5_r hp b2_r (own_str (p2 &&& (3 : Int32)) (own_n0 p0) (own_n1 p0) (own_n2 p0)) (own_str (own_hl p2) x0 x1 x2) pt)), .val (.int (0 : Int32)), .unset, .unset]) rfl ?_
        refine XS.iload X6.here hx rfl (hb hby at_258) rfl ?_
        exact kt
      by_cases hc260 : an = (0 : Int32)
      · refine OGW.step (F' := T6.setTop (mkF m 263 #[.val (.int p0), .val (.int p1), .val (.int p2), .val (.int p3), .val (.int p4), .val (.int (p2 &&& (3 : Int32))), .val (.int (own_hl p2)), .val (.int (own_n0 p0)), .val (.int (own_n1 p0)), .val (.int (own_n2 p0)), .val (.int x0), .val (.int x1), .val (.int x2), .val (.int an), .val (.int pt), .val (.int hp), .val (.ref b1), .val (.int (f10 b5_r hp b2_r (own_str (p2 &&& (3 : Int32)) (own_n0 p0) (own_n1 p0) (own_n2 p0)) (own_str (own_hl p2) x0 x1 x2) pt)), .val (.int (0 : Int32)), .unset, .unset] [])) (fun t kt => ?_) ?_
        · show Steps p.tables e below (T6.setTop (mkF m 260 #[.val (.int p0), .val (.int p1), .val (.int p2), .val (.int p3), .val (.int p4), .val (.int (p2 &&& (3 : Int32))), .val (.int (own_hl p2)), .val (.int (own_n0 p0)), .val (.int (own_n1 p0)), .val (.int (own_n2 p0)), .val (.int x0), .val (.int x1), .val (.int x2), .val (.int an), .val (.int pt), .val (.int hp), .val (.ref b1), .val (.int (f10 b5_r hp b2_r (own_str (p2 &&& (3 : Int32)) (own_n0 p0) (own_n1 p0) (own_n2 p0)) (own_str (own_hl p2) x0 x1 x2) pt)), .val (.int (0 : Int32)), .unset, .unset] [(.int an)])) t
          refine XS.ifNo X6.here hx rfl (hb hby at_260) rfl ((if0 _ _).trans (teq hc260).2) ?_
          exact kt
        refine OGW.step (F' := T6.setTop (mkF m 267 #[.val (.int p0), .val (.int p1), .val (.int p2), .val (.int p3), .val (.int p4), .val (.int (p2 &&& (3 : Int32))), .val (.int (own_hl p2)), .val (.int (own_n0 p0)), .val (.int (own_n1 p0)), .val (.int (own_n2 p0)), .val (.int x0), .val (.int x1), .val (.int x2), .val (.int an), .val (.int pt), .val (.int hp), .val (.ref b1), .val (.int (f10 b5_r hp b2_r (own_str (p2 &&& (3 : Int32)) (own_n0 p0) (own_n1 p0) (own_n2 p0)) (own_str (own_hl p2) x0 x1 x2) pt)), .val (.int (0 : Int32)), .unset, .unset] [(.int hp), (.int pt)])) (fun t kt => ?_) ?_
        · show Steps p.tables e below (T6.setTop (mkF m 263 #[.val (.int p0), .val (.int p1), .val (.int p2), .val (.int p3), .val (.int p4), .val (.int (p2 &&& (3 : Int32))), .val (.int (own_hl p2)), .val (.int (own_n0 p0)), .val (.int (own_n1 p0)), .val (.int (own_n2 p0)), .val (.int x0), .val (.int x1), .val (.int x2), .val (.int an), .val (.int pt), .val (.int hp), .val (.ref b1), .val (.int (f10 b5_r hp b2_r (own_str (p2 &&& (3 : Int32)) (own_n0 p0) (own_n1 p0) (own_n2 p0)) (own_str (own_hl p2) x0 x1 x2) pt)), .val (.int (0 : Int32)), .unset, .unset] [])) t
          refine XS.iload X6.here hx rfl (hb hby at_263) rfl ?_
          refine XS.iload X6.here hx rfl (hb hby at_265) rfl ?_
          exact kt
        by_cases hc267 : pt = hp
        · refine OGW.step (F' := T6.setTop (mkF m 270 #[.val (.int p0), .val (.int p1), .val (.int p2), .val (.int p3), .val (.int p4), .val (.int (p2 &&& (3 : Int32))), .val (.int (own_hl p2)), .val (.int (own_n0 p0)), .val (.int (own_n1 p0)), .val (.int (own_n2 p0)), .val (.int x0), .val (.int x1), .val (.int x2), .val (.int an), .val (.int pt), .val (.int hp), .val (.ref b1), .val (.int (f10 b5_r hp b2_r (own_str (p2 &&& (3 : Int32)) (own_n0 p0) (own_n1 p0) (own_n2 p0)) (own_str (own_hl p2) x0 x1 x2) pt)), .val (.int (0 : Int32)), .unset, .unset] [])) (fun t kt => ?_) ?_
          · show Steps p.tables e below (T6.setTop (mkF m 267 #[.val (.int p0), .val (.int p1), .val (.int p2), .val (.int p3), .val (.int p4), .val (.int (p2 &&& (3 : Int32))), .val (.int (own_hl p2)), .val (.int (own_n0 p0)), .val (.int (own_n1 p0)), .val (.int (own_n2 p0)), .val (.int x0), .val (.int x1), .val (.int x2), .val (.int an), .val (.int pt), .val (.int hp), .val (.ref b1), .val (.int (f10 b5_r hp b2_r (own_str (p2 &&& (3 : Int32)) (own_n0 p0) (own_n1 p0) (own_n2 p0)) (own_str (own_hl p2) x0 x1 x2) pt)), .val (.int (0 : Int32)), .unset, .unset] [(.int hp), (.int pt)])) t
            refine XS.icmpNo X6.here hx rfl (hb hby at_267) rfl (teq hc267).2 ?_
            exact kt
          refine OGW.step (F' := T6.setTop (mkF m 306 #[.val (.int p0), .val (.int p1), .val (.int p2), .val (.int p3), .val (.int p4), .val (.int (p2 &&& (3 : Int32))), .val (.int (own_hl p2)), .val (.int (own_n0 p0)), .val (.int (own_n1 p0)), .val (.int (own_n2 p0)), .val (.int x0), .val (.int x1), .val (.int x2), .val (.int an), .val (.int pt), .val (.int hp), .val (.ref b1), .val (.int (f10 b5_r hp b2_r (own_str (p2 &&& (3 : Int32)) (own_n0 p0) (own_n1 p0) (own_n2 p0)) (own_str (own_hl p2) x0 x1 x2) pt)), .val (.int (0 : Int32)), .val (.int (1 : Int32)), .val (.int (0 : Int32))] [(.int (1 : Int32))])) (fun t kt => ?_) ?_
          · show Steps p.tables e below (T6.setTop (mkF m 270 #[.val (.int p0), .val (.int p1), .val (.int p2), .val (.int p3), .val (.int p4), .val (.int (p2 &&& (3 : Int32))), .val (.int (own_hl p2)), .val (.int (own_n0 p0)), .val (.int (own_n1 p0)), .val (.int (own_n2 p0)), .val (.int x0), .val (.int x1), .val (.int x2), .val (.int an), .val (.int pt), .val (.int hp), .val (.ref b1), .val (.int (f10 b5_r hp b2_r (own_str (p2 &&& (3 : Int32)) (own_n0 p0) (own_n1 p0) (own_n2 p0)) (own_str (own_hl p2) x0 x1 x2) pt)), .val (.int (0 : Int32)), .unset, .unset] [])) t
            refine XS.iconst X6.here hx rfl (hb hby at_270) ?_
            refine XS.goto X6.here hx rfl (pc0 := 271) (pc' := 275) rfl (hb hby at_271) (by decide) (by decide) ?_
            refine XS.istore X6.here hx rfl (hb hby at_275) rfl (l' := #[.val (.int p0), .val (.int p1), .val (.int p2), .val (.int p3), .val (.int p4), .val (.int (p2 &&& (3 : Int32))), .val (.int (own_hl p2)), .val (.int (own_n0 p0)), .val (.int (own_n1 p0)), .val (.int (own_n2 p0)), .val (.int x0), .val (.int x1), .val (.int x2), .val (.int an), .val (.int pt), .val (.int hp), .val (.ref b1), .val (.int (f10 b5_r hp b2_r (own_str (p2 &&& (3 : Int32)) (own_n0 p0) (own_n1 p0) (own_n2 p0)) (own_str (own_hl p2) x0 x1 x2) pt)), .val (.int (0 : Int32)), .val (.int (1 : Int32)), .unset]) rfl ?_
            refine XS.iload X6.here hx rfl (hb hby at_277) rfl ?_
            refine XS.ifYes X6.here hx rfl (pc0 := 279) (pc' := 291) rfl (hb hby at_279) rfl ((if0 _ _).trans (teq (by decide : (0 : Int32) = (0 : Int32))).1) (by decide) (by decide) ?_
            refine XS.iconst X6.here hx rfl (hb hby at_291) ?_
            refine XS.istore X6.here hx rfl (hb hby at_292) rfl (l' := #[.val (.int p0), .val (.int p1), .val (.int p2), .val (.int p3), .val (.int p4), .val (.int (p2 &&& (3 : Int32))), .val (.int (own_hl p2)), .val (.int (own_n0 p0)), .val (.int (own_n1 p0)), .val (.int (own_n2 p0)), .val (.int x0), .val (.int x1), .val (.int x2), .val (.int an), .val (.int pt), .val (.int hp), .val (.ref b1), .val (.int (f10 b5_r hp b2_r (own_str (p2 &&& (3 : Int32)) (own_n0 p0) (own_n1 p0) (own_n2 p0)) (own_str (own_hl p2) x0 x1 x2) pt)), .val (.int (0 : Int32)), .val (.int (1 : Int32)), .val (.int (0 : Int32))]) rfl ?_
            refine XS.iload X6.here hx rfl (hb hby at_294) rfl ?_
            refine XS.iload X6.here hx rfl (hb hby at_296) rfl ?_
            refine XS.icmpNo X6.here hx rfl (hb hby at_298) rfl (teq ((own_fin _ _ (Nat.ne_of_lt (Nat.lt_of_lt_of_le (P2_0.keep K4).lt szo_b5_r)) _ _ _ _ _ _ _ _ _ _ _ (own_nl _) (own_nl _) (own_rn0 _) (own_rn1 _) (own_rn2 _) hx0 hx1 hx2 hap).2 (fun q => hc209 q.1.1))).2 ?_
            refine XS.iconst X6.here hx rfl (hb hby at_301) ?_
            refine XS.goto X6.here hx rfl (pc0 := 302) (pc' := 306) rfl (hb hby at_302) (by decide) (by decide) ?_
            exact kt
          refine OGW.retZ X6 hx hlk hS hk hZ hEL CR e6 (t := .boolean) (z' := (1 : Int32)) hret (by simp) (hb hby at_306) rfl ?_ (by decide) (by decide)
          show Q0 Z p0 p1 p2 p3 p4 w_COMPACT_STRINGS h0 n0 _ T6.heap _
          rw [e6]
          exact ⟨rfl, N6, KC5⟩
        · refine OGW.step (F' := T6.setTop (mkF m 274 #[.val (.int p0), .val (.int p1), .val (.int p2), .val (.int p3), .val (.int p4), .val (.int (p2 &&& (3 : Int32))), .val (.int (own_hl p2)), .val (.int (own_n0 p0)), .val (.int (own_n1 p0)), .val (.int (own_n2 p0)), .val (.int x0), .val (.int x1), .val (.int x2), .val (.int an), .val (.int pt), .val (.int hp), .val (.ref b1), .val (.int (f10 b5_r hp b2_r (own_str (p2 &&& (3 : Int32)) (own_n0 p0) (own_n1 p0) (own_n2 p0)) (own_str (own_hl p2) x0 x1 x2) pt)), .val (.int (0 : Int32)), .unset, .unset] [])) (fun t kt => ?_) ?_
          · show Steps p.tables e below (T6.setTop (mkF m 267 #[.val (.int p0), .val (.int p1), .val (.int p2), .val (.int p3), .val (.int p4), .val (.int (p2 &&& (3 : Int32))), .val (.int (own_hl p2)), .val (.int (own_n0 p0)), .val (.int (own_n1 p0)), .val (.int (own_n2 p0)), .val (.int x0), .val (.int x1), .val (.int x2), .val (.int an), .val (.int pt), .val (.int hp), .val (.ref b1), .val (.int (f10 b5_r hp b2_r (own_str (p2 &&& (3 : Int32)) (own_n0 p0) (own_n1 p0) (own_n2 p0)) (own_str (own_hl p2) x0 x1 x2) pt)), .val (.int (0 : Int32)), .unset, .unset] [(.int hp), (.int pt)])) t
            refine XS.icmpYes X6.here hx rfl (pc0 := 267) (pc' := 274) rfl (hb hby at_267) rfl (feq hc267).2 (by decide) (by decide) ?_
            exact kt
          refine OGW.step (F' := T6.setTop (mkF m 306 #[.val (.int p0), .val (.int p1), .val (.int p2), .val (.int p3), .val (.int p4), .val (.int (p2 &&& (3 : Int32))), .val (.int (own_hl p2)), .val (.int (own_n0 p0)), .val (.int (own_n1 p0)), .val (.int (own_n2 p0)), .val (.int x0), .val (.int x1), .val (.int x2), .val (.int an), .val (.int pt), .val (.int hp), .val (.ref b1), .val (.int (f10 b5_r hp b2_r (own_str (p2 &&& (3 : Int32)) (own_n0 p0) (own_n1 p0) (own_n2 p0)) (own_str (own_hl p2) x0 x1 x2) pt)), .val (.int (0 : Int32)), .val (.int (0 : Int32)), .val (.int (0 : Int32))] [(.int (1 : Int32))])) (fun t kt => ?_) ?_
          · show Steps p.tables e below (T6.setTop (mkF m 274 #[.val (.int p0), .val (.int p1), .val (.int p2), .val (.int p3), .val (.int p4), .val (.int (p2 &&& (3 : Int32))), .val (.int (own_hl p2)), .val (.int (own_n0 p0)), .val (.int (own_n1 p0)), .val (.int (own_n2 p0)), .val (.int x0), .val (.int x1), .val (.int x2), .val (.int an), .val (.int pt), .val (.int hp), .val (.ref b1), .val (.int (f10 b5_r hp b2_r (own_str (p2 &&& (3 : Int32)) (own_n0 p0) (own_n1 p0) (own_n2 p0)) (own_str (own_hl p2) x0 x1 x2) pt)), .val (.int (0 : Int32)), .unset, .unset] [])) t
            refine XS.iconst X6.here hx rfl (hb hby at_274) ?_
            refine XS.istore X6.here hx rfl (hb hby at_275) rfl (l' := #[.val (.int p0), .val (.int p1), .val (.int p2), .val (.int p3), .val (.int p4), .val (.int (p2 &&& (3 : Int32))), .val (.int (own_hl p2)), .val (.int (own_n0 p0)), .val (.int (own_n1 p0)), .val (.int (own_n2 p0)), .val (.int x0), .val (.int x1), .val (.int x2), .val (.int an), .val (.int pt), .val (.int hp), .val (.ref b1), .val (.int (f10 b5_r hp b2_r (own_str (p2 &&& (3 : Int32)) (own_n0 p0) (own_n1 p0) (own_n2 p0)) (own_str (own_hl p2) x0 x1 x2) pt)), .val (.int (0 : Int32)), .val (.int (0 : Int32)), .unset]) rfl ?_
            refine XS.iload X6.here hx rfl (hb hby at_277) rfl ?_
            refine XS.ifYes X6.here hx rfl (pc0 := 279) (pc' := 291) rfl (hb hby at_279) rfl ((if0 _ _).trans (teq (by decide : (0 : Int32) = (0 : Int32))).1) (by decide) (by decide) ?_
            refine XS.iconst X6.here hx rfl (hb hby at_291) ?_
            refine XS.istore X6.here hx rfl (hb hby at_292) rfl (l' := #[.val (.int p0), .val (.int p1), .val (.int p2), .val (.int p3), .val (.int p4), .val (.int (p2 &&& (3 : Int32))), .val (.int (own_hl p2)), .val (.int (own_n0 p0)), .val (.int (own_n1 p0)), .val (.int (own_n2 p0)), .val (.int x0), .val (.int x1), .val (.int x2), .val (.int an), .val (.int pt), .val (.int hp), .val (.ref b1), .val (.int (f10 b5_r hp b2_r (own_str (p2 &&& (3 : Int32)) (own_n0 p0) (own_n1 p0) (own_n2 p0)) (own_str (own_hl p2) x0 x1 x2) pt)), .val (.int (0 : Int32)), .val (.int (0 : Int32)), .val (.int (0 : Int32))]) rfl ?_
            refine XS.iload X6.here hx rfl (hb hby at_294) rfl ?_
            refine XS.iload X6.here hx rfl (hb hby at_296) rfl ?_
            refine XS.icmpNo X6.here hx rfl (hb hby at_298) rfl (teq ((own_fin _ _ (Nat.ne_of_lt (Nat.lt_of_lt_of_le (P2_0.keep K4).lt szo_b5_r)) _ _ _ _ _ _ _ _ _ _ _ (own_nl _) (own_nl _) (own_rn0 _) (own_rn1 _) (own_rn2 _) hx0 hx1 hx2 hap).2 (fun q => hc209 q.1.1))).2 ?_
            refine XS.iconst X6.here hx rfl (hb hby at_301) ?_
            refine XS.goto X6.here hx rfl (pc0 := 302) (pc' := 306) rfl (hb hby at_302) (by decide) (by decide) ?_
            exact kt
          refine OGW.retZ X6 hx hlk hS hk hZ hEL CR e6 (t := .boolean) (z' := (1 : Int32)) hret (by simp) (hb hby at_306) rfl ?_ (by decide) (by decide)
          show Q0 Z p0 p1 p2 p3 p4 w_COMPACT_STRINGS h0 n0 _ T6.heap _
          rw [e6]
          exact ⟨rfl, N6, KC5⟩
      · refine OGW.step (F' := T6.setTop (mkF m 270 #[.val (.int p0), .val (.int p1), .val (.int p2), .val (.int p3), .val (.int p4), .val (.int (p2 &&& (3 : Int32))), .val (.int (own_hl p2)), .val (.int (own_n0 p0)), .val (.int (own_n1 p0)), .val (.int (own_n2 p0)), .val (.int x0), .val (.int x1), .val (.int x2), .val (.int an), .val (.int pt), .val (.int hp), .val (.ref b1), .val (.int (f10 b5_r hp b2_r (own_str (p2 &&& (3 : Int32)) (own_n0 p0) (own_n1 p0) (own_n2 p0)) (own_str (own_hl p2) x0 x1 x2) pt)), .val (.int (0 : Int32)), .unset, .unset] [])) (fun t kt => ?_) ?_
        · show Steps p.tables e below (T6.setTop (mkF m 260 #[.val (.int p0), .val (.int p1), .val (.int p2), .val (.int p3), .val (.int p4), .val (.int (p2 &&& (3 : Int32))), .val (.int (own_hl p2)), .val (.int (own_n0 p0)), .val (.int (own_n1 p0)), .val (.int (own_n2 p0)), .val (.int x0), .val (.int x1), .val (.int x2), .val (.int an), .val (.int pt), .val (.int hp), .val (.ref b1), .val (.int (f10 b5_r hp b2_r (own_str (p2 &&& (3 : Int32)) (own_n0 p0) (own_n1 p0) (own_n2 p0)) (own_str (own_hl p2) x0 x1 x2) pt)), .val (.int (0 : Int32)), .unset, .unset] [(.int an)])) t
          refine XS.ifYes X6.here hx rfl (pc0 := 260) (pc' := 270) rfl (hb hby at_260) rfl ((if0 _ _).trans (feq hc260).2) (by decide) (by decide) ?_
          exact kt
        refine OGW.step (F' := T6.setTop (mkF m 306 #[.val (.int p0), .val (.int p1), .val (.int p2), .val (.int p3), .val (.int p4), .val (.int (p2 &&& (3 : Int32))), .val (.int (own_hl p2)), .val (.int (own_n0 p0)), .val (.int (own_n1 p0)), .val (.int (own_n2 p0)), .val (.int x0), .val (.int x1), .val (.int x2), .val (.int an), .val (.int pt), .val (.int hp), .val (.ref b1), .val (.int (f10 b5_r hp b2_r (own_str (p2 &&& (3 : Int32)) (own_n0 p0) (own_n1 p0) (own_n2 p0)) (own_str (own_hl p2) x0 x1 x2) pt)), .val (.int (0 : Int32)), .val (.int (1 : Int32)), .val (.int (0 : Int32))] [(.int (1 : Int32))])) (fun t kt => ?_) ?_
        · show Steps p.tables e below (T6.setTop (mkF m 270 #[.val (.int p0), .val (.int p1), .val (.int p2), .val (.int p3), .val (.int p4), .val (.int (p2 &&& (3 : Int32))), .val (.int (own_hl p2)), .val (.int (own_n0 p0)), .val (.int (own_n1 p0)), .val (.int (own_n2 p0)), .val (.int x0), .val (.int x1), .val (.int x2), .val (.int an), .val (.int pt), .val (.int hp), .val (.ref b1), .val (.int (f10 b5_r hp b2_r (own_str (p2 &&& (3 : Int32)) (own_n0 p0) (own_n1 p0) (own_n2 p0)) (own_str (own_hl p2) x0 x1 x2) pt)), .val (.int (0 : Int32)), .unset, .unset] [])) t
          refine XS.iconst X6.here hx rfl (hb hby at_270) ?_
          refine XS.goto X6.here hx rfl (pc0 := 271) (pc' := 275) rfl (hb hby at_271) (by decide) (by decide) ?_
          refine XS.istore X6.here hx rfl (hb hby at_275) rfl (l' := #[.val (.int p0), .val (.int p1), .val (.int p2), .val (.int p3), .val (.int p4), .val (.int (p2 &&& (3 : Int32))), .val (.int (own_hl p2)), .val (.int (own_n0 p0)), .val (.int (own_n1 p0)), .val (.int (own_n2 p0)), .val (.int x0), .val (.int x1), .val (.int x2), .val (.int an), .val (.int pt), .val (.int hp), .val (.ref b1), .val (.int (f10 b5_r hp b2_r (own_str (p2 &&& (3 : Int32)) (own_n0 p0) (own_n1 p0) (own_n2 p0)) (own_str (own_hl p2) x0 x1 x2) pt)), .val (.int (0 : Int32)), .val (.int (1 : Int32)), .unset]) rfl ?_
          refine XS.iload X6.here hx rfl (hb hby at_277) rfl ?_
          refine XS.ifYes X6.here hx rfl (pc0 := 279) (pc' := 291) rfl (hb hby at_279) rfl ((if0 _ _).trans (teq (by decide : (0 : Int32) = (0 : Int32))).1) (by decide) (by decide) ?_
          refine XS.iconst X6.here hx rfl (hb hby at_291) ?_
          refine XS.istore X6.here hx rfl (hb hby at_292) rfl (l' := #[.val (.int p0), .val (.int p1), .val (.int p2), .val (.int p3), .val (.int p4), .val (.int (p2 &&& (3 : Int32))), .val (.int (own_hl p2)), .val (.int (own_n0 p0)), .val (.int (own_n1 p0)), .val (.int (own_n2 p0)), .val (.int x0), .val (.int x1), .val (.int x2), .val (.int an), .val (.int pt), .val (.int hp), .val (.ref b1), .val (.int (f10 b5_r hp b2_r (own_str (p2 &&& (3 : Int32)) (own_n0 p0) (own_n1 p0) (own_n2 p0)) (own_str (own_hl p2) x0 x1 x2) pt)), .val (.int (0 : Int32)), .val (.int (1 : Int32)), .val (.int (0 : Int32))]) rfl ?_
          refine XS.iload X6.here hx rfl (hb hby at_294) rfl ?_
          refine XS.iload X6.here hx rfl (hb hby at_296) rfl ?_
          refine XS.icmpNo X6.here hx rfl (hb hby at_298) rfl (teq ((own_fin _ _ (Nat.ne_of_lt (Nat.lt_of_lt_of_le (P2_0.keep K4).lt szo_b5_r)) _ _ _ _ _ _ _ _ _ _ _ (own_nl _) (own_nl _) (own_rn0 _) (own_rn1 _) (own_rn2 _) hx0 hx1 hx2 hap).2 (fun q => hc209 q.1.1))).2 ?_
          refine XS.iconst X6.here hx rfl (hb hby at_301) ?_
          refine XS.goto X6.here hx rfl (pc0 := 302) (pc' := 306) rfl (hb hby at_302) (by decide) (by decide) ?_
          exact kt
        refine OGW.retZ X6 hx hlk hS hk hZ hEL CR e6 (t := .boolean) (z' := (1 : Int32)) hret (by simp) (hb hby at_306) rfl ?_ (by decide) (by decide)
        show Q0 Z p0 p1 p2 p3 p4 w_COMPACT_STRINGS h0 n0 _ T6.heap _
        rw [e6]
        exact ⟨rfl, N6, KC5⟩
  refine OGW.step (F' := s₁.setTop (mkF m 47 #[.val (.int p0), .val (.int p1), .val (.int p2), .val (.int p3), .val (.int p4), .val (.int (p2 &&& (3 : Int32))), .val (.int (own_hl p2)), .val (.int (own_n0 p0)), .val (.int (own_n1 p0)), .val (.int (own_n2 p0)), .unset, .unset, .unset, .unset, .unset, .unset, .unset, .unset, .unset, .unset, .unset] [(.int (((p2.toUInt32 >>> ((4 : Int32) &&& 31).toUInt32).toInt32) &&& (1 : Int32)))])) (fun t kt => ?_) ?_
  · show Steps p.tables e below (s₁.setTop (mkF m 0 #[.val (.int p0), .val (.int p1), .val (.int p2), .val (.int p3), .val (.int p4), .unset, .unset, .unset, .unset, .unset, .unset, .unset, .unset, .unset, .unset, .unset, .unset, .unset, .unset, .unset, .unset] [])) t
    refine XS.iloadN X0.here hx rfl (hb hby at_0) rfl ?_
    refine XS.iconst X0.here hx rfl (hb hby at_1) ?_
    refine XS.iand X0.here hx rfl (hb hby at_2) rfl ?_
    refine XS.istore X0.here hx rfl (hb hby at_3) rfl (l' := #[.val (.int p0), .val (.int p1), .val (.int p2), .val (.int p3), .val (.int p4), .val (.int (p2 &&& (3 : Int32))), .unset, .unset, .unset, .unset, .unset, .unset, .unset, .unset, .unset, .unset, .unset, .unset, .unset, .unset, .unset]) rfl ?_
    refine XS.iloadN X0.here hx rfl (hb hby at_5) rfl ?_
    refine XS.iconst X0.here hx rfl (hb hby at_6) ?_
    refine XS.iushr X0.here hx rfl (hb hby at_7) rfl ?_
    refine XS.iconst X0.here hx rfl (hb hby at_8) ?_
    refine XS.iand X0.here hx rfl (hb hby at_9) rfl ?_
    refine XS.istore X0.here hx rfl (hb hby at_10) rfl (l' := #[.val (.int p0), .val (.int p1), .val (.int p2), .val (.int p3), .val (.int p4), .val (.int (p2 &&& (3 : Int32))), .val (.int (own_hl p2)), .unset, .unset, .unset, .unset, .unset, .unset, .unset, .unset, .unset, .unset, .unset, .unset, .unset, .unset]) rfl ?_
    refine XS.iloadN X0.here hx rfl (hb hby at_12) rfl ?_
    refine XS.sipush X0.here hx rfl (hb hby at_13) ?_
    refine XS.iand X0.here hx rfl (hb hby at_16) rfl ?_
    refine XS.i2c X0.here hx rfl (hb hby at_17) rfl ?_
    refine XS.istore X0.here hx rfl (hb hby at_18) rfl (l' := #[.val (.int p0), .val (.int p1), .val (.int p2), .val (.int p3), .val (.int p4), .val (.int (p2 &&& (3 : Int32))), .val (.int (own_hl p2)), .val (.int (own_n0 p0)), .unset, .unset, .unset, .unset, .unset, .unset, .unset, .unset, .unset, .unset, .unset, .unset, .unset]) rfl ?_
    refine XS.iloadN X0.here hx rfl (hb hby at_20) rfl ?_
    refine XS.bipush X0.here hx rfl (hb hby at_21) ?_
    refine XS.iushr X0.here hx rfl (hb hby at_23) rfl ?_
    refine XS.sipush X0.here hx rfl (hb hby at_24) ?_
    refine XS.iand X0.here hx rfl (hb hby at_27) rfl ?_
    refine XS.i2c X0.here hx rfl (hb hby at_28) rfl ?_
    refine XS.istore X0.here hx rfl (hb hby at_29) rfl (l' := #[.val (.int p0), .val (.int p1), .val (.int p2), .val (.int p3), .val (.int p4), .val (.int (p2 &&& (3 : Int32))), .val (.int (own_hl p2)), .val (.int (own_n0 p0)), .val (.int (own_n1 p0)), .unset, .unset, .unset, .unset, .unset, .unset, .unset, .unset, .unset, .unset, .unset, .unset]) rfl ?_
    refine XS.iloadN X0.here hx rfl (hb hby at_31) rfl ?_
    refine XS.bipush X0.here hx rfl (hb hby at_32) ?_
    refine XS.iushr X0.here hx rfl (hb hby at_34) rfl ?_
    refine XS.sipush X0.here hx rfl (hb hby at_35) ?_
    refine XS.iand X0.here hx rfl (hb hby at_38) rfl ?_
    refine XS.i2c X0.here hx rfl (hb hby at_39) rfl ?_
    refine XS.istore X0.here hx rfl (hb hby at_40) rfl (l' := #[.val (.int p0), .val (.int p1), .val (.int p2), .val (.int p3), .val (.int p4), .val (.int (p2 &&& (3 : Int32))), .val (.int (own_hl p2)), .val (.int (own_n0 p0)), .val (.int (own_n1 p0)), .val (.int (own_n2 p0)), .unset, .unset, .unset, .unset, .unset, .unset, .unset, .unset, .unset, .unset, .unset]) rfl ?_
    refine XS.iloadN X0.here hx rfl (hb hby at_42) rfl ?_
    refine XS.iconst X0.here hx rfl (hb hby at_43) ?_
    refine XS.iushr X0.here hx rfl (hb hby at_44) rfl ?_
    refine XS.iconst X0.here hx rfl (hb hby at_45) ?_
    refine XS.iand X0.here hx rfl (hb hby at_46) rfl ?_
    exact kt
  by_cases hc47 : (((p2.toUInt32 >>> ((4 : Int32) &&& 31).toUInt32).toInt32) &&& (1 : Int32)) = (0 : Int32)
  · refine OGW.step (F' := s₁.setTop (mkF m 55 #[.val (.int p0), .val (.int p1), .val (.int p2), .val (.int p3), .val (.int p4), .val (.int (p2 &&& (3 : Int32))), .val (.int (own_hl p2)), .val (.int (own_n0 p0)), .val (.int (own_n1 p0)), .val (.int (own_n2 p0)), .unset, .unset, .unset, .unset, .unset, .unset, .unset, .unset, .unset, .unset, .unset] [])) (fun t kt => ?_) ?_
    · show Steps p.tables e below (s₁.setTop (mkF m 47 #[.val (.int p0), .val (.int p1), .val (.int p2), .val (.int p3), .val (.int p4), .val (.int (p2 &&& (3 : Int32))), .val (.int (own_hl p2)), .val (.int (own_n0 p0)), .val (.int (own_n1 p0)), .val (.int (own_n2 p0)), .unset, .unset, .unset, .unset, .unset, .unset, .unset, .unset, .unset, .unset, .unset] [(.int (((p2.toUInt32 >>> ((4 : Int32) &&& 31).toUInt32).toInt32) &&& (1 : Int32)))])) t
      refine XS.ifYes X0.here hx rfl (pc0 := 47) (pc' := 55) rfl (hb hby at_47) rfl ((if0 _ _).trans (teq hc47).1) (by decide) (by decide) ?_
      exact kt
    refine OGW.step (F' := s₁.setTop (mkF m 68 #[.val (.int p0), .val (.int p1), .val (.int p2), .val (.int p3), .val (.int p4), .val (.int (p2 &&& (3 : Int32))), .val (.int (own_hl p2)), .val (.int (own_n0 p0)), .val (.int (own_n1 p0)), .val (.int (own_n2 p0)), .val (.int (own_b0 p1)), .unset, .unset, .unset, .unset, .unset, .unset, .unset, .unset, .unset, .unset] [(.int (((p2.toUInt32 >>> ((5 : Int32) &&& 31).toUInt32).toInt32) &&& (1 : Int32)))])) (fun t kt => ?_) ?_
    · show Steps p.tables e below (s₁.setTop (mkF m 55 #[.val (.int p0), .val (.int p1), .val (.int p2), .val (.int p3), .val (.int p4), .val (.int (p2 &&& (3 : Int32))), .val (.int (own_hl p2)), .val (.int (own_n0 p0)), .val (.int (own_n1 p0)), .val (.int (own_n2 p0)), .unset, .unset, .unset, .unset, .unset, .unset, .unset, .unset, .unset, .unset, .unset] [])) t
      refine XS.iloadN X0.here hx rfl (hb hby at_55) rfl ?_
      refine XS.sipush X0.here hx rfl (hb hby at_56) ?_
      refine XS.iand X0.here hx rfl (hb hby at_59) rfl ?_
      refine XS.i2c X0.here hx rfl (hb hby at_60) rfl ?_
      refine XS.istore X0.here hx rfl (hb hby at_61) rfl (l' := #[.val (.int p0), .val (.int p1), .val (.int p2), .val (.int p3), .val (.int p4), .val (.int (p2 &&& (3 : Int32))), .val (.int (own_hl p2)), .val (.int (own_n0 p0)), .val (.int (own_n1 p0)), .val (.int (own_n2 p0)), .val (.int (own_b0 p1)), .unset, .unset, .unset, .unset, .unset, .unset, .unset, .unset, .unset, .unset]) rfl ?_
      refine XS.iloadN X0.here hx rfl (hb hby at_63) rfl ?_
      refine XS.iconst X0.here hx rfl (hb hby at_64) ?_
      refine XS.iushr X0.here hx rfl (hb hby at_65) rfl ?_
      refine XS.iconst X0.here hx rfl (hb hby at_66) ?_
      refine XS.iand X0.here hx rfl (hb hby at_67) rfl ?_
      exact kt
    by_cases hc68 : (((p2.toUInt32 >>> ((5 : Int32) &&& 31).toUInt32).toInt32) &&& (1 : Int32)) = (0 : Int32)
    · refine OGW.step (F' := s₁.setTop (mkF m 76 #[.val (.int p0), .val (.int p1), .val (.int p2), .val (.int p3), .val (.int p4), .val (.int (p2 &&& (3 : Int32))), .val (.int (own_hl p2)), .val (.int (own_n0 p0)), .val (.int (own_n1 p0)), .val (.int (own_n2 p0)), .val (.int (own_b0 p1)), .unset, .unset, .unset, .unset, .unset, .unset, .unset, .unset, .unset, .unset] [])) (fun t kt => ?_) ?_
      · show Steps p.tables e below (s₁.setTop (mkF m 68 #[.val (.int p0), .val (.int p1), .val (.int p2), .val (.int p3), .val (.int p4), .val (.int (p2 &&& (3 : Int32))), .val (.int (own_hl p2)), .val (.int (own_n0 p0)), .val (.int (own_n1 p0)), .val (.int (own_n2 p0)), .val (.int (own_b0 p1)), .unset, .unset, .unset, .unset, .unset, .unset, .unset, .unset, .unset, .unset] [(.int (((p2.toUInt32 >>> ((5 : Int32) &&& 31).toUInt32).toInt32) &&& (1 : Int32)))])) t
        refine XS.ifYes X0.here hx rfl (pc0 := 68) (pc' := 76) rfl (hb hby at_68) rfl ((if0 _ _).trans (teq hc68).1) (by decide) (by decide) ?_
        exact kt
      refine OGW.step (F' := s₁.setTop (mkF m 93 #[.val (.int p0), .val (.int p1), .val (.int p2), .val (.int p3), .val (.int p4), .val (.int (p2 &&& (3 : Int32))), .val (.int (own_hl p2)), .val (.int (own_n0 p0)), .val (.int (own_n1 p0)), .val (.int (own_n2 p0)), .val (.int (own_b0 p1)), .val (.int (own_b1 p1)), .unset, .unset, .unset, .unset, .unset, .unset, .unset, .unset, .unset] [(.int (((p2.toUInt32 >>> ((6 : Int32) &&& 31).toUInt32).toInt32) &&& (1 : Int32)))])) (fun t kt => ?_) ?_
      · show Steps p.tables e below (s₁.setTop (mkF m 76 #[.val (.int p0), .val (.int p1), .val (.int p2), .val (.int p3), .val (.int p4), .val (.int (p2 &&& (3 : Int32))), .val (.int (own_hl p2)), .val (.int (own_n0 p0)), .val (.int (own_n1 p0)), .val (.int (own_n2 p0)), .val (.int (own_b0 p1)), .unset, .unset, .unset, .unset, .unset, .unset, .unset, .unset, .unset, .unset] [])) t
        refine XS.iloadN X0.here hx rfl (hb hby at_76) rfl ?_
        refine XS.bipush X0.here hx rfl (hb hby at_77) ?_
        refine XS.iushr X0.here hx rfl (hb hby at_79) rfl ?_
        refine XS.sipush X0.here hx rfl (hb hby at_80) ?_
        refine XS.iand X0.here hx rfl (hb hby at_83) rfl ?_
        refine XS.i2c X0.here hx rfl (hb hby at_84) rfl ?_
        refine XS.istore X0.here hx rfl (hb hby at_85) rfl (l' := #[.val (.int p0), .val (.int p1), .val (.int p2), .val (.int p3), .val (.int p4), .val (.int (p2 &&& (3 : Int32))), .val (.int (own_hl p2)), .val (.int (own_n0 p0)), .val (.int (own_n1 p0)), .val (.int (own_n2 p0)), .val (.int (own_b0 p1)), .val (.int (own_b1 p1)), .unset, .unset, .unset, .unset, .unset, .unset, .unset, .unset, .unset]) rfl ?_
        refine XS.iloadN X0.here hx rfl (hb hby at_87) rfl ?_
        refine XS.bipush X0.here hx rfl (hb hby at_88) ?_
        refine XS.iushr X0.here hx rfl (hb hby at_90) rfl ?_
        refine XS.iconst X0.here hx rfl (hb hby at_91) ?_
        refine XS.iand X0.here hx rfl (hb hby at_92) rfl ?_
        exact kt
      by_cases hc93 : (((p2.toUInt32 >>> ((6 : Int32) &&& 31).toUInt32).toInt32) &&& (1 : Int32)) = (0 : Int32)
      · refine OGW.step (F' := s₁.setTop (mkF m 101 #[.val (.int p0), .val (.int p1), .val (.int p2), .val (.int p3), .val (.int p4), .val (.int (p2 &&& (3 : Int32))), .val (.int (own_hl p2)), .val (.int (own_n0 p0)), .val (.int (own_n1 p0)), .val (.int (own_n2 p0)), .val (.int (own_b0 p1)), .val (.int (own_b1 p1)), .unset, .unset, .unset, .unset, .unset, .unset, .unset, .unset, .unset] [])) (fun t kt => ?_) ?_
        · show Steps p.tables e below (s₁.setTop (mkF m 93 #[.val (.int p0), .val (.int p1), .val (.int p2), .val (.int p3), .val (.int p4), .val (.int (p2 &&& (3 : Int32))), .val (.int (own_hl p2)), .val (.int (own_n0 p0)), .val (.int (own_n1 p0)), .val (.int (own_n2 p0)), .val (.int (own_b0 p1)), .val (.int (own_b1 p1)), .unset, .unset, .unset, .unset, .unset, .unset, .unset, .unset, .unset] [(.int (((p2.toUInt32 >>> ((6 : Int32) &&& 31).toUInt32).toInt32) &&& (1 : Int32)))])) t
          refine XS.ifYes X0.here hx rfl (pc0 := 93) (pc' := 101) rfl (hb hby at_93) rfl ((if0 _ _).trans (teq hc93).1) (by decide) (by decide) ?_
          exact kt
        refine OGW.step (F' := s₁.setTop (mkF m 118 #[.val (.int p0), .val (.int p1), .val (.int p2), .val (.int p3), .val (.int p4), .val (.int (p2 &&& (3 : Int32))), .val (.int (own_hl p2)), .val (.int (own_n0 p0)), .val (.int (own_n1 p0)), .val (.int (own_n2 p0)), .val (.int (own_b0 p1)), .val (.int (own_b1 p1)), .val (.int (own_b2 p1)), .unset, .unset, .unset, .unset, .unset, .unset, .unset, .unset] [(.int (((p2.toUInt32 >>> ((7 : Int32) &&& 31).toUInt32).toInt32) &&& (1 : Int32)))])) (fun t kt => ?_) ?_
        · show Steps p.tables e below (s₁.setTop (mkF m 101 #[.val (.int p0), .val (.int p1), .val (.int p2), .val (.int p3), .val (.int p4), .val (.int (p2 &&& (3 : Int32))), .val (.int (own_hl p2)), .val (.int (own_n0 p0)), .val (.int (own_n1 p0)), .val (.int (own_n2 p0)), .val (.int (own_b0 p1)), .val (.int (own_b1 p1)), .unset, .unset, .unset, .unset, .unset, .unset, .unset, .unset, .unset] [])) t
          refine XS.iloadN X0.here hx rfl (hb hby at_101) rfl ?_
          refine XS.bipush X0.here hx rfl (hb hby at_102) ?_
          refine XS.iushr X0.here hx rfl (hb hby at_104) rfl ?_
          refine XS.sipush X0.here hx rfl (hb hby at_105) ?_
          refine XS.iand X0.here hx rfl (hb hby at_108) rfl ?_
          refine XS.i2c X0.here hx rfl (hb hby at_109) rfl ?_
          refine XS.istore X0.here hx rfl (hb hby at_110) rfl (l' := #[.val (.int p0), .val (.int p1), .val (.int p2), .val (.int p3), .val (.int p4), .val (.int (p2 &&& (3 : Int32))), .val (.int (own_hl p2)), .val (.int (own_n0 p0)), .val (.int (own_n1 p0)), .val (.int (own_n2 p0)), .val (.int (own_b0 p1)), .val (.int (own_b1 p1)), .val (.int (own_b2 p1)), .unset, .unset, .unset, .unset, .unset, .unset, .unset, .unset]) rfl ?_
          refine XS.iloadN X0.here hx rfl (hb hby at_112) rfl ?_
          refine XS.bipush X0.here hx rfl (hb hby at_113) ?_
          refine XS.iushr X0.here hx rfl (hb hby at_115) rfl ?_
          refine XS.iconst X0.here hx rfl (hb hby at_116) ?_
          refine XS.iand X0.here hx rfl (hb hby at_117) rfl ?_
          exact kt
        by_cases hc118 : (((p2.toUInt32 >>> ((7 : Int32) &&& 31).toUInt32).toInt32) &&& (1 : Int32)) = (0 : Int32)
        · refine OGW.step (F' := s₁.setTop (mkF m 125 #[.val (.int p0), .val (.int p1), .val (.int p2), .val (.int p3), .val (.int p4), .val (.int (p2 &&& (3 : Int32))), .val (.int (own_hl p2)), .val (.int (own_n0 p0)), .val (.int (own_n1 p0)), .val (.int (own_n2 p0)), .val (.int (own_b0 p1)), .val (.int (own_b1 p1)), .val (.int (own_b2 p1)), .unset, .unset, .unset, .unset, .unset, .unset, .unset, .unset] [])) (fun t kt => ?_) ?_
          · show Steps p.tables e below (s₁.setTop (mkF m 118 #[.val (.int p0), .val (.int p1), .val (.int p2), .val (.int p3), .val (.int p4), .val (.int (p2 &&& (3 : Int32))), .val (.int (own_hl p2)), .val (.int (own_n0 p0)), .val (.int (own_n1 p0)), .val (.int (own_n2 p0)), .val (.int (own_b0 p1)), .val (.int (own_b1 p1)), .val (.int (own_b2 p1)), .unset, .unset, .unset, .unset, .unset, .unset, .unset, .unset] [(.int (((p2.toUInt32 >>> ((7 : Int32) &&& 31).toUInt32).toInt32) &&& (1 : Int32)))])) t
            refine XS.ifYes X0.here hx rfl (pc0 := 118) (pc' := 125) rfl (hb hby at_118) rfl ((if0 _ _).trans (teq hc118).1) (by decide) (by decide) ?_
            exact kt
          refine OGW.step (F' := s₁.setTop (mkF m 149 #[.val (.int p0), .val (.int p1), .val (.int p2), .val (.int p3), .val (.int p4), .val (.int (p2 &&& (3 : Int32))), .val (.int (own_hl p2)), .val (.int (own_n0 p0)), .val (.int (own_n1 p0)), .val (.int (own_n2 p0)), .val (.int (own_b0 p1)), .val (.int (own_b1 p1)), .val (.int (own_b2 p1)), .val (.int (0 : Int32)), .val (.int (p3 &&& (2147483647 : Int32))), .unset, .unset, .unset, .unset, .unset, .unset] [(.int (((p2.toUInt32 >>> ((8 : Int32) &&& 31).toUInt32).toInt32) &&& (1 : Int32)))])) (fun t kt => ?_) ?_
          · show Steps p.tables e below (s₁.setTop (mkF m 125 #[.val (.int p0), .val (.int p1), .val (.int p2), .val (.int p3), .val (.int p4), .val (.int (p2 &&& (3 : Int32))), .val (.int (own_hl p2)), .val (.int (own_n0 p0)), .val (.int (own_n1 p0)), .val (.int (own_n2 p0)), .val (.int (own_b0 p1)), .val (.int (own_b1 p1)), .val (.int (own_b2 p1)), .unset, .unset, .unset, .unset, .unset, .unset, .unset, .unset] [])) t
            refine XS.iconst X0.here hx rfl (hb hby at_125) ?_
            refine XS.istore X0.here hx rfl (hb hby at_126) rfl (l' := #[.val (.int p0), .val (.int p1), .val (.int p2), .val (.int p3), .val (.int p4), .val (.int (p2 &&& (3 : Int32))), .val (.int (own_hl p2)), .val (.int (own_n0 p0)), .val (.int (own_n1 p0)), .val (.int (own_n2 p0)), .val (.int (own_b0 p1)), .val (.int (own_b1 p1)), .val (.int (own_b2 p1)), .val (.int (0 : Int32)), .unset, .unset, .unset, .unset, .unset, .unset, .unset]) rfl ?_
            refine XS.iload X0.here hx rfl (hb hby at_128) rfl ?_
            refine XS.ifYes X0.here hx rfl (pc0 := 130) (pc' := 137) rfl (hb hby at_130) rfl ((if0 _ _).trans (teq (by decide : (0 : Int32) = (0 : Int32))).1) (by decide) (by decide) ?_
            refine XS.iloadN X0.here hx rfl (hb hby at_137) rfl ?_
            refine X0.ldcInt hx hown (mvT hZ (own_wd hw 0 rfl)) (g := (mkF m 138 #[.val (.int p0), .val (.int p1), .val (.int p2), .val (.int p3), .val (.int p4), .val (.int (p2 &&& (3 : Int32))), .val (.int (own_hl p2)), .val (.int (own_n0 p0)), .val (.int (own_n1 p0)), .val (.int (own_n2 p0)), .val (.int (own_b0 p1)), .val (.int (own_b1 p1)), .val (.int (own_b2 p1)), .val (.int (0 : Int32)), .unset, .unset, .unset, .unset, .unset, .unset, .unset] [(.int p3)])) rfl (hb hby at_138) _ ?_
            refine XS.iand X0.here hx rfl (hb hby at_140) rfl ?_
            refine XS.istore X0.here hx rfl (hb hby at_141) rfl (l' := #[.val (.int p0), .val (.int p1), .val (.int p2), .val (.int p3), .val (.int p4), .val (.int (p2 &&& (3 : Int32))), .val (.int (own_hl p2)), .val (.int (own_n0 p0)), .val (.int (own_n1 p0)), .val (.int (own_n2 p0)), .val (.int (own_b0 p1)), .val (.int (own_b1 p1)), .val (.int (own_b2 p1)), .val (.int (0 : Int32)), .val (.int (p3 &&& (2147483647 : Int32))), .unset, .unset, .unset, .unset, .unset, .unset]) rfl ?_
            refine XS.iloadN X0.here hx rfl (hb hby at_143) rfl ?_
            refine XS.bipush X0.here hx rfl (hb hby at_144) ?_
            refine XS.iushr X0.here hx rfl (hb hby at_146) rfl ?_
            refine XS.iconst X0.here hx rfl (hb hby at_147) ?_
            refine XS.iand X0.here hx rfl (hb hby at_148) rfl ?_
            exact kt
          by_cases hc149 : (((p2.toUInt32 >>> ((8 : Int32) &&& 31).toUInt32).toInt32) &&& (1 : Int32)) = (0 : Int32)
          · refine OGW.step (F' := s₁.setTop (mkF m 159 #[.val (.int p0), .val (.int p1), .val (.int p2), .val (.int p3), .val (.int p4), .val (.int (p2 &&& (3 : Int32))), .val (.int (own_hl p2)), .val (.int (own_n0 p0)), .val (.int (own_n1 p0)), .val (.int (own_n2 p0)), .val (.int (own_b0 p1)), .val (.int (own_b1 p1)), .val (.int (own_b2 p1)), .val (.int (0 : Int32)), .val (.int (p3 &&& (2147483647 : Int32))), .unset, .unset, .unset, .unset, .unset, .unset] [])) (fun t kt => ?_) ?_
            · show Steps p.tables e below (s₁.setTop (mkF m 149 #[.val (.int p0), .val (.int p1), .val (.int p2), .val (.int p3), .val (.int p4), .val (.int (p2 &&& (3 : Int32))), .val (.int (own_hl p2)), .val (.int (own_n0 p0)), .val (.int (own_n1 p0)), .val (.int (own_n2 p0)), .val (.int (own_b0 p1)), .val (.int (own_b1 p1)), .val (.int (own_b2 p1)), .val (.int (0 : Int32)), .val (.int (p3 &&& (2147483647 : Int32))), .unset, .unset, .unset, .unset, .unset, .unset] [(.int (((p2.toUInt32 >>> ((8 : Int32) &&& 31).toUInt32).toInt32) &&& (1 : Int32)))])) t
              refine XS.ifYes X0.here hx rfl (pc0 := 149) (pc' := 159) rfl (hb hby at_149) rfl ((if0 _ _).trans (teq hc149).1) (by decide) (by decide) ?_
              exact kt
            refine OGW.step (F' := s₁.setTop (mkF m 163 #[.val (.int p0), .val (.int p1), .val (.int p2), .val (.int p3), .val (.int p4), .val (.int (p2 &&& (3 : Int32))), .val (.int (own_hl p2)), .val (.int (own_n0 p0)), .val (.int (own_n1 p0)), .val (.int (own_n2 p0)), .val (.int (own_b0 p1)), .val (.int (own_b1 p1)), .val (.int (own_b2 p1)), .val (.int (0 : Int32)), .val (.int (p3 &&& (2147483647 : Int32))), .val (.int p4), .unset, .unset, .unset, .unset, .unset] [])) (fun t kt => ?_) ?_
            · show Steps p.tables e below (s₁.setTop (mkF m 159 #[.val (.int p0), .val (.int p1), .val (.int p2), .val (.int p3), .val (.int p4), .val (.int (p2 &&& (3 : Int32))), .val (.int (own_hl p2)), .val (.int (own_n0 p0)), .val (.int (own_n1 p0)), .val (.int (own_n2 p0)), .val (.int (own_b0 p1)), .val (.int (own_b1 p1)), .val (.int (own_b2 p1)), .val (.int (0 : Int32)), .val (.int (p3 &&& (2147483647 : Int32))), .unset, .unset, .unset, .unset, .unset, .unset] [])) t
              refine XS.iload X0.here hx rfl (hb hby at_159) rfl ?_
              refine XS.istore X0.here hx rfl (hb hby at_161) rfl (l' := #[.val (.int p0), .val (.int p1), .val (.int p2), .val (.int p3), .val (.int p4), .val (.int (p2 &&& (3 : Int32))), .val (.int (own_hl p2)), .val (.int (own_n0 p0)), .val (.int (own_n1 p0)), .val (.int (own_n2 p0)), .val (.int (own_b0 p1)), .val (.int (own_b1 p1)), .val (.int (own_b2 p1)), .val (.int (0 : Int32)), .val (.int (p3 &&& (2147483647 : Int32))), .val (.int p4), .unset, .unset, .unset, .unset, .unset]) rfl ?_
              exact kt
            exact J _ _ _ _ _ _ (own_rb0 _) (own_rb1 _) (own_rb2 _) (Or.inl ⟨rfl, own_pp _⟩)
          · refine OGW.step (F' := s₁.setTop (mkF m 152 #[.val (.int p0), .val (.int p1), .val (.int p2), .val (.int p3), .val (.int p4), .val (.int (p2 &&& (3 : Int32))), .val (.int (own_hl p2)), .val (.int (own_n0 p0)), .val (.int (own_n1 p0)), .val (.int (own_n2 p0)), .val (.int (own_b0 p1)), .val (.int (own_b1 p1)), .val (.int (own_b2 p1)), .val (.int (0 : Int32)), .val (.int (p3 &&& (2147483647 : Int32))), .unset, .unset, .unset, .unset, .unset, .unset] [])) (fun t kt => ?_) ?_
            · show Steps p.tables e below (s₁.setTop (mkF m 149 #[.val (.int p0), .val (.int p1), .val (.int p2), .val (.int p3), .val (.int p4), .val (.int (p2 &&& (3 : Int32))), .val (.int (own_hl p2)), .val (.int (own_n0 p0)), .val (.int (own_n1 p0)), .val (.int (own_n2 p0)), .val (.int (own_b0 p1)), .val (.int (own_b1 p1)), .val (.int (own_b2 p1)), .val (.int (0 : Int32)), .val (.int (p3 &&& (2147483647 : Int32))), .unset, .unset, .unset, .unset, .unset, .unset] [(.int (((p2.toUInt32 >>> ((8 : Int32) &&& 31).toUInt32).toInt32) &&& (1 : Int32)))])) t
              refine XS.ifNo X0.here hx rfl (hb hby at_149) rfl ((if0 _ _).trans (feq hc149).1) ?_
              exact kt
            refine OGW.step (F' := s₁.setTop (mkF m 163 #[.val (.int p0), .val (.int p1), .val (.int p2), .val (.int p3), .val (.int p4), .val (.int (p2 &&& (3 : Int32))), .val (.int (own_hl p2)), .val (.int (own_n0 p0)), .val (.int (own_n1 p0)), .val (.int (own_n2 p0)), .val (.int (own_b0 p1)), .val (.int (own_b1 p1)), .val (.int (own_b2 p1)), .val (.int (0 : Int32)), .val (.int (p3 &&& (2147483647 : Int32))), .val (.int (p3 &&& (2147483647 : Int32))), .unset, .unset, .unset, .unset, .unset] [])) (fun t kt => ?_) ?_
            · show Steps p.tables e below (s₁.setTop (mkF m 152 #[.val (.int p0), .val (.int p1), .val (.int p2), .val (.int p3), .val (.int p4), .val (.int (p2 &&& (3 : Int32))), .val (.int (own_hl p2)), .val (.int (own_n0 p0)), .val (.int (own_n1 p0)), .val (.int (own_n2 p0)), .val (.int (own_b0 p1)), .val (.int (own_b1 p1)), .val (.int (own_b2 p1)), .val (.int (0 : Int32)), .val (.int (p3 &&& (2147483647 : Int32))), .unset, .unset, .unset, .unset, .unset, .unset] [])) t
              refine XS.iloadN X0.here hx rfl (hb hby at_152) rfl ?_
              refine X0.ldcInt hx hown (mvT hZ (own_wd hw 0 rfl)) (g := (mkF m 153 #[.val (.int p0), .val (.int p1), .val (.int p2), .val (.int p3), .val (.int p4), .val (.int (p2 &&& (3 : Int32))), .val (.int (own_hl p2)), .val (.int (own_n0 p0)), .val (.int (own_n1 p0)), .val (.int (own_n2 p0)), .val (.int (own_b0 p1)), .val (.int (own_b1 p1)), .val (.int (own_b2 p1)), .val (.int (0 : Int32)), .val (.int (p3 &&& (2147483647 : Int32))), .unset, .unset, .unset, .unset, .unset, .unset] [(.int p3)])) rfl (hb hby at_153) _ ?_
              refine XS.iand X0.here hx rfl (hb hby at_155) rfl ?_
              refine XS.goto X0.here hx rfl (pc0 := 156) (pc' := 161) rfl (hb hby at_156) (by decide) (by decide) ?_
              refine XS.istore X0.here hx rfl (hb hby at_161) rfl (l' := #[.val (.int p0), .val (.int p1), .val (.int p2), .val (.int p3), .val (.int p4), .val (.int (p2 &&& (3 : Int32))), .val (.int (own_hl p2)), .val (.int (own_n0 p0)), .val (.int (own_n1 p0)), .val (.int (own_n2 p0)), .val (.int (own_b0 p1)), .val (.int (own_b1 p1)), .val (.int (own_b2 p1)), .val (.int (0 : Int32)), .val (.int (p3 &&& (2147483647 : Int32))), .val (.int (p3 &&& (2147483647 : Int32))), .unset, .unset, .unset, .unset, .unset]) rfl ?_
              exact kt
            exact J _ _ _ _ _ _ (own_rb0 _) (own_rb1 _) (own_rb2 _) (Or.inl ⟨rfl, own_pp _⟩)
        · refine OGW.step (F' := s₁.setTop (mkF m 121 #[.val (.int p0), .val (.int p1), .val (.int p2), .val (.int p3), .val (.int p4), .val (.int (p2 &&& (3 : Int32))), .val (.int (own_hl p2)), .val (.int (own_n0 p0)), .val (.int (own_n1 p0)), .val (.int (own_n2 p0)), .val (.int (own_b0 p1)), .val (.int (own_b1 p1)), .val (.int (own_b2 p1)), .unset, .unset, .unset, .unset, .unset, .unset, .unset, .unset] [])) (fun t kt => ?_) ?_
          · show Steps p.tables e below (s₁.setTop (mkF m 118 #[.val (.int p0), .val (.int p1), .val (.int p2), .val (.int p3), .val (.int p4), .val (.int (p2 &&& (3 : Int32))), .val (.int (own_hl p2)), .val (.int (own_n0 p0)), .val (.int (own_n1 p0)), .val (.int (own_n2 p0)), .val (.int (own_b0 p1)), .val (.int (own_b1 p1)), .val (.int (own_b2 p1)), .unset, .unset, .unset, .unset, .unset, .unset, .unset, .unset] [(.int (((p2.toUInt32 >>> ((7 : Int32) &&& 31).toUInt32).toInt32) &&& (1 : Int32)))])) t
            refine XS.ifNo X0.here hx rfl (hb hby at_118) rfl ((if0 _ _).trans (feq hc118).1) ?_
            exact kt
          refine OGW.step (F' := s₁.setTop (mkF m 149 #[.val (.int p0), .val (.int p1), .val (.int p2), .val (.int p3), .val (.int p4), .val (.int (p2 &&& (3 : Int32))), .val (.int (own_hl p2)), .val (.int (own_n0 p0)), .val (.int (own_n1 p0)), .val (.int (own_n2 p0)), .val (.int (own_b0 p1)), .val (.int (own_b1 p1)), .val (.int (own_b2 p1)), .val (.int (1 : Int32)), .val (.int (-1 : Int32)), .unset, .unset, .unset, .unset, .unset, .unset] [(.int (((p2.toUInt32 >>> ((8 : Int32) &&& 31).toUInt32).toInt32) &&& (1 : Int32)))])) (fun t kt => ?_) ?_
          · show Steps p.tables e below (s₁.setTop (mkF m 121 #[.val (.int p0), .val (.int p1), .val (.int p2), .val (.int p3), .val (.int p4), .val (.int (p2 &&& (3 : Int32))), .val (.int (own_hl p2)), .val (.int (own_n0 p0)), .val (.int (own_n1 p0)), .val (.int (own_n2 p0)), .val (.int (own_b0 p1)), .val (.int (own_b1 p1)), .val (.int (own_b2 p1)), .unset, .unset, .unset, .unset, .unset, .unset, .unset, .unset] [])) t
            refine XS.iconst X0.here hx rfl (hb hby at_121) ?_
            refine XS.goto X0.here hx rfl (pc0 := 122) (pc' := 126) rfl (hb hby at_122) (by decide) (by decide) ?_
            refine XS.istore X0.here hx rfl (hb hby at_126) rfl (l' := #[.val (.int p0), .val (.int p1), .val (.int p2), .val (.int p3), .val (.int p4), .val (.int (p2 &&& (3 : Int32))), .val (.int (own_hl p2)), .val (.int (own_n0 p0)), .val (.int (own_n1 p0)), .val (.int (own_n2 p0)), .val (.int (own_b0 p1)), .val (.int (own_b1 p1)), .val (.int (own_b2 p1)), .val (.int (1 : Int32)), .unset, .unset, .unset, .unset, .unset, .unset, .unset]) rfl ?_
            refine XS.iload X0.here hx rfl (hb hby at_128) rfl ?_
            refine XS.ifNo X0.here hx rfl (hb hby at_130) rfl ((if0 _ _).trans (feq (by decide : ¬ ((1 : Int32) = (0 : Int32)))).1) ?_
            refine XS.iconst X0.here hx rfl (hb hby at_133) ?_
            refine XS.goto X0.here hx rfl (pc0 := 134) (pc' := 141) rfl (hb hby at_134) (by decide) (by decide) ?_
            refine XS.istore X0.here hx rfl (hb hby at_141) rfl (l' := #[.val (.int p0), .val (.int p1), .val (.int p2), .val (.int p3), .val (.int p4), .val (.int (p2 &&& (3 : Int32))), .val (.int (own_hl p2)), .val (.int (own_n0 p0)), .val (.int (own_n1 p0)), .val (.int (own_n2 p0)), .val (.int (own_b0 p1)), .val (.int (own_b1 p1)), .val (.int (own_b2 p1)), .val (.int (1 : Int32)), .val (.int (-1 : Int32)), .unset, .unset, .unset, .unset, .unset, .unset]) rfl ?_
            refine XS.iloadN X0.here hx rfl (hb hby at_143) rfl ?_
            refine XS.bipush X0.here hx rfl (hb hby at_144) ?_
            refine XS.iushr X0.here hx rfl (hb hby at_146) rfl ?_
            refine XS.iconst X0.here hx rfl (hb hby at_147) ?_
            refine XS.iand X0.here hx rfl (hb hby at_148) rfl ?_
            exact kt
          by_cases hc149 : (((p2.toUInt32 >>> ((8 : Int32) &&& 31).toUInt32).toInt32) &&& (1 : Int32)) = (0 : Int32)
          · refine OGW.step (F' := s₁.setTop (mkF m 159 #[.val (.int p0), .val (.int p1), .val (.int p2), .val (.int p3), .val (.int p4), .val (.int (p2 &&& (3 : Int32))), .val (.int (own_hl p2)), .val (.int (own_n0 p0)), .val (.int (own_n1 p0)), .val (.int (own_n2 p0)), .val (.int (own_b0 p1)), .val (.int (own_b1 p1)), .val (.int (own_b2 p1)), .val (.int (1 : Int32)), .val (.int (-1 : Int32)), .unset, .unset, .unset, .unset, .unset, .unset] [])) (fun t kt => ?_) ?_
            · show Steps p.tables e below (s₁.setTop (mkF m 149 #[.val (.int p0), .val (.int p1), .val (.int p2), .val (.int p3), .val (.int p4), .val (.int (p2 &&& (3 : Int32))), .val (.int (own_hl p2)), .val (.int (own_n0 p0)), .val (.int (own_n1 p0)), .val (.int (own_n2 p0)), .val (.int (own_b0 p1)), .val (.int (own_b1 p1)), .val (.int (own_b2 p1)), .val (.int (1 : Int32)), .val (.int (-1 : Int32)), .unset, .unset, .unset, .unset, .unset, .unset] [(.int (((p2.toUInt32 >>> ((8 : Int32) &&& 31).toUInt32).toInt32) &&& (1 : Int32)))])) t
              refine XS.ifYes X0.here hx rfl (pc0 := 149) (pc' := 159) rfl (hb hby at_149) rfl ((if0 _ _).trans (teq hc149).1) (by decide) (by decide) ?_
              exact kt
            refine OGW.step (F' := s₁.setTop (mkF m 163 #[.val (.int p0), .val (.int p1), .val (.int p2), .val (.int p3), .val (.int p4), .val (.int (p2 &&& (3 : Int32))), .val (.int (own_hl p2)), .val (.int (own_n0 p0)), .val (.int (own_n1 p0)), .val (.int (own_n2 p0)), .val (.int (own_b0 p1)), .val (.int (own_b1 p1)), .val (.int (own_b2 p1)), .val (.int (1 : Int32)), .val (.int (-1 : Int32)), .val (.int p4), .unset, .unset, .unset, .unset, .unset] [])) (fun t kt => ?_) ?_
            · show Steps p.tables e below (s₁.setTop (mkF m 159 #[.val (.int p0), .val (.int p1), .val (.int p2), .val (.int p3), .val (.int p4), .val (.int (p2 &&& (3 : Int32))), .val (.int (own_hl p2)), .val (.int (own_n0 p0)), .val (.int (own_n1 p0)), .val (.int (own_n2 p0)), .val (.int (own_b0 p1)), .val (.int (own_b1 p1)), .val (.int (own_b2 p1)), .val (.int (1 : Int32)), .val (.int (-1 : Int32)), .unset, .unset, .unset, .unset, .unset, .unset] [])) t
              refine XS.iload X0.here hx rfl (hb hby at_159) rfl ?_
              refine XS.istore X0.here hx rfl (hb hby at_161) rfl (l' := #[.val (.int p0), .val (.int p1), .val (.int p2), .val (.int p3), .val (.int p4), .val (.int (p2 &&& (3 : Int32))), .val (.int (own_hl p2)), .val (.int (own_n0 p0)), .val (.int (own_n1 p0)), .val (.int (own_n2 p0)), .val (.int (own_b0 p1)), .val (.int (own_b1 p1)), .val (.int (own_b2 p1)), .val (.int (1 : Int32)), .val (.int (-1 : Int32)), .val (.int p4), .unset, .unset, .unset, .unset, .unset]) rfl ?_
              exact kt
            exact J _ _ _ _ _ _ (own_rb0 _) (own_rb1 _) (own_rb2 _) (Or.inr ⟨by decide, by decide⟩)
          · refine OGW.step (F' := s₁.setTop (mkF m 152 #[.val (.int p0), .val (.int p1), .val (.int p2), .val (.int p3), .val (.int p4), .val (.int (p2 &&& (3 : Int32))), .val (.int (own_hl p2)), .val (.int (own_n0 p0)), .val (.int (own_n1 p0)), .val (.int (own_n2 p0)), .val (.int (own_b0 p1)), .val (.int (own_b1 p1)), .val (.int (own_b2 p1)), .val (.int (1 : Int32)), .val (.int (-1 : Int32)), .unset, .unset, .unset, .unset, .unset, .unset] [])) (fun t kt => ?_) ?_
            · show Steps p.tables e below (s₁.setTop (mkF m 149 #[.val (.int p0), .val (.int p1), .val (.int p2), .val (.int p3), .val (.int p4), .val (.int (p2 &&& (3 : Int32))), .val (.int (own_hl p2)), .val (.int (own_n0 p0)), .val (.int (own_n1 p0)), .val (.int (own_n2 p0)), .val (.int (own_b0 p1)), .val (.int (own_b1 p1)), .val (.int (own_b2 p1)), .val (.int (1 : Int32)), .val (.int (-1 : Int32)), .unset, .unset, .unset, .unset, .unset, .unset] [(.int (((p2.toUInt32 >>> ((8 : Int32) &&& 31).toUInt32).toInt32) &&& (1 : Int32)))])) t
              refine XS.ifNo X0.here hx rfl (hb hby at_149) rfl ((if0 _ _).trans (feq hc149).1) ?_
              exact kt
            refine OGW.step (F' := s₁.setTop (mkF m 163 #[.val (.int p0), .val (.int p1), .val (.int p2), .val (.int p3), .val (.int p4), .val (.int (p2 &&& (3 : Int32))), .val (.int (own_hl p2)), .val (.int (own_n0 p0)), .val (.int (own_n1 p0)), .val (.int (own_n2 p0)), .val (.int (own_b0 p1)), .val (.int (own_b1 p1)), .val (.int (own_b2 p1)), .val (.int (1 : Int32)), .val (.int (-1 : Int32)), .val (.int (p3 &&& (2147483647 : Int32))), .unset, .unset, .unset, .unset, .unset] [])) (fun t kt => ?_) ?_
            · show Steps p.tables e below (s₁.setTop (mkF m 152 #[.val (.int p0), .val (.int p1), .val (.int p2), .val (.int p3), .val (.int p4), .val (.int (p2 &&& (3 : Int32))), .val (.int (own_hl p2)), .val (.int (own_n0 p0)), .val (.int (own_n1 p0)), .val (.int (own_n2 p0)), .val (.int (own_b0 p1)), .val (.int (own_b1 p1)), .val (.int (own_b2 p1)), .val (.int (1 : Int32)), .val (.int (-1 : Int32)), .unset, .unset, .unset, .unset, .unset, .unset] [])) t
              refine XS.iloadN X0.here hx rfl (hb hby at_152) rfl ?_
              refine X0.ldcInt hx hown (mvT hZ (own_wd hw 0 rfl)) (g := (mkF m 153 #[.val (.int p0), .val (.int p1), .val (.int p2), .val (.int p3), .val (.int p4), .val (.int (p2 &&& (3 : Int32))), .val (.int (own_hl p2)), .val (.int (own_n0 p0)), .val (.int (own_n1 p0)), .val (.int (own_n2 p0)), .val (.int (own_b0 p1)), .val (.int (own_b1 p1)), .val (.int (own_b2 p1)), .val (.int (1 : Int32)), .val (.int (-1 : Int32)), .unset, .unset, .unset, .unset, .unset, .unset] [(.int p3)])) rfl (hb hby at_153) _ ?_
              refine XS.iand X0.here hx rfl (hb hby at_155) rfl ?_
              refine XS.goto X0.here hx rfl (pc0 := 156) (pc' := 161) rfl (hb hby at_156) (by decide) (by decide) ?_
              refine XS.istore X0.here hx rfl (hb hby at_161) rfl (l' := #[.val (.int p0), .val (.int p1), .val (.int p2), .val (.int p3), .val (.int p4), .val (.int (p2 &&& (3 : Int32))), .val (.int (own_hl p2)), .val (.int (own_n0 p0)), .val (.int (own_n1 p0)), .val (.int (own_n2 p0)), .val (.int (own_b0 p1)), .val (.int (own_b1 p1)), .val (.int (own_b2 p1)), .val (.int (1 : Int32)), .val (.int (-1 : Int32)), .val (.int (p3 &&& (2147483647 : Int32))), .unset, .unset, .unset, .unset, .unset]) rfl ?_
              exact kt
            exact J _ _ _ _ _ _ (own_rb0 _) (own_rb1 _) (own_rb2 _) (Or.inr ⟨by decide, by decide⟩)
      · refine OGW.step (F' := s₁.setTop (mkF m 96 #[.val (.int p0), .val (.int p1), .val (.int p2), .val (.int p3), .val (.int p4), .val (.int (p2 &&& (3 : Int32))), .val (.int (own_hl p2)), .val (.int (own_n0 p0)), .val (.int (own_n1 p0)), .val (.int (own_n2 p0)), .val (.int (own_b0 p1)), .val (.int (own_b1 p1)), .unset, .unset, .unset, .unset, .unset, .unset, .unset, .unset, .unset] [])) (fun t kt => ?_) ?_
        · show Steps p.tables e below (s₁.setTop (mkF m 93 #[.val (.int p0), .val (.int p1), .val (.int p2), .val (.int p3), .val (.int p4), .val (.int (p2 &&& (3 : Int32))), .val (.int (own_hl p2)), .val (.int (own_n0 p0)), .val (.int (own_n1 p0)), .val (.int (own_n2 p0)), .val (.int (own_b0 p1)), .val (.int (own_b1 p1)), .unset, .unset, .unset, .unset, .unset, .unset, .unset, .unset, .unset] [(.int (((p2.toUInt32 >>> ((6 : Int32) &&& 31).toUInt32).toInt32) &&& (1 : Int32)))])) t
          refine XS.ifNo X0.here hx rfl (hb hby at_93) rfl ((if0 _ _).trans (feq hc93).1) ?_
          exact kt
        refine OGW.step (F' := s₁.setTop (mkF m 118 #[.val (.int p0), .val (.int p1), .val (.int p2), .val (.int p3), .val (.int p4), .val (.int (p2 &&& (3 : Int32))), .val (.int (own_hl p2)), .val (.int (own_n0 p0)), .val (.int (own_n1 p0)), .val (.int (own_n2 p0)), .val (.int (own_b0 p1)), .val (.int (own_b1 p1)), .val (.int (own_n2 p0)), .unset, .unset, .unset, .unset, .unset, .unset, .unset, .unset] [(.int (((p2.toUInt32 >>> ((7 : Int32) &&& 31).toUInt32).toInt32) &&& (1 : Int32)))])) (fun t kt => ?_) ?_
        · show Steps p.tables e below (s₁.setTop (mkF m 96 #[.val (.int p0), .val (.int p1), .val (.int p2), .val (.int p3), .val (.int p4), .val (.int (p2 &&& (3 : Int32))), .val (.int (own_hl p2)), .val (.int (own_n0 p0)), .val (.int (own_n1 p0)), .val (.int (own_n2 p0)), .val (.int (own_b0 p1)), .val (.int (own_b1 p1)), .unset, .unset, .unset, .unset, .unset, .unset, .unset, .unset, .unset] [])) t
          refine XS.iload X0.here hx rfl (hb hby at_96) rfl ?_
          refine XS.goto X0.here hx rfl (pc0 := 98) (pc' := 110) rfl (hb hby at_98) (by decide) (by decide) ?_
          refine XS.istore X0.here hx rfl (hb hby at_110) rfl (l' := #[.val (.int p0), .val (.int p1), .val (.int p2), .val (.int p3), .val (.int p4), .val (.int (p2 &&& (3 : Int32))), .val (.int (own_hl p2)), .val (.int (own_n0 p0)), .val (.int (own_n1 p0)), .val (.int (own_n2 p0)), .val (.int (own_b0 p1)), .val (.int (own_b1 p1)), .val (.int (own_n2 p0)), .unset, .unset, .unset, .unset, .unset, .unset, .unset, .unset]) rfl ?_
          refine XS.iloadN X0.here hx rfl (hb hby at_112) rfl ?_
          refine XS.bipush X0.here hx rfl (hb hby at_113) ?_
          refine XS.iushr X0.here hx rfl (hb hby at_115) rfl ?_
          refine XS.iconst X0.here hx rfl (hb hby at_116) ?_
          refine XS.iand X0.here hx rfl (hb hby at_117) rfl ?_
          exact kt
        by_cases hc118 : (((p2.toUInt32 >>> ((7 : Int32) &&& 31).toUInt32).toInt32) &&& (1 : Int32)) = (0 : Int32)
        · refine OGW.step (F' := s₁.setTop (mkF m 125 #[.val (.int p0), .val (.int p1), .val (.int p2), .val (.int p3), .val (.int p4), .val (.int (p2 &&& (3 : Int32))), .val (.int (own_hl p2)), .val (.int (own_n0 p0)), .val (.int (own_n1 p0)), .val (.int (own_n2 p0)), .val (.int (own_b0 p1)), .val (.int (own_b1 p1)), .val (.int (own_n2 p0)), .unset, .unset, .unset, .unset, .unset, .unset, .unset, .unset] [])) (fun t kt => ?_) ?_
          · show Steps p.tables e below (s₁.setTop (mkF m 118 #[.val (.int p0), .val (.int p1), .val (.int p2), .val (.int p3), .val (.int p4), .val (.int (p2 &&& (3 : Int32))), .val (.int (own_hl p2)), .val (.int (own_n0 p0)), .val (.int (own_n1 p0)), .val (.int (own_n2 p0)), .val (.int (own_b0 p1)), .val (.int (own_b1 p1)), .val (.int (own_n2 p0)), .unset, .unset, .unset, .unset, .unset, .unset, .unset, .unset] [(.int (((p2.toUInt32 >>> ((7 : Int32) &&& 31).toUInt32).toInt32) &&& (1 : Int32)))])) t
            refine XS.ifYes X0.here hx rfl (pc0 := 118) (pc' := 125) rfl (hb hby at_118) rfl ((if0 _ _).trans (teq hc118).1) (by decide) (by decide) ?_
            exact kt
          refine OGW.step (F' := s₁.setTop (mkF m 149 #[.val (.int p0), .val (.int p1), .val (.int p2), .val (.int p3), .val (.int p4), .val (.int (p2 &&& (3 : Int32))), .val (.int (own_hl p2)), .val (.int (own_n0 p0)), .val (.int (own_n1 p0)), .val (.int (own_n2 p0)), .val (.int (own_b0 p1)), .val (.int (own_b1 p1)), .val (.int (own_n2 p0)), .val (.int (0 : Int32)), .val (.int (p3 &&& (2147483647 : Int32))), .unset, .unset, .unset, .unset, .unset, .unset] [(.int (((p2.toUInt32 >>> ((8 : Int32) &&& 31).toUInt32).toInt32) &&& (1 : Int32)))])) (fun t kt => ?_) ?_
          · show Steps p.tables e below (s₁.setTop (mkF m 125 #[.val (.int p0), .val (.int p1), .val (.int p2), .val (.int p3), .val (.int p4), .val (.int (p2 &&& (3 : Int32))), .val (.int (own_hl p2)), .val (.int (own_n0 p0)), .val (.int (own_n1 p0)), .val (.int (own_n2 p0)), .val (.int (own_b0 p1)), .val (.int (own_b1 p1)), .val (.int (own_n2 p0)), .unset, .unset, .unset, .unset, .unset, .unset, .unset, .unset] [])) t
            refine XS.iconst X0.here hx rfl (hb hby at_125) ?_
            refine XS.istore X0.here hx rfl (hb hby at_126) rfl (l' := #[.val (.int p0), .val (.int p1), .val (.int p2), .val (.int p3), .val (.int p4), .val (.int (p2 &&& (3 : Int32))), .val (.int (own_hl p2)), .val (.int (own_n0 p0)), .val (.int (own_n1 p0)), .val (.int (own_n2 p0)), .val (.int (own_b0 p1)), .val (.int (own_b1 p1)), .val (.int (own_n2 p0)), .val (.int (0 : Int32)), .unset, .unset, .unset, .unset, .unset, .unset, .unset]) rfl ?_
            refine XS.iload X0.here hx rfl (hb hby at_128) rfl ?_
            refine XS.ifYes X0.here hx rfl (pc0 := 130) (pc' := 137) rfl (hb hby at_130) rfl ((if0 _ _).trans (teq (by decide : (0 : Int32) = (0 : Int32))).1) (by decide) (by decide) ?_
            refine XS.iloadN X0.here hx rfl (hb hby at_137) rfl ?_
            refine X0.ldcInt hx hown (mvT hZ (own_wd hw 0 rfl)) (g := (mkF m 138 #[.val (.int p0), .val (.int p1), .val (.int p2), .val (.int p3), .val (.int p4), .val (.int (p2 &&& (3 : Int32))), .val (.int (own_hl p2)), .val (.int (own_n0 p0)), .val (.int (own_n1 p0)), .val (.int (own_n2 p0)), .val (.int (own_b0 p1)), .val (.int (own_b1 p1)), .val (.int (own_n2 p0)), .val (.int (0 : Int32)), .unset, .unset, .unset, .unset, .unset, .unset, .unset] [(.int p3)])) rfl (hb hby at_138) _ ?_
            refine XS.iand X0.here hx rfl (hb hby at_140) rfl ?_
            refine XS.istore X0.here hx rfl (hb hby at_141) rfl (l' := #[.val (.int p0), .val (.int p1), .val (.int p2), .val (.int p3), .val (.int p4), .val (.int (p2 &&& (3 : Int32))), .val (.int (own_hl p2)), .val (.int (own_n0 p0)), .val (.int (own_n1 p0)), .val (.int (own_n2 p0)), .val (.int (own_b0 p1)), .val (.int (own_b1 p1)), .val (.int (own_n2 p0)), .val (.int (0 : Int32)), .val (.int (p3 &&& (2147483647 : Int32))), .unset, .unset, .unset, .unset, .unset, .unset]) rfl ?_
            refine XS.iloadN X0.here hx rfl (hb hby at_143) rfl ?_
            refine XS.bipush X0.here hx rfl (hb hby at_144) ?_
            refine XS.iushr X0.here hx rfl (hb hby at_146) rfl ?_
            refine XS.iconst X0.here hx rfl (hb hby at_147) ?_
            refine XS.iand X0.here hx rfl (hb hby at_148) rfl ?_
            exact kt
          by_cases hc149 : (((p2.toUInt32 >>> ((8 : Int32) &&& 31).toUInt32).toInt32) &&& (1 : Int32)) = (0 : Int32)
          · refine OGW.step (F' := s₁.setTop (mkF m 159 #[.val (.int p0), .val (.int p1), .val (.int p2), .val (.int p3), .val (.int p4), .val (.int (p2 &&& (3 : Int32))), .val (.int (own_hl p2)), .val (.int (own_n0 p0)), .val (.int (own_n1 p0)), .val (.int (own_n2 p0)), .val (.int (own_b0 p1)), .val (.int (own_b1 p1)), .val (.int (own_n2 p0)), .val (.int (0 : Int32)), .val (.int (p3 &&& (2147483647 : Int32))), .unset, .unset, .unset, .unset, .unset, .unset] [])) (fun t kt => ?_) ?_
            · show Steps p.tables e below (s₁.setTop (mkF m 149 #[.val (.int p0), .val (.int p1), .val (.int p2), .val (.int p3), .val (.int p4), .val (.int (p2 &&& (3 : Int32))), .val (.int (own_hl p2)), .val (.int (own_n0 p0)), .val (.int (own_n1 p0)), .val (.int (own_n2 p0)), .val (.int (own_b0 p1)), .val (.int (own_b1 p1)), .val (.int (own_n2 p0)), .val (.int (0 : Int32)), .val (.int (p3 &&& (2147483647 : Int32))), .unset, .unset, .unset, .unset, .unset, .unset] [(.int (((p2.toUInt32 >>> ((8 : Int32) &&& 31).toUInt32).toInt32) &&& (1 : Int32)))])) t
              refine XS.ifYes X0.here hx rfl (pc0 := 149) (pc' := 159) rfl (hb hby at_149) rfl ((if0 _ _).trans (teq hc149).1) (by decide) (by decide) ?_
              exact kt
            refine OGW.step (F' := s₁.setTop (mkF m 163 #[.val (.int p0), .val (.int p1), .val (.int p2), .val (.int p3), .val (.int p4), .val (.int (p2 &&& (3 : Int32))), .val (.int (own_hl p2)), .val (.int (own_n0 p0)), .val (.int (own_n1 p0)), .val (.int (own_n2 p0)), .val (.int (own_b0 p1)), .val (.int (own_b1 p1)), .val (.int (own_n2 p0)), .val (.int (0 : Int32)), .val (.int (p3 &&& (2147483647 : Int32))), .val (.int p4), .unset, .unset, .unset, .unset, .unset] [])) (fun t kt => ?_) ?_
            · show Steps p.tables e below (s₁.setTop (mkF m 159 #[.val (.int p0), .val (.int p1), .val (.int p2), .val (.int p3), .val (.int p4), .val (.int (p2 &&& (3 : Int32))), .val (.int (own_hl p2)), .val (.int (own_n0 p0)), .val (.int (own_n1 p0)), .val (.int (own_n2 p0)), .val (.int (own_b0 p1)), .val (.int (own_b1 p1)), .val (.int (own_n2 p0)), .val (.int (0 : Int32)), .val (.int (p3 &&& (2147483647 : Int32))), .unset, .unset, .unset, .unset, .unset, .unset] [])) t
              refine XS.iload X0.here hx rfl (hb hby at_159) rfl ?_
              refine XS.istore X0.here hx rfl (hb hby at_161) rfl (l' := #[.val (.int p0), .val (.int p1), .val (.int p2), .val (.int p3), .val (.int p4), .val (.int (p2 &&& (3 : Int32))), .val (.int (own_hl p2)), .val (.int (own_n0 p0)), .val (.int (own_n1 p0)), .val (.int (own_n2 p0)), .val (.int (own_b0 p1)), .val (.int (own_b1 p1)), .val (.int (own_n2 p0)), .val (.int (0 : Int32)), .val (.int (p3 &&& (2147483647 : Int32))), .val (.int p4), .unset, .unset, .unset, .unset, .unset]) rfl ?_
              exact kt
            exact J _ _ _ _ _ _ (own_rb0 _) (own_rb1 _) (own_rn2 _) (Or.inl ⟨rfl, own_pp _⟩)
          · refine OGW.step (F' := s₁.setTop (mkF m 152 #[.val (.int p0), .val (.int p1), .val (.int p2), .val (.int p3), .val (.int p4), .val (.int (p2 &&& (3 : Int32))), .val (.int (own_hl p2)), .val (.int (own_n0 p0)), .val (.int (own_n1 p0)), .val (.int (own_n2 p0)), .val (.int (own_b0 p1)), .val (.int (own_b1 p1)), .val (.int (own_n2 p0)), .val (.int (0 : Int32)), .val (.int (p3 &&& (2147483647 : Int32))), .unset, .unset, .unset, .unset, .unset, .unset] [])) (fun t kt => ?_) ?_
            · show Steps p.tables e below (s₁.setTop (mkF m 149 #[.val (.int p0), .val (.int p1), .val (.int p2), .val (.int p3), .val (.int p4), .val (.int (p2 &&& (3 : Int32))), .val (.int (own_hl p2)), .val (.int (own_n0 p0)), .val (.int (own_n1 p0)), .val (.int (own_n2 p0)), .val (.int (own_b0 p1)), .val (.int (own_b1 p1)), .val (.int (own_n2 p0)), .val (.int (0 : Int32)), .val (.int (p3 &&& (2147483647 : Int32))), .unset, .unset, .unset, .unset, .unset, .unset] [(.int (((p2.toUInt32 >>> ((8 : Int32) &&& 31).toUInt32).toInt32) &&& (1 : Int32)))])) t
              refine XS.ifNo X0.here hx rfl (hb hby at_149) rfl ((if0 _ _).trans (feq hc149).1) ?_
              exact kt
            refine OGW.step (F' := s₁.setTop (mkF m 163 #[.val (.int p0), .val (.int p1), .val (.int p2), .val (.int p3), .val (.int p4), .val (.int (p2 &&& (3 : Int32))), .val (.int (own_hl p2)), .val (.int (own_n0 p0)), .val (.int (own_n1 p0)), .val (.int (own_n2 p0)), .val (.int (own_b0 p1)), .val (.int (own_b1 p1)), .val (.int (own_n2 p0)), .val (.int (0 : Int32)), .val (.int (p3 &&& (2147483647 : Int32))), .val (.int (p3 &&& (2147483647 : Int32))), .unset, .unset, .unset, .unset, .unset] [])) (fun t kt => ?_) ?_
            · show Steps p.tables e below (s₁.setTop (mkF m 152 #[.val (.int p0), .val (.int p1), .val (.int p2), .val (.int p3), .val (.int p4), .val (.int (p2 &&& (3 : Int32))), .val (.int (own_hl p2)), .val (.int (own_n0 p0)), .val (.int (own_n1 p0)), .val (.int (own_n2 p0)), .val (.int (own_b0 p1)), .val (.int (own_b1 p1)), .val (.int (own_n2 p0)), .val (.int (0 : Int32)), .val (.int (p3 &&& (2147483647 : Int32))), .unset, .unset, .unset, .unset, .unset, .unset] [])) t
              refine XS.iloadN X0.here hx rfl (hb hby at_152) rfl ?_
              refine X0.ldcInt hx hown (mvT hZ (own_wd hw 0 rfl)) (g := (mkF m 153 #[.val (.int p0), .val (.int p1), .val (.int p2), .val (.int p3), .val (.int p4), .val (.int (p2 &&& (3 : Int32))), .val (.int (own_hl p2)), .val (.int (own_n0 p0)), .val (.int (own_n1 p0)), .val (.int (own_n2 p0)), .val (.int (own_b0 p1)), .val (.int (own_b1 p1)), .val (.int (own_n2 p0)), .val (.int (0 : Int32)), .val (.int (p3 &&& (2147483647 : Int32))), .unset, .unset, .unset, .unset, .unset, .unset] [(.int p3)])) rfl (hb hby at_153) _ ?_
              refine XS.iand X0.here hx rfl (hb hby at_155) rfl ?_
              refine XS.goto X0.here hx rfl (pc0 := 156) (pc' := 161) rfl (hb hby at_156) (by decide) (by decide) ?_
              refine XS.istore X0.here hx rfl (hb hby at_161) rfl (l' := #[.val (.int p0), .val (.int p1), .val (.int p2), .val (.int p3), .val (.int p4), .val (.int (p2 &&& (3 : Int32))), .val (.int (own_hl p2)), .val (.int (own_n0 p0)), .val (.int (own_n1 p0)), .val (.int (own_n2 p0)), .val (.int (own_b0 p1)), .val (.int (own_b1 p1)), .val (.int (own_n2 p0)), .val (.int (0 : Int32)), .val (.int (p3 &&& (2147483647 : Int32))), .val (.int (p3 &&& (2147483647 : Int32))), .unset, .unset, .unset, .unset, .unset]) rfl ?_
              exact kt
            exact J _ _ _ _ _ _ (own_rb0 _) (own_rb1 _) (own_rn2 _) (Or.inl ⟨rfl, own_pp _⟩)
        · refine OGW.step (F' := s₁.setTop (mkF m 121 #[.val (.int p0), .val (.int p1), .val (.int p2), .val (.int p3), .val (.int p4), .val (.int (p2 &&& (3 : Int32))), .val (.int (own_hl p2)), .val (.int (own_n0 p0)), .val (.int (own_n1 p0)), .val (.int (own_n2 p0)), .val (.int (own_b0 p1)), .val (.int (own_b1 p1)), .val (.int (own_n2 p0)), .unset, .unset, .unset, .unset, .unset, .unset, .unset, .unset] [])) (fun t kt => ?_) ?_
          · show Steps p.tables e below (s₁.setTop (mkF m 118 #[.val (.int p0), .val (.int p1), .val (.int p2), .val (.int p3), .val (.int p4), .val (.int (p2 &&& (3 : Int32))), .val (.int (own_hl p2)), .val (.int (own_n0 p0)), .val (.int (own_n1 p0)), .val (.int (own_n2 p0)), .val (.int (own_b0 p1)), .val (.int (own_b1 p1)), .val (.int (own_n2 p0)), .unset, .unset, .unset, .unset, .unset, .unset, .unset, .unset] [(.int (((p2.toUInt32 >>> ((7 : Int32) &&& 31).toUInt32).toInt32) &&& (1 : Int32)))])) t
            refine XS.ifNo X0.here hx rfl (hb hby at_118) rfl ((if0 _ _).trans (feq hc118).1) ?_
            exact kt
          refine OGW.step (F' := s₁.setTop (mkF m 149 #[.val (.int p0), .val (.int p1), .val (.int p2), .val (.int p3), .val (.int p4), .val (.int (p2 &&& (3 : Int32))), .val (.int (own_hl p2)), .val (.int (own_n0 p0)), .val (.int (own_n1 p0)), .val (.int (own_n2 p0)), .val (.int (own_b0 p1)), .val (.int (own_b1 p1)), .val (.int (own_n2 p0)), .val (.int (1 : Int32)), .val (.int (-1 : Int32)), .unset, .unset, .unset, .unset, .unset, .unset] [(.int (((p2.toUInt32 >>> ((8 : Int32) &&& 31).toUInt32).toInt32) &&& (1 : Int32)))])) (fun t kt => ?_) ?_
          · show Steps p.tables e below (s₁.setTop (mkF m 121 #[.val (.int p0), .val (.int p1), .val (.int p2), .val (.int p3), .val (.int p4), .val (.int (p2 &&& (3 : Int32))), .val (.int (own_hl p2)), .val (.int (own_n0 p0)), .val (.int (own_n1 p0)), .val (.int (own_n2 p0)), .val (.int (own_b0 p1)), .val (.int (own_b1 p1)), .val (.int (own_n2 p0)), .unset, .unset, .unset, .unset, .unset, .unset, .unset, .unset] [])) t
            refine XS.iconst X0.here hx rfl (hb hby at_121) ?_
            refine XS.goto X0.here hx rfl (pc0 := 122) (pc' := 126) rfl (hb hby at_122) (by decide) (by decide) ?_
            refine XS.istore X0.here hx rfl (hb hby at_126) rfl (l' := #[.val (.int p0), .val (.int p1), .val (.int p2), .val (.int p3), .val (.int p4), .val (.int (p2 &&& (3 : Int32))), .val (.int (own_hl p2)), .val (.int (own_n0 p0)), .val (.int (own_n1 p0)), .val (.int (own_n2 p0)), .val (.int (own_b0 p1)), .val (.int (own_b1 p1)), .val (.int (own_n2 p0)), .val (.int (1 : Int32)), .unset, .unset, .unset, .unset, .unset, .unset, .unset]) rfl ?_
            refine XS.iload X0.here hx rfl (hb hby at_128) rfl ?_
            refine XS.ifNo X0.here hx rfl (hb hby at_130) rfl ((if0 _ _).trans (feq (by decide : ¬ ((1 : Int32) = (0 : Int32)))).1) ?_
            refine XS.iconst X0.here hx rfl (hb hby at_133) ?_
            refine XS.goto X0.here hx rfl (pc0 := 134) (pc' := 141) rfl (hb hby at_134) (by decide) (by decide) ?_
            refine XS.istore X0.here hx rfl (hb hby at_141) rfl (l' := #[.val (.int p0), .val (.int p1), .val (.int p2), .val (.int p3), .val (.int p4), .val (.int (p2 &&& (3 : Int32))), .val (.int (own_hl p2)), .val (.int (own_n0 p0)), .val (.int (own_n1 p0)), .val (.int (own_n2 p0)), .val (.int (own_b0 p1)), .val (.int (own_b1 p1)), .val (.int (own_n2 p0)), .val (.int (1 : Int32)), .val (.int (-1 : Int32)), .unset, .unset, .unset, .unset, .unset, .unset]) rfl ?_
            refine XS.iloadN X0.here hx rfl (hb hby at_143) rfl ?_
            refine XS.bipush X0.here hx rfl (hb hby at_144) ?_
            refine XS.iushr X0.here hx rfl (hb hby at_146) rfl ?_
            refine XS.iconst X0.here hx rfl (hb hby at_147) ?_
            refine XS.iand X0.here hx rfl (hb hby at_148) rfl ?_
            exact kt
          by_cases hc149 : (((p2.toUInt32 >>> ((8 : Int32) &&& 31).toUInt32).toInt32) &&& (1 : Int32)) = (0 : Int32)
          · refine OGW.step (F' := s₁.setTop (mkF m 159 #[.val (.int p0), .val (.int p1), .val (.int p2), .val (.int p3), .val (.int p4), .val (.int (p2 &&& (3 : Int32))), .val (.int (own_hl p2)), .val (.int (own_n0 p0)), .val (.int (own_n1 p0)), .val (.int (own_n2 p0)), .val (.int (own_b0 p1)), .val (.int (own_b1 p1)), .val (.int (own_n2 p0)), .val (.int (1 : Int32)), .val (.int (-1 : Int32)), .unset, .unset, .unset, .unset, .unset, .unset] [])) (fun t kt => ?_) ?_
            · show Steps p.tables e below (s₁.setTop (mkF m 149 #[.val (.int p0), .val (.int p1), .val (.int p2), .val (.int p3), .val (.int p4), .val (.int (p2 &&& (3 : Int32))), .val (.int (own_hl p2)), .val (.int (own_n0 p0)), .val (.int (own_n1 p0)), .val (.int (own_n2 p0)), .val (.int (own_b0 p1)), .val (.int (own_b1 p1)), .val (.int (own_n2 p0)), .val (.int (1 : Int32)), .val (.int (-1 : Int32)), .unset, .unset, .unset, .unset, .unset, .unset] [(.int (((p2.toUInt32 >>> ((8 : Int32) &&& 31).toUInt32).toInt32) &&& (1 : Int32)))])) t
              refine XS.ifYes X0.here hx rfl (pc0 := 149) (pc' := 159) rfl (hb hby at_149) rfl ((if0 _ _).trans (teq hc149).1) (by decide) (by decide) ?_
              exact kt
            refine OGW.step (F' := s₁.setTop (mkF m 163 #[.val (.int p0), .val (.int p1), .val (.int p2), .val (.int p3), .val (.int p4), .val (.int (p2 &&& (3 : Int32))), .val (.int (own_hl p2)), .val (.int (own_n0 p0)), .val (.int (own_n1 p0)), .val (.int (own_n2 p0)), .val (.int (own_b0 p1)), .val (.int (own_b1 p1)), .val (.int (own_n2 p0)), .val (.int (1 : Int32)), .val (.int (-1 : Int32)), .val (.int p4), .unset, .unset, .unset, .unset, .unset] [])) (fun t kt => ?_) ?_
            · show Steps p.tables e below (s₁.setTop (mkF m 159 #[.val (.int p0), .val (.int p1), .val (.int p2), .val (.int p3), .val (.int p4), .val (.int (p2 &&& (3 : Int32))), .val (.int (own_hl p2)), .val (.int (own_n0 p0)), .val (.int (own_n1 p0)), .val (.int (own_n2 p0)), .val (.int (own_b0 p1)), .val (.int (own_b1 p1)), .val (.int (own_n2 p0)), .val (.int (1 : Int32)), .val (.int (-1 : Int32)), .unset, .unset, .unset, .unset, .unset, .unset] [])) t
              refine XS.iload X0.here hx rfl (hb hby at_159) rfl ?_
              refine XS.istore X0.here hx rfl (hb hby at_161) rfl (l' := #[.val (.int p0), .val (.int p1), .val (.int p2), .val (.int p3), .val (.int p4), .val (.int (p2 &&& (3 : Int32))), .val (.int (own_hl p2)), .val (.int (own_n0 p0)), .val (.int (own_n1 p0)), .val (.int (own_n2 p0)), .val (.int (own_b0 p1)), .val (.int (own_b1 p1)), .val (.int (own_n2 p0)), .val (.int (1 : Int32)), .val (.int (-1 : Int32)), .val (.int p4), .unset, .unset, .unset, .unset, .unset]) rfl ?_
              exact kt
            exact J _ _ _ _ _ _ (own_rb0 _) (own_rb1 _) (own_rn2 _) (Or.inr ⟨by decide, by decide⟩)
          · refine OGW.step (F' := s₁.setTop (mkF m 152 #[.val (.int p0), .val (.int p1), .val (.int p2), .val (.int p3), .val (.int p4), .val (.int (p2 &&& (3 : Int32))), .val (.int (own_hl p2)), .val (.int (own_n0 p0)), .val (.int (own_n1 p0)), .val (.int (own_n2 p0)), .val (.int (own_b0 p1)), .val (.int (own_b1 p1)), .val (.int (own_n2 p0)), .val (.int (1 : Int32)), .val (.int (-1 : Int32)), .unset, .unset, .unset, .unset, .unset, .unset] [])) (fun t kt => ?_) ?_
            · show Steps p.tables e below (s₁.setTop (mkF m 149 #[.val (.int p0), .val (.int p1), .val (.int p2), .val (.int p3), .val (.int p4), .val (.int (p2 &&& (3 : Int32))), .val (.int (own_hl p2)), .val (.int (own_n0 p0)), .val (.int (own_n1 p0)), .val (.int (own_n2 p0)), .val (.int (own_b0 p1)), .val (.int (own_b1 p1)), .val (.int (own_n2 p0)), .val (.int (1 : Int32)), .val (.int (-1 : Int32)), .unset, .unset, .unset, .unset, .unset, .unset] [(.int (((p2.toUInt32 >>> ((8 : Int32) &&& 31).toUInt32).toInt32) &&& (1 : Int32)))])) t
              refine XS.ifNo X0.here hx rfl (hb hby at_149) rfl ((if0 _ _).trans (feq hc149).1) ?_
              exact kt
            refine OGW.step (F' := s₁.setTop (mkF m 163 #[.val (.int p0), .val (.int p1), .val (.int p2), .val (.int p3), .val (.int p4), .val (.int (p2 &&& (3 : Int32))), .val (.int (own_hl p2)), .val (.int (own_n0 p0)), .val (.int (own_n1 p0)), .val (.int (own_n2 p0)), .val (.int (own_b0 p1)), .val (.int (own_b1 p1)), .val (.int (own_n2 p0)), .val (.int (1 : Int32)), .val (.int (-1 : Int32)), .val (.int (p3 &&& (2147483647 : Int32))), .unset, .unset, .unset, .unset, .unset] [])) (fun t kt => ?_) ?_
            · show Steps p.tables e below (s₁.setTop (mkF m 152 #[.val (.int p0), .val (.int p1), .val (.int p2), .val (.int p3), .val (.int p4), .val (.int (p2 &&& (3 : Int32))), .val (.int (own_hl p2)), .val (.int (own_n0 p0)), .val (.int (own_n1 p0)), .val (.int (own_n2 p0)), .val (.int (own_b0 p1)), .val (.int (own_b1 p1)), .val (.int (own_n2 p0)), .val (.int (1 : Int32)), .val (.int (-1 : Int32)), .unset, .unset, .unset, .unset, .unset, .unset] [])) t
              refine XS.iloadN X0.here hx rfl (hb hby at_152) rfl ?_
              refine X0.ldcInt hx hown (mvT hZ (own_wd hw 0 rfl)) (g := (mkF m 153 #[.val (.int p0), .val (.int p1), .val (.int p2), .val (.int p3), .val (.int p4), .val (.int (p2 &&& (3 : Int32))), .val (.int (own_hl p2)), .val (.int (own_n0 p0)), .val (.int (own_n1 p0)), .val (.int (own_n2 p0)), .val (.int (own_b0 p1)), .val (.int (own_b1 p1)), .val (.int (own_n2 p0)), .val (.int (1 : Int32)), .val (.int (-1 : Int32)), .unset, .unset, .unset, .unset, .unset, .unset] [(.int p3)])) rfl (hb hby at_153) _ ?_
              refine XS.iand X0.here hx rfl (hb hby at_155) rfl ?_
              refine XS.goto X0.here hx rfl (pc0 := 156) (pc' := 161) rfl (hb hby at_156) (by decide) (by decide) ?_
              refine XS.istore X0.here hx rfl (hb hby at_161) rfl (l' := #[.val (.int p0), .val (.int p1), .val (.int p2), .val (.int p3), .val (.int p4), .val (.int (p2 &&& (3 : Int32))), .val (.int (own_hl p2)), .val (.int (own_n0 p0)), .val (.int (own_n1 p0)), .val (.int (own_n2 p0)), .val (.int (own_b0 p1)), .val (.int (own_b1 p1)), .val (.int (own_n2 p0)), .val (.int (1 : Int32)), .val (.int (-1 : Int32)), .val (.int (p3 &&& (2147483647 : Int32))), .unset, .unset, .unset, .unset, .unset]) rfl ?_
              exact kt
            exact J _ _ _ _ _ _ (own_rb0 _) (own_rb1 _) (own_rn2 _) (Or.inr ⟨by decide, by decide⟩)
    · refine OGW.step (F' := s₁.setTop (mkF m 71 #[.val (.int p0), .val (.int p1), .val (.int p2), .val (.int p3), .val (.int p4), .val (.int (p2 &&& (3 : Int32))), .val (.int (own_hl p2)), .val (.int (own_n0 p0)), .val (.int (own_n1 p0)), .val (.int (own_n2 p0)), .val (.int (own_b0 p1)), .unset, .unset, .unset, .unset, .unset, .unset, .unset, .unset, .unset, .unset] [])) (fun t kt => ?_) ?_
      · show Steps p.tables e below (s₁.setTop (mkF m 68 #[.val (.int p0), .val (.int p1), .val (.int p2), .val (.int p3), .val (.int p4), .val (.int (p2 &&& (3 : Int32))), .val (.int (own_hl p2)), .val (.int (own_n0 p0)), .val (.int (own_n1 p0)), .val (.int (own_n2 p0)), .val (.int (own_b0 p1)), .unset, .unset, .unset, .unset, .unset, .unset, .unset, .unset, .unset, .unset] [(.int (((p2.toUInt32 >>> ((5 : Int32) &&& 31).toUInt32).toInt32) &&& (1 : Int32)))])) t
        refine XS.ifNo X0.here hx rfl (hb hby at_68) rfl ((if0 _ _).trans (feq hc68).1) ?_
        exact kt
      refine OGW.step (F' := s₁.setTop (mkF m 93 #[.val (.int p0), .val (.int p1), .val (.int p2), .val (.int p3), .val (.int p4), .val (.int (p2 &&& (3 : Int32))), .val (.int (own_hl p2)), .val (.int (own_n0 p0)), .val (.int (own_n1 p0)), .val (.int (own_n2 p0)), .val (.int (own_b0 p1)), .val (.int (own_n1 p0)), .unset, .unset, .unset, .unset, .unset, .unset, .unset, .unset, .unset] [(.int (((p2.toUInt32 >>> ((6 : Int32) &&& 31).toUInt32).toInt32) &&& (1 : Int32)))])) (fun t kt => ?_) ?_
      · show Steps p.tables e below (s₁.setTop (mkF m 71 #[.val (.int p0), .val (.int p1), .val (.int p2), .val (.int p3), .val (.int p4), .val (.int (p2 &&& (3 : Int32))), .val (.int (own_hl p2)), .val (.int (own_n0 p0)), .val (.int (own_n1 p0)), .val (.int (own_n2 p0)), .val (.int (own_b0 p1)), .unset, .unset, .unset, .unset, .unset, .unset, .unset, .unset, .unset, .unset] [])) t
        refine XS.iload X0.here hx rfl (hb hby at_71) rfl ?_
        refine XS.goto X0.here hx rfl (pc0 := 73) (pc' := 85) rfl (hb hby at_73) (by decide) (by decide) ?_
        refine XS.istore X0.here hx rfl (hb hby at_85) rfl (l' := #[.val (.int p0), .val (.int p1), .val (.int p2), .val (.int p3), .val (.int p4), .val (.int (p2 &&& (3 : Int32))), .val (.int (own_hl p2)), .val (.int (own_n0 p0)), .val (.int (own_n1 p0)), .val (.int (own_n2 p0)), .val (.int (own_b0 p1)), .val (.int (own_n1 p0)), .unset, .unset, .unset, .unset, .unset, .unset, .unset, .unset, .unset]) rfl ?_
        refine XS.iloadN X0.here hx rfl (hb hby at_87) rfl ?_
        refine XS.bipush X0.here hx rfl (hb hby at_88) ?_
        refine XS.iushr X0.here hx rfl (hb hby at_90) rfl ?_
        refine XS.iconst X0.here hx rfl (hb hby at_91) ?_
        refine XS.iand X0.here hx rfl (hb hby at_92) rfl ?_
        exact kt
      by_cases hc93 : (((p2.toUInt32 >>> ((6 : Int32) &&& 31).toUInt32).toInt32) &&& (1 : Int32)) = (0 : Int32)
      · refine OGW.step (F' := s₁.setTop (mkF m 101 #[.val (.int p0), .val (.int p1), .val (.int p2), .val (.int p3), .val (.int p4), .val (.int (p2 &&& (3 : Int32))), .val (.int (own_hl p2)), .val (.int (own_n0 p0)), .val (.int (own_n1 p0)), .val (.int (own_n2 p0)), .val (.int (own_b0 p1)), .val (.int (own_n1 p0)), .unset, .unset, .unset, .unset, .unset, .unset, .unset, .unset, .unset] [])) (fun t kt => ?_) ?_
        · show Steps p.tables e below (s₁.setTop (mkF m 93 #[.val (.int p0), .val (.int p1), .val (.int p2), .val (.int p3), .val (.int p4), .val (.int (p2 &&& (3 : Int32))), .val (.int (own_hl p2)), .val (.int (own_n0 p0)), .val (.int (own_n1 p0)), .val (.int (own_n2 p0)), .val (.int (own_b0 p1)), .val (.int (own_n1 p0)), .unset, .unset, .unset, .unset, .unset, .unset, .unset, .unset, .unset] [(.int (((p2.toUInt32 >>> ((6 : Int32) &&& 31).toUInt32).toInt32) &&& (1 : Int32)))])) t
          refine XS.ifYes X0.here hx rfl (pc0 := 93) (pc' := 101) rfl (hb hby at_93) rfl ((if0 _ _).trans (teq hc93).1) (by decide) (by decide) ?_
          exact kt
        refine OGW.step (F' := s₁.setTop (mkF m 118 #[.val (.int p0), .val (.int p1), .val (.int p2), .val (.int p3), .val (.int p4), .val (.int (p2 &&& (3 : Int32))), .val (.int (own_hl p2)), .val (.int (own_n0 p0)), .val (.int (own_n1 p0)), .val (.int (own_n2 p0)), .val (.int (own_b0 p1)), .val (.int (own_n1 p0)), .val (.int (own_b2 p1)), .unset, .unset, .unset, .unset, .unset, .unset, .unset, .unset] [(.int (((p2.toUInt32 >>> ((7 : Int32) &&& 31).toUInt32).toInt32) &&& (1 : Int32)))])) (fun t kt => ?_) ?_
        · show Steps p.tables e below (s₁.setTop (mkF m 101 #[.val (.int p0), .val (.int p1), .val (.int p2), .val (.int p3), .val (.int p4), .val (.int (p2 &&& (3 : Int32))), .val (.int (own_hl p2)), .val (.int (own_n0 p0)), .val (.int (own_n1 p0)), .val (.int (own_n2 p0)), .val (.int (own_b0 p1)), .val (.int (own_n1 p0)), .unset, .unset, .unset, .unset, .unset, .unset, .unset, .unset, .unset] [])) t
          refine XS.iloadN X0.here hx rfl (hb hby at_101) rfl ?_
          refine XS.bipush X0.here hx rfl (hb hby at_102) ?_
          refine XS.iushr X0.here hx rfl (hb hby at_104) rfl ?_
          refine XS.sipush X0.here hx rfl (hb hby at_105) ?_
          refine XS.iand X0.here hx rfl (hb hby at_108) rfl ?_
          refine XS.i2c X0.here hx rfl (hb hby at_109) rfl ?_
          refine XS.istore X0.here hx rfl (hb hby at_110) rfl (l' := #[.val (.int p0), .val (.int p1), .val (.int p2), .val (.int p3), .val (.int p4), .val (.int (p2 &&& (3 : Int32))), .val (.int (own_hl p2)), .val (.int (own_n0 p0)), .val (.int (own_n1 p0)), .val (.int (own_n2 p0)), .val (.int (own_b0 p1)), .val (.int (own_n1 p0)), .val (.int (own_b2 p1)), .unset, .unset, .unset, .unset, .unset, .unset, .unset, .unset]) rfl ?_
          refine XS.iloadN X0.here hx rfl (hb hby at_112) rfl ?_
          refine XS.bipush X0.here hx rfl (hb hby at_113) ?_
          refine XS.iushr X0.here hx rfl (hb hby at_115) rfl ?_
          refine XS.iconst X0.here hx rfl (hb hby at_116) ?_
          refine XS.iand X0.here hx rfl (hb hby at_117) rfl ?_
          exact kt
        by_cases hc118 : (((p2.toUInt32 >>> ((7 : Int32) &&& 31).toUInt32).toInt32) &&& (1 : Int32)) = (0 : Int32)
        · refine OGW.step (F' := s₁.setTop (mkF m 125 #[.val (.int p0), .val (.int p1), .val (.int p2), .val (.int p3), .val (.int p4), .val (.int (p2 &&& (3 : Int32))), .val (.int (own_hl p2)), .val (.int (own_n0 p0)), .val (.int (own_n1 p0)), .val (.int (own_n2 p0)), .val (.int (own_b0 p1)), .val (.int (own_n1 p0)), .val (.int (own_b2 p1)), .unset, .unset, .unset, .unset, .unset, .unset, .unset, .unset] [])) (fun t kt => ?_) ?_
          · show Steps p.tables e below (s₁.setTop (mkF m 118 #[.val (.int p0), .val (.int p1), .val (.int p2), .val (.int p3), .val (.int p4), .val (.int (p2 &&& (3 : Int32))), .val (.int (own_hl p2)), .val (.int (own_n0 p0)), .val (.int (own_n1 p0)), .val (.int (own_n2 p0)), .val (.int (own_b0 p1)), .val (.int (own_n1 p0)), .val (.int (own_b2 p1)), .unset, .unset, .unset, .unset, .unset, .unset, .unset, .unset] [(.int (((p2.toUInt32 >>> ((7 : Int32) &&& 31).toUInt32).toInt32) &&& (1 : Int32)))])) t
            refine XS.ifYes X0.here hx rfl (pc0 := 118) (pc' := 125) rfl (hb hby at_118) rfl ((if0 _ _).trans (teq hc118).1) (by decide) (by decide) ?_
            exact kt
          refine OGW.step (F' := s₁.setTop (mkF m 149 #[.val (.int p0), .val (.int p1), .val (.int p2), .val (.int p3), .val (.int p4), .val (.int (p2 &&& (3 : Int32))), .val (.int (own_hl p2)), .val (.int (own_n0 p0)), .val (.int (own_n1 p0)), .val (.int (own_n2 p0)), .val (.int (own_b0 p1)), .val (.int (own_n1 p0)), .val (.int (own_b2 p1)), .val (.int (0 : Int32)), .val (.int (p3 &&& (2147483647 : Int32))), .unset, .unset, .unset, .unset, .unset, .unset] [(.int (((p2.toUInt32 >>> ((8 : Int32) &&& 31).toUInt32).toInt32) &&& (1 : Int32)))])) (fun t kt => ?_) ?_
          · show Steps p.tables e below (s₁.setTop (mkF m 125 #[.val (.int p0), .val (.int p1), .val (.int p2), .val (.int p3), .val (.int p4), .val (.int (p2 &&& (3 : Int32))), .val (.int (own_hl p2)), .val (.int (own_n0 p0)), .val (.int (own_n1 p0)), .val (.int (own_n2 p0)), .val (.int (own_b0 p1)), .val (.int (own_n1 p0)), .val (.int (own_b2 p1)), .unset, .unset, .unset, .unset, .unset, .unset, .unset, .unset] [])) t
            refine XS.iconst X0.here hx rfl (hb hby at_125) ?_
            refine XS.istore X0.here hx rfl (hb hby at_126) rfl (l' := #[.val (.int p0), .val (.int p1), .val (.int p2), .val (.int p3), .val (.int p4), .val (.int (p2 &&& (3 : Int32))), .val (.int (own_hl p2)), .val (.int (own_n0 p0)), .val (.int (own_n1 p0)), .val (.int (own_n2 p0)), .val (.int (own_b0 p1)), .val (.int (own_n1 p0)), .val (.int (own_b2 p1)), .val (.int (0 : Int32)), .unset, .unset, .unset, .unset, .unset, .unset, .unset]) rfl ?_
            refine XS.iload X0.here hx rfl (hb hby at_128) rfl ?_
            refine XS.ifYes X0.here hx rfl (pc0 := 130) (pc' := 137) rfl (hb hby at_130) rfl ((if0 _ _).trans (teq (by decide : (0 : Int32) = (0 : Int32))).1) (by decide) (by decide) ?_
            refine XS.iloadN X0.here hx rfl (hb hby at_137) rfl ?_
            refine X0.ldcInt hx hown (mvT hZ (own_wd hw 0 rfl)) (g := (mkF m 138 #[.val (.int p0), .val (.int p1), .val (.int p2), .val (.int p3), .val (.int p4), .val (.int (p2 &&& (3 : Int32))), .val (.int (own_hl p2)), .val (.int (own_n0 p0)), .val (.int (own_n1 p0)), .val (.int (own_n2 p0)), .val (.int (own_b0 p1)), .val (.int (own_n1 p0)), .val (.int (own_b2 p1)), .val (.int (0 : Int32)), .unset, .unset, .unset, .unset, .unset, .unset, .unset] [(.int p3)])) rfl (hb hby at_138) _ ?_
            refine XS.iand X0.here hx rfl (hb hby at_140) rfl ?_
            refine XS.istore X0.here hx rfl (hb hby at_141) rfl (l' := #[.val (.int p0), .val (.int p1), .val (.int p2), .val (.int p3), .val (.int p4), .val (.int (p2 &&& (3 : Int32))), .val (.int (own_hl p2)), .val (.int (own_n0 p0)), .val (.int (own_n1 p0)), .val (.int (own_n2 p0)), .val (.int (own_b0 p1)), .val (.int (own_n1 p0)), .val (.int (own_b2 p1)), .val (.int (0 : Int32)), .val (.int (p3 &&& (2147483647 : Int32))), .unset, .unset, .unset, .unset, .unset, .unset]) rfl ?_
            refine XS.iloadN X0.here hx rfl (hb hby at_143) rfl ?_
            refine XS.bipush X0.here hx rfl (hb hby at_144) ?_
            refine XS.iushr X0.here hx rfl (hb hby at_146) rfl ?_
            refine XS.iconst X0.here hx rfl (hb hby at_147) ?_
            refine XS.iand X0.here hx rfl (hb hby at_148) rfl ?_
            exact kt
          by_cases hc149 : (((p2.toUInt32 >>> ((8 : Int32) &&& 31).toUInt32).toInt32) &&& (1 : Int32)) = (0 : Int32)
          · refine OGW.step (F' := s₁.setTop (mkF m 159 #[.val (.int p0), .val (.int p1), .val (.int p2), .val (.int p3), .val (.int p4), .val (.int (p2 &&& (3 : Int32))), .val (.int (own_hl p2)), .val (.int (own_n0 p0)), .val (.int (own_n1 p0)), .val (.int (own_n2 p0)), .val (.int (own_b0 p1)), .val (.int (own_n1 p0)), .val (.int (own_b2 p1)), .val (.int (0 : Int32)), .val (.int (p3 &&& (2147483647 : Int32))), .unset, .unset, .unset, .unset, .unset, .unset] [])) (fun t kt => ?_) ?_
            · show Steps p.tables e below (s₁.setTop (mkF m 149 #[.val (.int p0), .val (.int p1), .val (.int p2), .val (.int p3), .val (.int p4), .val (.int (p2 &&& (3 : Int32))), .val (.int (own_hl p2)), .val (.int (own_n0 p0)), .val (.int (own_n1 p0)), .val (.int (own_n2 p0)), .val (.int (own_b0 p1)), .val (.int (own_n1 p0)), .val (.int (own_b2 p1)), .val (.int (0 : Int32)), .val (.int (p3 &&& (2147483647 : Int32))), .unset, .unset, .unset, .unset, .unset, .unset] [(.int (((p2.toUInt32 >>> ((8 : Int32) &&& 31).toUInt32).toInt32) &&& (1 : Int32)))])) t
              refine XS.ifYes X0.here hx rfl (pc0 := 149) (pc' := 159) rfl (hb hby at_149) rfl ((if0 _ _).trans (teq hc149).1) (by decide) (by decide) ?_
              exact kt
            refine OGW.step (F' := s₁.setTop (mkF m 163 #[.val (.int p0), .val (.int p1), .val (.int p2), .val (.int p3), .val (.int p4), .val (.int (p2 &&& (3 : Int32))), .val (.int (own_hl p2)), .val (.int (own_n0 p0)), .val (.int (own_n1 p0)), .val (.int (own_n2 p0)), .val (.int (own_b0 p1)), .val (.int (own_n1 p0)), .val (.int (own_b2 p1)), .val (.int (0 : Int32)), .val (.int (p3 &&& (2147483647 : Int32))), .val (.int p4), .unset, .unset, .unset, .unset, .unset] [])) (fun t kt => ?_) ?_
            · show Steps p.tables e below (s₁.setTop (mkF m 159 #[.val (.int p0), .val (.int p1), .val (.int p2), .val (.int p3), .val (.int p4), .val (.int (p2 &&& (3 : Int32))), .val (.int (own_hl p2)), .val (.int (own_n0 p0)), .val (.int (own_n1 p0)), .val (.int (own_n2 p0)), .val (.int (own_b0 p1)), .val (.int (own_n1 p0)), .val (.int (own_b2 p1)), .val (.int (0 : Int32)), .val (.int (p3 &&& (2147483647 : Int32))), .unset, .unset, .unset, .unset, .unset, .unset] [])) t
              refine XS.iload X0.here hx rfl (hb hby at_159) rfl ?_
              refine XS.istore X0.here hx rfl (hb hby at_161) rfl (l' := #[.val (.int p0), .val (.int p1), .val (.int p2), .val (.int p3), .val (.int p4), .val (.int (p2 &&& (3 : Int32))), .val (.int (own_hl p2)), .val (.int (own_n0 p0)), .val (.int (own_n1 p0)), .val (.int (own_n2 p0)), .val (.int (own_b0 p1)), .val (.int (own_n1 p0)), .val (.int (own_b2 p1)), .val (.int (0 : Int32)), .val (.int (p3 &&& (2147483647 : Int32))), .val (.int p4), .unset, .unset, .unset, .unset, .unset]) rfl ?_
              exact kt
            exact J _ _ _ _ _ _ (own_rb0 _) (own_rn1 _) (own_rb2 _) (Or.inl ⟨rfl, own_pp _⟩)
          · refine OGW.step (F' := s₁.setTop (mkF m 152 #[.val (.int p0), .val (.int p1), .val (.int p2), .val (.int p3), .val (.int p4), .val (.int (p2 &&& (3 : Int32))), .val (.int (own_hl p2)), .val (.int (own_n0 p0)), .val (.int (own_n1 p0)), .val (.int (own_n2 p0)), .val (.int (own_b0 p1)), .val (.int (own_n1 p0)), .val (.int (own_b2 p1)), .val (.int (0 : Int32)), .val (.int (p3 &&& (2147483647 : Int32))), .unset, .unset, .unset, .unset, .unset, .unset] [])) (fun t kt => ?_) ?_
            · show Steps p.tables e below (s₁.setTop (mkF m 149 #[.val (.int p0), .val (.int p1), .val (.int p2), .val (.int p3), .val (.int p4), .val (.int (p2 &&& (3 : Int32))), .val (.int (own_hl p2)), .val (.int (own_n0 p0)), .val (.int (own_n1 p0)), .val (.int (own_n2 p0)), .val (.int (own_b0 p1)), .val (.int (own_n1 p0)), .val (.int (own_b2 p1)), .val (.int (0 : Int32)), .val (.int (p3 &&& (2147483647 : Int32))), .unset, .unset, .unset, .unset, .unset, .unset] [(.int (((p2.toUInt32 >>> ((8 : Int32) &&& 31).toUInt32).toInt32) &&& (1 : Int32)))])) t
              refine XS.ifNo X0.here hx rfl (hb hby at_149) rfl ((if0 _ _).trans (feq hc149).1) ?_
              exact kt
            refine OGW.step (F' := s₁.setTop (mkF m 163 #[.val (.int p0), .val (.int p1), .val (.int p2), .val (.int p3), .val (.int p4), .val (.int (p2 &&& (3 : Int32))), .val (.int (own_hl p2)), .val (.int (own_n0 p0)), .val (.int (own_n1 p0)), .val (.int (own_n2 p0)), .val (.int (own_b0 p1)), .val (.int (own_n1 p0)), .val (.int (own_b2 p1)), .val (.int (0 : Int32)), .val (.int (p3 &&& (2147483647 : Int32))), .val (.int (p3 &&& (2147483647 : Int32))), .unset, .unset, .unset, .unset, .unset] [])) (fun t kt => ?_) ?_
            · show Steps p.tables e below (s₁.setTop (mkF m 152 #[.val (.int p0), .val (.int p1), .val (.int p2), .val (.int p3), .val (.int p4), .val (.int (p2 &&& (3 : Int32))), .val (.int (own_hl p2)), .val (.int (own_n0 p0)), .val (.int (own_n1 p0)), .val (.int (own_n2 p0)), .val (.int (own_b0 p1)), .val (.int (own_n1 p0)), .val (.int (own_b2 p1)), .val (.int (0 : Int32)), .val (.int (p3 &&& (2147483647 : Int32))), .unset, .unset, .unset, .unset, .unset, .unset] [])) t
              refine XS.iloadN X0.here hx rfl (hb hby at_152) rfl ?_
              refine X0.ldcInt hx hown (mvT hZ (own_wd hw 0 rfl)) (g := (mkF m 153 #[.val (.int p0), .val (.int p1), .val (.int p2), .val (.int p3), .val (.int p4), .val (.int (p2 &&& (3 : Int32))), .val (.int (own_hl p2)), .val (.int (own_n0 p0)), .val (.int (own_n1 p0)), .val (.int (own_n2 p0)), .val (.int (own_b0 p1)), .val (.int (own_n1 p0)), .val (.int (own_b2 p1)), .val (.int (0 : Int32)), .val (.int (p3 &&& (2147483647 : Int32))), .unset, .unset, .unset, .unset, .unset, .unset] [(.int p3)])) rfl (hb hby at_153) _ ?_
              refine XS.iand X0.here hx rfl (hb hby at_155) rfl ?_
              refine XS.goto X0.here hx rfl (pc0 := 156) (pc' := 161) rfl (hb hby at_156) (by decide) (by decide) ?_
              refine XS.istore X0.here hx rfl (hb hby at_161) rfl (l' := #[.val (.int p0), .val (.int p1), .val (.int p2), .val (.int p3), .val (.int p4), .val (.int (p2 &&& (3 : Int32))), .val (.int (own_hl p2)), .val (.int (own_n0 p0)), .val (.int (own_n1 p0)), .val (.int (own_n2 p0)), .val (.int (own_b0 p1)), .val (.int (own_n1 p0)), .val (.int (own_b2 p1)), .val (.int (0 : Int32)), .val (.int (p3 &&& (2147483647 : Int32))), .val (.int (p3 &&& (2147483647 : Int32))), .unset, .unset, .unset, .unset, .unset]) rfl ?_
              exact kt
            exact J _ _ _ _ _ _ (own_rb0 _) (own_rn1 _) (own_rb2 _) (Or.inl ⟨rfl, own_pp _⟩)
        · refine OGW.step (F' := s₁.setTop (mkF m 121 #[.val (.int p0), .val (.int p1), .val (.int p2), .val (.int p3), .val (.int p4), .val (.int (p2 &&& (3 : Int32))), .val (.int (own_hl p2)), .val (.int (own_n0 p0)), .val (.int (own_n1 p0)), .val (.int (own_n2 p0)), .val (.int (own_b0 p1)), .val (.int (own_n1 p0)), .val (.int (own_b2 p1)), .unset, .unset, .unset, .unset, .unset, .unset, .unset, .unset] [])) (fun t kt => ?_) ?_
          · show Steps p.tables e below (s₁.setTop (mkF m 118 #[.val (.int p0), .val (.int p1), .val (.int p2), .val (.int p3), .val (.int p4), .val (.int (p2 &&& (3 : Int32))), .val (.int (own_hl p2)), .val (.int (own_n0 p0)), .val (.int (own_n1 p0)), .val (.int (own_n2 p0)), .val (.int (own_b0 p1)), .val (.int (own_n1 p0)), .val (.int (own_b2 p1)), .unset, .unset, .unset, .unset, .unset, .unset, .unset, .unset] [(.int (((p2.toUInt32 >>> ((7 : Int32) &&& 31).toUInt32).toInt32) &&& (1 : Int32)))])) t
            refine XS.ifNo X0.here hx rfl (hb hby at_118) rfl ((if0 _ _).trans (feq hc118).1) ?_
            exact kt
          refine OGW.step (F' := s₁.setTop (mkF m 149 #[.val (.int p0), .val (.int p1), .val (.int p2), .val (.int p3), .val (.int p4), .val (.int (p2 &&& (3 : Int32))), .val (.int (own_hl p2)), .val (.int (own_n0 p0)), .val (.int (own_n1 p0)), .val (.int (own_n2 p0)), .val (.int (own_b0 p1)), .val (.int (own_n1 p0)), .val (.int (own_b2 p1)), .val (.int (1 : Int32)), .val (.int (-1 : Int32)), .unset, .unset, .unset, .unset, .unset, .unset] [(.int (((p2.toUInt32 >>> ((8 : Int32) &&& 31).toUInt32).toInt32) &&& (1 : Int32)))])) (fun t kt => ?_) ?_
          · show Steps p.tables e below (s₁.setTop (mkF m 121 #[.val (.int p0), .val (.int p1), .val (.int p2), .val (.int p3), .val (.int p4), .val (.int (p2 &&& (3 : Int32))), .val (.int (own_hl p2)), .val (.int (own_n0 p0)), .val (.int (own_n1 p0)), .val (.int (own_n2 p0)), .val (.int (own_b0 p1)), .val (.int (own_n1 p0)), .val (.int (own_b2 p1)), .unset, .unset, .unset, .unset, .unset, .unset, .unset, .unset] [])) t
            refine XS.iconst X0.here hx rfl (hb hby at_121) ?_
            refine XS.goto X0.here hx rfl (pc0 := 122) (pc' := 126) rfl (hb hby at_122) (by decide) (by decide) ?_
            refine XS.istore X0.here hx rfl (hb hby at_126) rfl (l' := #[.val (.int p0), .val (.int p1), .val (.int p2), .val (.int p3), .val (.int p4), .val (.int (p2 &&& (3 : Int32))), .val (.int (own_hl p2)), .val (.int (own_n0 p0)), .val (.int (own_n1 p0)), .val (.int (own_n2 p0)), .val (.int (own_b0 p1)), .val (.int (own_n1 p0)), .val (.int (own_b2 p1)), .val (.int (1 : Int32)), .unset, .unset, .unset, .unset, .unset, .unset, .unset]) rfl ?_
            refine XS.iload X0.here hx rfl (hb hby at_128) rfl ?_
            refine XS.ifNo X0.here hx rfl (hb hby at_130) rfl ((if0 _ _).trans (feq (by decide : ¬ ((1 : Int32) = (0 : Int32)))).1) ?_
            refine XS.iconst X0.here hx rfl (hb hby at_133) ?_
            refine XS.goto X0.here hx rfl (pc0 := 134) (pc' := 141) rfl (hb hby at_134) (by decide) (by decide) ?_
            refine XS.istore X0.here hx rfl (hb hby at_141) rfl (l' := #[.val (.int p0), .val (.int p1), .val (.int p2), .val (.int p3), .val (.int p4), .val (.int (p2 &&& (3 : Int32))), .val (.int (own_hl p2)), .val (.int (own_n0 p0)), .val (.int (own_n1 p0)), .val (.int (own_n2 p0)), .val (.int (own_b0 p1)), .val (.int (own_n1 p0)), .val (.int (own_b2 p1)), .val (.int (1 : Int32)), .val (.int (-1 : Int32)), .unset, .unset, .unset, .unset, .unset, .unset]) rfl ?_
            refine XS.iloadN X0.here hx rfl (hb hby at_143) rfl ?_
            refine XS.bipush X0.here hx rfl (hb hby at_144) ?_
            refine XS.iushr X0.here hx rfl (hb hby at_146) rfl ?_
            refine XS.iconst X0.here hx rfl (hb hby at_147) ?_
            refine XS.iand X0.here hx rfl (hb hby at_148) rfl ?_
            exact kt
          by_cases hc149 : (((p2.toUInt32 >>> ((8 : Int32) &&& 31).toUInt32).toInt32) &&& (1 : Int32)) = (0 : Int32)
          · refine OGW.step (F' := s₁.setTop (mkF m 159 #[.val (.int p0), .val (.int p1), .val (.int p2), .val (.int p3), .val (.int p4), .val (.int (p2 &&& (3 : Int32))), .val (.int (own_hl p2)), .val (.int (own_n0 p0)), .val (.int (own_n1 p0)), .val (.int (own_n2 p0)), .val (.int (own_b0 p1)), .val (.int (own_n1 p0)), .val (.int (own_b2 p1)), .val (.int (1 : Int32)), .val (.int (-1 : Int32)), .unset, .unset, .unset, .unset, .unset, .unset] [])) (fun t kt => ?_) ?_
            · show Steps p.tables e below (s₁.setTop (mkF m 149 #[.val (.int p0), .val (.int p1), .val (.int p2), .val (.int p3), .val (.int p4), .val (.int (p2 &&& (3 : Int32))), .val (.int (own_hl p2)), .val (.int (own_n0 p0)), .val (.int (own_n1 p0)), .val (.int (own_n2 p0)), .val (.int (own_b0 p1)), .val (.int (own_n1 p0)), .val (.int (own_b2 p1)), .val (.int (1 : Int32)), .val (.int (-1 : Int32)), .unset, .unset, .unset, .unset, .unset, .unset] [(.int (((p2.toUInt32 >>> ((8 : Int32) &&& 31).toUInt32).toInt32) &&& (1 : Int32)))])) t
              refine XS.ifYes X0.here hx rfl (pc0 := 149) (pc' := 159) rfl (hb hby at_149) rfl ((if0 _ _).trans (teq hc149).1) (by decide) (by decide) ?_
              exact kt
            refine OGW.step (F' := s₁.setTop (mkF m 163 #[.val (.int p0), .val (.int p1), .val (.int p2), .val (.int p3), .val (.int p4), .val (.int (p2 &&& (3 : Int32))), .val (.int (own_hl p2)), .val (.int (own_n0 p0)), .val (.int (own_n1 p0)), .val (.int (own_n2 p0)), .val (.int (own_b0 p1)), .val (.int (own_n1 p0)), .val (.int (own_b2 p1)), .val (.int (1 : Int32)), .val (.int (-1 : Int32)), .val (.int p4), .unset, .unset, .unset, .unset, .unset] [])) (fun t kt => ?_) ?_
            · show Steps p.tables e below (s₁.setTop (mkF m 159 #[.val (.int p0), .val (.int p1), .val (.int p2), .val (.int p3), .val (.int p4), .val (.int (p2 &&& (3 : Int32))), .val (.int (own_hl p2)), .val (.int (own_n0 p0)), .val (.int (own_n1 p0)), .val (.int (own_n2 p0)), .val (.int (own_b0 p1)), .val (.int (own_n1 p0)), .val (.int (own_b2 p1)), .val (.int (1 : Int32)), .val (.int (-1 : Int32)), .unset, .unset, .unset, .unset, .unset, .unset] [])) t
              refine XS.iload X0.here hx rfl (hb hby at_159) rfl ?_
              refine XS.istore X0.here hx rfl (hb hby at_161) rfl (l' := #[.val (.int p0), .val (.int p1), .val (.int p2), .val (.int p3), .val (.int p4), .val (.int (p2 &&& (3 : Int32))), .val (.int (own_hl p2)), .val (.int (own_n0 p0)), .val (.int (own_n1 p0)), .val (.int (own_n2 p0)), .val (.int (own_b0 p1)), .val (.int (own_n1 p0)), .val (.int (own_b2 p1)), .val (.int (1 : Int32)), .val (.int (-1 : Int32)), .val (.int p4), .unset, .unset, .unset, .unset, .unset]) rfl ?_
              exact kt
            exact J _ _ _ _ _ _ (own_rb0 _) (own_rn1 _) (own_rb2 _) (Or.inr ⟨by decide, by decide⟩)
          · refine OGW.step (F' := s₁.setTop (mkF m 152 #[.val (.int p0), .val (.int p1), .val (.int p2), .val (.int p3), .val (.int p4), .val (.int (p2 &&& (3 : Int32))), .val (.int (own_hl p2)), .val (.int (own_n0 p0)), .val (.int (own_n1 p0)), .val (.int (own_n2 p0)), .val (.int (own_b0 p1)), .val (.int (own_n1 p0)), .val (.int (own_b2 p1)), .val (.int (1 : Int32)), .val (.int (-1 : Int32)), .unset, .unset, .unset, .unset, .unset, .unset] [])) (fun t kt => ?_) ?_
            · show Steps p.tables e below (s₁.setTop (mkF m 149 #[.val (.int p0), .val (.int p1), .val (.int p2), .val (.int p3), .val (.int p4), .val (.int (p2 &&& (3 : Int32))), .val (.int (own_hl p2)), .val (.int (own_n0 p0)), .val (.int (own_n1 p0)), .val (.int (own_n2 p0)), .val (.int (own_b0 p1)), .val (.int (own_n1 p0)), .val (.int (own_b2 p1)), .val (.int (1 : Int32)), .val (.int (-1 : Int32)), .unset, .unset, .unset, .unset, .unset, .unset] [(.int (((p2.toUInt32 >>> ((8 : Int32) &&& 31).toUInt32).toInt32) &&& (1 : Int32)))])) t
              refine XS.ifNo X0.here hx rfl (hb hby at_149) rfl ((if0 _ _).trans (feq hc149).1) ?_
              exact kt
            refine OGW.step (F' := s₁.setTop (mkF m 163 #[.val (.int p0), .val (.int p1), .val (.int p2), .val (.int p3), .val (.int p4), .val (.int (p2 &&& (3 : Int32))), .val (.int (own_hl p2)), .val (.int (own_n0 p0)), .val (.int (own_n1 p0)), .val (.int (own_n2 p0)), .val (.int (own_b0 p1)), .val (.int (own_n1 p0)), .val (.int (own_b2 p1)), .val (.int (1 : Int32)), .val (.int (-1 : Int32)), .val (.int (p3 &&& (2147483647 : Int32))), .unset, .unset, .unset, .unset, .unset] [])) (fun t kt => ?_) ?_
            · show Steps p.tables e below (s₁.setTop (mkF m 152 #[.val (.int p0), .val (.int p1), .val (.int p2), .val (.int p3), .val (.int p4), .val (.int (p2 &&& (3 : Int32))), .val (.int (own_hl p2)), .val (.int (own_n0 p0)), .val (.int (own_n1 p0)), .val (.int (own_n2 p0)), .val (.int (own_b0 p1)), .val (.int (own_n1 p0)), .val (.int (own_b2 p1)), .val (.int (1 : Int32)), .val (.int (-1 : Int32)), .unset, .unset, .unset, .unset, .unset, .unset] [])) t
              refine XS.iloadN X0.here hx rfl (hb hby at_152) rfl ?_
              refine X0.ldcInt hx hown (mvT hZ (own_wd hw 0 rfl)) (g := (mkF m 153 #[.val (.int p0), .val (.int p1), .val (.int p2), .val (.int p3), .val (.int p4), .val (.int (p2 &&& (3 : Int32))), .val (.int (own_hl p2)), .val (.int (own_n0 p0)), .val (.int (own_n1 p0)), .val (.int (own_n2 p0)), .val (.int (own_b0 p1)), .val (.int (own_n1 p0)), .val (.int (own_b2 p1)), .val (.int (1 : Int32)), .val (.int (-1 : Int32)), .unset, .unset, .unset, .unset, .unset, .unset] [(.int p3)])) rfl (hb hby at_153) _ ?_
              refine XS.iand X0.here hx rfl (hb hby at_155) rfl ?_
              refine XS.goto X0.here hx rfl (pc0 := 156) (pc' := 161) rfl (hb hby at_156) (by decide) (by decide) ?_
              refine XS.istore X0.here hx rfl (hb hby at_161) rfl (l' := #[.val (.int p0), .val (.int p1), .val (.int p2), .val (.int p3), .val (.int p4), .val (.int (p2 &&& (3 : Int32))), .val (.int (own_hl p2)), .val (.int (own_n0 p0)), .val (.int (own_n1 p0)), .val (.int (own_n2 p0)), .val (.int (own_b0 p1)), .val (.int (own_n1 p0)), .val (.int (own_b2 p1)), .val (.int (1 : Int32)), .val (.int (-1 : Int32)), .val (.int (p3 &&& (2147483647 : Int32))), .unset, .unset, .unset, .unset, .unset]) rfl ?_
              exact kt
            exact J _ _ _ _ _ _ (own_rb0 _) (own_rn1 _) (own_rb2 _) (Or.inr ⟨by decide, by decide⟩)
      · refine OGW.step (F' := s₁.setTop (mkF m 96 #[.val (.int p0), .val (.int p1), .val (.int p2), .val (.int p3), .val (.int p4), .val (.int (p2 &&& (3 : Int32))), .val (.int (own_hl p2)), .val (.int (own_n0 p0)), .val (.int (own_n1 p0)), .val (.int (own_n2 p0)), .val (.int (own_b0 p1)), .val (.int (own_n1 p0)), .unset, .unset, .unset, .unset, .unset, .unset, .unset, .unset, .unset] [])) (fun t kt => ?_) ?_
        · show Steps p.tables e below (s₁.setTop (mkF m 93 #[.val (.int p0), .val (.int p1), .val (.int p2), .val (.int p3), .val (.int p4), .val (.int (p2 &&& (3 : Int32))), .val (.int (own_hl p2)), .val (.int (own_n0 p0)), .val (.int (own_n1 p0)), .val (.int (own_n2 p0)), .val (.int (own_b0 p1)), .val (.int (own_n1 p0)), .unset, .unset, .unset, .unset, .unset, .unset, .unset, .unset, .unset] [(.int (((p2.toUInt32 >>> ((6 : Int32) &&& 31).toUInt32).toInt32) &&& (1 : Int32)))])) t
          refine XS.ifNo X0.here hx rfl (hb hby at_93) rfl ((if0 _ _).trans (feq hc93).1) ?_
          exact kt
        refine OGW.step (F' := s₁.setTop (mkF m 118 #[.val (.int p0), .val (.int p1), .val (.int p2), .val (.int p3), .val (.int p4), .val (.int (p2 &&& (3 : Int32))), .val (.int (own_hl p2)), .val (.int (own_n0 p0)), .val (.int (own_n1 p0)), .val (.int (own_n2 p0)), .val (.int (own_b0 p1)), .val (.int (own_n1 p0)), .val (.int (own_n2 p0)), .unset, .unset, .unset, .unset, .unset, .unset, .unset, .unset] [(.int (((p2.toUInt32 >>> ((7 : Int32) &&& 31).toUInt32).toInt32) &&& (1 : Int32)))])) (fun t kt => ?_) ?_
        · show Steps p.tables e below (s₁.setTop (mkF m 96 #[.val (.int p0), .val (.int p1), .val (.int p2), .val (.int p3), .val (.int p4), .val (.int (p2 &&& (3 : Int32))), .val (.int (own_hl p2)), .val (.int (own_n0 p0)), .val (.int (own_n1 p0)), .val (.int (own_n2 p0)), .val (.int (own_b0 p1)), .val (.int (own_n1 p0)), .unset, .unset, .unset, .unset, .unset, .unset, .unset, .unset, .unset] [])) t
          refine XS.iload X0.here hx rfl (hb hby at_96) rfl ?_
          refine XS.goto X0.here hx rfl (pc0 := 98) (pc' := 110) rfl (hb hby at_98) (by decide) (by decide) ?_
          refine XS.istore X0.here hx rfl (hb hby at_110) rfl (l' := #[.val (.int p0), .val (.int p1), .val (.int p2), .val (.int p3), .val (.int p4), .val (.int (p2 &&& (3 : Int32))), .val (.int (own_hl p2)), .val (.int (own_n0 p0)), .val (.int (own_n1 p0)), .val (.int (own_n2 p0)), .val (.int (own_b0 p1)), .val (.int (own_n1 p0)), .val (.int (own_n2 p0)), .unset, .unset, .unset, .unset, .unset, .unset, .unset, .unset]) rfl ?_
          refine XS.iloadN X0.here hx rfl (hb hby at_112) rfl ?_
          refine XS.bipush X0.here hx rfl (hb hby at_113) ?_
          refine XS.iushr X0.here hx rfl (hb hby at_115) rfl ?_
          refine XS.iconst X0.here hx rfl (hb hby at_116) ?_
          refine XS.iand X0.here hx rfl (hb hby at_117) rfl ?_
          exact kt
        by_cases hc118 : (((p2.toUInt32 >>> ((7 : Int32) &&& 31).toUInt32).toInt32) &&& (1 : Int32)) = (0 : Int32)
        · refine OGW.step (F' := s₁.setTop (mkF m 125 #[.val (.int p0), .val (.int p1), .val (.int p2), .val (.int p3), .val (.int p4), .val (.int (p2 &&& (3 : Int32))), .val (.int (own_hl p2)), .val (.int (own_n0 p0)), .val (.int (own_n1 p0)), .val (.int (own_n2 p0)), .val (.int (own_b0 p1)), .val (.int (own_n1 p0)), .val (.int (own_n2 p0)), .unset, .unset, .unset, .unset, .unset, .unset, .unset, .unset] [])) (fun t kt => ?_) ?_
          · show Steps p.tables e below (s₁.setTop (mkF m 118 #[.val (.int p0), .val (.int p1), .val (.int p2), .val (.int p3), .val (.int p4), .val (.int (p2 &&& (3 : Int32))), .val (.int (own_hl p2)), .val (.int (own_n0 p0)), .val (.int (own_n1 p0)), .val (.int (own_n2 p0)), .val (.int (own_b0 p1)), .val (.int (own_n1 p0)), .val (.int (own_n2 p0)), .unset, .unset, .unset, .unset, .unset, .unset, .unset, .unset] [(.int (((p2.toUInt32 >>> ((7 : Int32) &&& 31).toUInt32).toInt32) &&& (1 : Int32)))])) t
            refine XS.ifYes X0.here hx rfl (pc0 := 118) (pc' := 125) rfl (hb hby at_118) rfl ((if0 _ _).trans (teq hc118).1) (by decide) (by decide) ?_
            exact kt
          refine OGW.step (F' := s₁.setTop (mkF m 149 #[.val (.int p0), .val (.int p1), .val (.int p2), .val (.int p3), .val (.int p4), .val (.int (p2 &&& (3 : Int32))), .val (.int (own_hl p2)), .val (.int (own_n0 p0)), .val (.int (own_n1 p0)), .val (.int (own_n2 p0)), .val (.int (own_b0 p1)), .val (.int (own_n1 p0)), .val (.int (own_n2 p0)), .val (.int (0 : Int32)), .val (.int (p3 &&& (2147483647 : Int32))), .unset, .unset, .unset, .unset, .unset, .unset] [(.int (((p2.toUInt32 >>> ((8 : Int32) &&& 31).toUInt32).toInt32) &&& (1 : Int32)))])) (fun t kt => ?_) ?_
          · show Steps p.tables e below (s₁.setTop (mkF m 125 #[.val (.int p0), .val (.int p1), .val (.int p2), .val (.int p3), .val (.int p4), .val (.int (p2 &&& (3 : Int32))), .val (.int (own_hl p2)), .val (.int (own_n0 p0)), .val (.int (own_n1 p0)), .val (.int (own_n2 p0)), .val (.int (own_b0 p1)), .val (.int (own_n1 p0)), .val (.int (own_n2 p0)), .unset, .unset, .unset, .unset, .unset, .unset, .unset, .unset] [])) t
            refine XS.iconst X0.here hx rfl (hb hby at_125) ?_
            refine XS.istore X0.here hx rfl (hb hby at_126) rfl (l' := #[.val (.int p0), .val (.int p1), .val (.int p2), .val (.int p3), .val (.int p4), .val (.int (p2 &&& (3 : Int32))), .val (.int (own_hl p2)), .val (.int (own_n0 p0)), .val (.int (own_n1 p0)), .val (.int (own_n2 p0)), .val (.int (own_b0 p1)), .val (.int (own_n1 p0)), .val (.int (own_n2 p0)), .val (.int (0 : Int32)), .unset, .unset, .unset, .unset, .unset, .unset, .unset]) rfl ?_
            refine XS.iload X0.here hx rfl (hb hby at_128) rfl ?_
            refine XS.ifYes X0.here hx rfl (pc0 := 130) (pc' := 137) rfl (hb hby at_130) rfl ((if0 _ _).trans (teq (by decide : (0 : Int32) = (0 : Int32))).1) (by decide) (by decide) ?_
            refine XS.iloadN X0.here hx rfl (hb hby at_137) rfl ?_
            refine X0.ldcInt hx hown (mvT hZ (own_wd hw 0 rfl)) (g := (mkF m 138 #[.val (.int p0), .val (.int p1), .val (.int p2), .val (.int p3), .val (.int p4), .val (.int (p2 &&& (3 : Int32))), .val (.int (own_hl p2)), .val (.int (own_n0 p0)), .val (.int (own_n1 p0)), .val (.int (own_n2 p0)), .val (.int (own_b0 p1)), .val (.int (own_n1 p0)), .val (.int (own_n2 p0)), .val (.int (0 : Int32)), .unset, .unset, .unset, .unset, .unset, .unset, .unset] [(.int p3)])) rfl (hb hby at_138) _ ?_
            refine XS.iand X0.here hx rfl (hb hby at_140) rfl ?_
            refine XS.istore X0.here hx rfl (hb hby at_141) rfl (l' := #[.val (.int p0), .val (.int p1), .val (.int p2), .val (.int p3), .val (.int p4), .val (.int (p2 &&& (3 : Int32))), .val (.int (own_hl p2)), .val (.int (own_n0 p0)), .val (.int (own_n1 p0)), .val (.int (own_n2 p0)), .val (.int (own_b0 p1)), .val (.int (own_n1 p0)), .val (.int (own_n2 p0)), .val (.int (0 : Int32)), .val (.int (p3 &&& (2147483647 : Int32))), .unset, .unset, .unset, .unset, .unset, .unset]) rfl ?_
            refine XS.iloadN X0.here hx rfl (hb hby at_143) rfl ?_
            refine XS.bipush X0.here hx rfl (hb hby at_144) ?_
            refine XS.iushr X0.here hx rfl (hb hby at_146) rfl ?_
            refine XS.iconst X0.here hx rfl (hb hby at_147) ?_
            refine XS.iand X0.here hx rfl (hb hby at_148) rfl ?_
            exact kt
          by_cases hc149 : (((p2.toUInt32 >>> ((8 : Int32) &&& 31).toUInt32).toInt32) &&& (1 : Int32)) = (0 : Int32)
          · refine OGW.step (F' := s₁.setTop (mkF m 159 #[.val (.int p0), .val (.int p1), .val (.int p2), .val (.int p3), .val (.int p4), .val (.int (p2 &&& (3 : Int32))), .val (.int (own_hl p2)), .val (.int (own_n0 p0)), .val (.int (own_n1 p0)), .val (.int (own_n2 p0)), .val (.int (own_b0 p1)), .val (.int (own_n1 p0)), .val (.int (own_n2 p0)), .val (.int (0 : Int32)), .val (.int (p3 &&& (2147483647 : Int32))), .unset, .unset, .unset, .unset, .unset, .unset] [])) (fun t kt => ?_) ?_
            · show Steps p.tables e below (s₁.setTop (mkF m 149 #[.val (.int p0), .val (.int p1), .val (.int p2), .val (.int p3), .val (.int p4), .val (.int (p2 &&& (3 : Int32))), .val (.int (own_hl p2)), .val (.int (own_n0 p0)), .val (.int (own_n1 p0)), .val (.int (own_n2 p0)), .val (.int (own_b0 p1)), .val (.int (own_n1 p0)), .val (.int (own_n2 p0)), .val (.int (0 : Int32)), .val (.int (p3 &&& (2147483647 : Int32))), .unset, .unset, .unset, .unset, .unset, .unset] [(.int (((p2.toUInt32 >>> ((8 : Int32) &&& 31).toUInt32).toInt32) &&& (1 : Int32)))])) t
              refine XS.ifYes X0.here hx rfl (pc0 := 149) (pc' := 159) rfl (hb hby at_149) rfl ((if0 _ _).trans (teq hc149).1) (by decide) (by decide) ?_
              exact kt
            refine OGW.step (F' := s₁.setTop (mkF m 163 #[.val (.int p0), .val (.int p1), .val (.int p2), .val (.int p3), .val (.int p4), .val (.int (p2 &&& (3 : Int32))), .val (.int (own_hl p2)), .val (.int (own_n0 p0)), .val (.int (own_n1 p0)), .val (.int (own_n2 p0)), .val (.int (own_b0 p1)), .val (.int (own_n1 p0)), .val (.int (own_n2 p0)), .val (.int (0 : Int32)), .val (.int (p3 &&& (2147483647 : Int32))), .val (.int p4), .unset, .unset, .unset, .unset, .unset] [])) (fun t kt => ?_) ?_
            · show Steps p.tables e below (s₁.setTop (mkF m 159 #[.val (.int p0), .val (.int p1), .val (.int p2), .val (.int p3), .val (.int p4), .val (.int (p2 &&& (3 : Int32))), .val (.int (own_hl p2)), .val (.int (own_n0 p0)), .val (.int (own_n1 p0)), .val (.int (own_n2 p0)), .val (.int (own_b0 p1)), .val (.int (own_n1 p0)), .val (.int (own_n2 p0)), .val (.int (0 : Int32)), .val (.int (p3 &&& (2147483647 : Int32))), .unset, .unset, .unset, .unset, .unset, .unset] [])) t
              refine XS.iload X0.here hx rfl (hb hby at_159) rfl ?_
              refine XS.istore X0.here hx rfl (hb hby at_161) rfl (l' := #[.val (.int p0), .val (.int p1), .val (.int p2), .val (.int p3), .val (.int p4), .val (.int (p2 &&& (3 : Int32))), .val (.int (own_hl p2)), .val (.int (own_n0 p0)), .val (.int (own_n1 p0)), .val (.int (own_n2 p0)), .val (.int (own_b0 p1)), .val (.int (own_n1 p0)), .val (.int (own_n2 p0)), .val (.int (0 : Int32)), .val (.int (p3 &&& (2147483647 : Int32))), .val (.int p4), .unset, .unset, .unset, .unset, .unset]) rfl ?_
              exact kt
            exact J _ _ _ _ _ _ (own_rb0 _) (own_rn1 _) (own_rn2 _) (Or.inl ⟨rfl, own_pp _⟩)
          · refine OGW.step (F' := s₁.setTop (mkF m 152 #[.val (.int p0), .val (.int p1), .val (.int p2), .val (.int p3), .val (.int p4), .val (.int (p2 &&& (3 : Int32))), .val (.int (own_hl p2)), .val (.int (own_n0 p0)), .val (.int (own_n1 p0)), .val (.int (own_n2 p0)), .val (.int (own_b0 p1)), .val (.int (own_n1 p0)), .val (.int (own_n2 p0)), .val (.int (0 : Int32)), .val (.int (p3 &&& (2147483647 : Int32))), .unset, .unset, .unset, .unset, .unset, .unset] [])) (fun t kt => ?_) ?_
            · show Steps p.tables e below (s₁.setTop (mkF m 149 #[.val (.int p0), .val (.int p1), .val (.int p2), .val (.int p3), .val (.int p4), .val (.int (p2 &&& (3 : Int32))), .val (.int (own_hl p2)), .val (.int (own_n0 p0)), .val (.int (own_n1 p0)), .val (.int (own_n2 p0)), .val (.int (own_b0 p1)), .val (.int (own_n1 p0)), .val (.int (own_n2 p0)), .val (.int (0 : Int32)), .val (.int (p3 &&& (2147483647 : Int32))), .unset, .unset, .unset, .unset, .unset, .unset] [(.int (((p2.toUInt32 >>> ((8 : Int32) &&& 31).toUInt32).toInt32) &&& (1 : Int32)))])) t
              refine XS.ifNo X0.here hx rfl (hb hby at_149) rfl ((if0 _ _).trans (feq hc149).1) ?_
              exact kt
            refine OGW.step (F' := s₁.setTop (mkF m 163 #[.val (.int p0), .val (.int p1), .val (.int p2), .val (.int p3), .val (.int p4), .val (.int (p2 &&& (3 : Int32))), .val (.int (own_hl p2)), .val (.int (own_n0 p0)), .val (.int (own_n1 p0)), .val (.int (own_n2 p0)), .val (.int (own_b0 p1)), .val (.int (own_n1 p0)), .val (.int (own_n2 p0)), .val (.int (0 : Int32)), .val (.int (p3 &&& (2147483647 : Int32))), .val (.int (p3 &&& (2147483647 : Int32))), .unset, .unset, .unset, .unset, .unset] [])) (fun t kt => ?_) ?_
            · show Steps p.tables e below (s₁.setTop (mkF m 152 #[.val (.int p0), .val (.int p1), .val (.int p2), .val (.int p3), .val (.int p4), .val (.int (p2 &&& (3 : Int32))), .val (.int (own_hl p2)), .val (.int (own_n0 p0)), .val (.int (own_n1 p0)), .val (.int (own_n2 p0)), .val (.int (own_b0 p1)), .val (.int (own_n1 p0)), .val (.int (own_n2 p0)), .val (.int (0 : Int32)), .val (.int (p3 &&& (2147483647 : Int32))), .unset, .unset, .unset, .unset, .unset, .unset] [])) t
              refine XS.iloadN X0.here hx rfl (hb hby at_152) rfl ?_
              refine X0.ldcInt hx hown (mvT hZ (own_wd hw 0 rfl)) (g := (mkF m 153 #[.val (.int p0), .val (.int p1), .val (.int p2), .val (.int p3), .val (.int p4), .val (.int (p2 &&& (3 : Int32))), .val (.int (own_hl p2)), .val (.int (own_n0 p0)), .val (.int (own_n1 p0)), .val (.int (own_n2 p0)), .val (.int (own_b0 p1)), .val (.int (own_n1 p0)), .val (.int (own_n2 p0)), .val (.int (0 : Int32)), .val (.int (p3 &&& (2147483647 : Int32))), .unset, .unset, .unset, .unset, .unset, .unset] [(.int p3)])) rfl (hb hby at_153) _ ?_
              refine XS.iand X0.here hx rfl (hb hby at_155) rfl ?_
              refine XS.goto X0.here hx rfl (pc0 := 156) (pc' := 161) rfl (hb hby at_156) (by decide) (by decide) ?_
              refine XS.istore X0.here hx rfl (hb hby at_161) rfl (l' := #[.val (.int p0), .val (.int p1), .val (.int p2), .val (.int p3), .val (.int p4), .val (.int (p2 &&& (3 : Int32))), .val (.int (own_hl p2)), .val (.int (own_n0 p0)), .val (.int (own_n1 p0)), .val (.int (own_n2 p0)), .val (.int (own_b0 p1)), .val (.int (own_n1 p0)), .val (.int (own_n2 p0)), .val (.int (0 : Int32)), .val (.int (p3 &&& (2147483647 : Int32))), .val (.int (p3 &&& (2147483647 : Int32))), .unset, .unset, .unset, .unset, .unset]) rfl ?_
              exact kt
            exact J _ _ _ _ _ _ (own_rb0 _) (own_rn1 _) (own_rn2 _) (Or.inl ⟨rfl, own_pp _⟩)
        · refine OGW.step (F' := s₁.setTop (mkF m 121 #[.val (.int p0), .val (.int p1), .val (.int p2), .val (.int p3), .val (.int p4), .val (.int (p2 &&& (3 : Int32))), .val (.int (own_hl p2)), .val (.int (own_n0 p0)), .val (.int (own_n1 p0)), .val (.int (own_n2 p0)), .val (.int (own_b0 p1)), .val (.int (own_n1 p0)), .val (.int (own_n2 p0)), .unset, .unset, .unset, .unset, .unset, .unset, .unset, .unset] [])) (fun t kt => ?_) ?_
          · show Steps p.tables e below (s₁.setTop (mkF m 118 #[.val (.int p0), .val (.int p1), .val (.int p2), .val (.int p3), .val (.int p4), .val (.int (p2 &&& (3 : Int32))), .val (.int (own_hl p2)), .val (.int (own_n0 p0)), .val (.int (own_n1 p0)), .val (.int (own_n2 p0)), .val (.int (own_b0 p1)), .val (.int (own_n1 p0)), .val (.int (own_n2 p0)), .unset, .unset, .unset, .unset, .unset, .unset, .unset, .unset] [(.int (((p2.toUInt32 >>> ((7 : Int32) &&& 31).toUInt32).toInt32) &&& (1 : Int32)))])) t
            refine XS.ifNo X0.here hx rfl (hb hby at_118) rfl ((if0 _ _).trans (feq hc118).1) ?_
            exact kt
          refine OGW.step (F' := s₁.setTop (mkF m 149 #[.val (.int p0), .val (.int p1), .val (.int p2), .val (.int p3), .val (.int p4), .val (.int (p2 &&& (3 : Int32))), .val (.int (own_hl p2)), .val (.int (own_n0 p0)), .val (.int (own_n1 p0)), .val (.int (own_n2 p0)), .val (.int (own_b0 p1)), .val (.int (own_n1 p0)), .val (.int (own_n2 p0)), .val (.int (1 : Int32)), .val (.int (-1 : Int32)), .unset, .unset, .unset, .unset, .unset, .unset] [(.int (((p2.toUInt32 >>> ((8 : Int32) &&& 31).toUInt32).toInt32) &&& (1 : Int32)))])) (fun t kt => ?_) ?_
          · show Steps p.tables e below (s₁.setTop (mkF m 121 #[.val (.int p0), .val (.int p1), .val (.int p2), .val (.int p3), .val (.int p4), .val (.int (p2 &&& (3 : Int32))), .val (.int (own_hl p2)), .val (.int (own_n0 p0)), .val (.int (own_n1 p0)), .val (.int (own_n2 p0)), .val (.int (own_b0 p1)), .val (.int (own_n1 p0)), .val (.int (own_n2 p0)), .unset, .unset, .unset, .unset, .unset, .unset, .unset, .unset] [])) t
            refine XS.iconst X0.here hx rfl (hb hby at_121) ?_
            refine XS.goto X0.here hx rfl (pc0 := 122) (pc' := 126) rfl (hb hby at_122) (by decide) (by decide) ?_
            refine XS.istore X0.here hx rfl (hb hby at_126) rfl (l' := #[.val (.int p0), .val (.int p1), .val (.int p2), .val (.int p3), .val (.int p4), .val (.int (p2 &&& (3 : Int32))), .val (.int (own_hl p2)), .val (.int (own_n0 p0)), .val (.int (own_n1 p0)), .val (.int (own_n2 p0)), .val (.int (own_b0 p1)), .val (.int (own_n1 p0)), .val (.int (own_n2 p0)), .val (.int (1 : Int32)), .unset, .unset, .unset, .unset, .unset, .unset, .unset]) rfl ?_
            refine XS.iload X0.here hx rfl (hb hby at_128) rfl ?_
            refine XS.ifNo X0.here hx rfl (hb hby at_130) rfl ((if0 _ _).trans (feq (by decide : ¬ ((1 : Int32) = (0 : Int32)))).1) ?_
            refine XS.iconst X0.here hx rfl (hb hby at_133) ?_
            refine XS.goto X0.here hx rfl (pc0 := 134) (pc' := 141) rfl (hb hby at_134) (by decide) (by decide) ?_
            refine XS.istore X0.here hx rfl (hb hby at_141) rfl (l' := #[.val (.int p0), .val (.int p1), .val (.int p2), .val (.int p3), .val (.int p4), .val (.int (p2 &&& (3 : Int32))), .val (.int (own_hl p2)), .val (.int (own_n0 p0)), .val (.int (own_n1 p0)), .val (.int (own_n2 p0)), .val (.int (own_b0 p1)), .val (.int (own_n1 p0)), .val (.int (own_n2 p0)), .val (.int (1 : Int32)), .val (.int (-1 : Int32)), .unset, .unset, .unset, .unset, .unset, .unset]) rfl ?_
            refine XS.iloadN X0.here hx rfl (hb hby at_143) rfl ?_
            refine XS.bipush X0.here hx rfl (hb hby at_144) ?_
            refine XS.iushr X0.here hx rfl (hb hby at_146) rfl ?_
            refine XS.iconst X0.here hx rfl (hb hby at_147) ?_
            refine XS.iand X0.here hx rfl (hb hby at_148) rfl ?_
            exact kt
          by_cases hc149 : (((p2.toUInt32 >>> ((8 : Int32) &&& 31).toUInt32).toInt32) &&& (1 : Int32)) = (0 : Int32)
          · refine OGW.step (F' := s₁.setTop (mkF m 159 #[.val (.int p0), .val (.int p1), .val (.int p2), .val (.int p3), .val (.int p4), .val (.int (p2 &&& (3 : Int32))), .val (.int (own_hl p2)), .val (.int (own_n0 p0)), .val (.int (own_n1 p0)), .val (.int (own_n2 p0)), .val (.int (own_b0 p1)), .val (.int (own_n1 p0)), .val (.int (own_n2 p0)), .val (.int (1 : Int32)), .val (.int (-1 : Int32)), .unset, .unset, .unset, .unset, .unset, .unset] [])) (fun t kt => ?_) ?_
            · show Steps p.tables e below (s₁.setTop (mkF m 149 #[.val (.int p0), .val (.int p1), .val (.int p2), .val (.int p3), .val (.int p4), .val (.int (p2 &&& (3 : Int32))), .val (.int (own_hl p2)), .val (.int (own_n0 p0)), .val (.int (own_n1 p0)), .val (.int (own_n2 p0)), .val (.int (own_b0 p1)), .val (.int (own_n1 p0)), .val (.int (own_n2 p0)), .val (.int (1 : Int32)), .val (.int (-1 : Int32)), .unset, .unset, .unset, .unset, .unset, .unset] [(.int (((p2.toUInt32 >>> ((8 : Int32) &&& 31).toUInt32).toInt32) &&& (1 : Int32)))])) t
              refine XS.ifYes X0.here hx rfl (pc0 := 149) (pc' := 159) rfl (hb hby at_149) rfl ((if0 _ _).trans (teq hc149).1) (by decide) (by decide) ?_
              exact kt
            refine OGW.step (F' := s₁.setTop (mkF m 163 #[.val (.int p0), .val (.int p1), .val (.int p2), .val (.int p3), .val (.int p4), .val (.int (p2 &&& (3 : Int32))), .val (.int (own_hl p2)), .val (.int (own_n0 p0)), .val (.int (own_n1 p0)), .val (.int (own_n2 p0)), .val (.int (own_b0 p1)), .val (.int (own_n1 p0)), .val (.int (own_n2 p0)), .val (.int (1 : Int32)), .val (.int (-1 : Int32)), .val (.int p4), .unset, .unset, .unset, .unset, .unset] [])) (fun t kt => ?_) ?_
            · show Steps p.tables e below (s₁.setTop (mkF m 159 #[.val (.int p0), .val (.int p1), .val (.int p2), .val (.int p3), .val (.int p4), .val (.int (p2 &&& (3 : Int32))), .val (.int (own_hl p2)), .val (.int (own_n0 p0)), .val (.int (own_n1 p0)), .val (.int (own_n2 p0)), .val (.int (own_b0 p1)), .val (.int (own_n1 p0)), .val (.int (own_n2 p0)), .val (.int (1 : Int32)), .val (.int (-1 : Int32)), .unset, .unset, .unset, .unset, .unset, .unset] [])) t
              refine XS.iload X0.here hx rfl (hb hby at_159) rfl ?_
              refine XS.istore X0.here hx rfl (hb hby at_161) rfl (l' := #[.val (.int p0), .val (.int p1), .val (.int p2), .val (.int p3), .val (.int p4), .val (.int (p2 &&& (3 : Int32))), .val (.int (own_hl p2)), .val (.int (own_n0 p0)), .val (.int (own_n1 p0)), .val (.int (own_n2 p0)), .val (.int (own_b0 p1)), .val (.int (own_n1 p0)), .val (.int (own_n2 p0)), .val (.int (1 : Int32)), .val (.int (-1 : Int32)), .val (.int p4), .unset, .unset, .unset, .unset, .unset]) rfl ?_
              exact kt
            exact J _ _ _ _ _ _ (own_rb0 _) (own_rn1 _) (own_rn2 _) (Or.inr ⟨by decide, by decide⟩)
          · refine OGW.step (F' := s₁.setTop (mkF m 152 #[.val (.int p0), .val (.int p1), .val (.int p2), .val (.int p3), .val (.int p4), .val (.int (p2 &&& (3 : Int32))), .val (.int (own_hl p2)), .val (.int (own_n0 p0)), .val (.int (own_n1 p0)), .val (.int (own_n2 p0)), .val (.int (own_b0 p1)), .val (.int (own_n1 p0)), .val (.int (own_n2 p0)), .val (.int (1 : Int32)), .val (.int (-1 : Int32)), .unset, .unset, .unset, .unset, .unset, .unset] [])) (fun t kt => ?_) ?_
            · show Steps p.tables e below (s₁.setTop (mkF m 149 #[.val (.int p0), .val (.int p1), .val (.int p2), .val (.int p3), .val (.int p4), .val (.int (p2 &&& (3 : Int32))), .val (.int (own_hl p2)), .val (.int (own_n0 p0)), .val (.int (own_n1 p0)), .val (.int (own_n2 p0)), .val (.int (own_b0 p1)), .val (.int (own_n1 p0)), .val (.int (own_n2 p0)), .val (.int (1 : Int32)), .val (.int (-1 : Int32)), .unset, .unset, .unset, .unset, .unset, .unset] [(.int (((p2.toUInt32 >>> ((8 : Int32) &&& 31).toUInt32).toInt32) &&& (1 : Int32)))])) t
              refine XS.ifNo X0.here hx rfl (hb hby at_149) rfl ((if0 _ _).trans (feq hc149).1) ?_
              exact kt
            refine OGW.step (F' := s₁.setTop (mkF m 163 #[.val (.int p0), .val (.int p1), .val (.int p2), .val (.int p3), .val (.int p4), .val (.int (p2 &&& (3 : Int32))), .val (.int (own_hl p2)), .val (.int (own_n0 p0)), .val (.int (own_n1 p0)), .val (.int (own_n2 p0)), .val (.int (own_b0 p1)), .val (.int (own_n1 p0)), .val (.int (own_n2 p0)), .val (.int (1 : Int32)), .val (.int (-1 : Int32)), .val (.int (p3 &&& (2147483647 : Int32))), .unset, .unset, .unset, .unset, .unset] [])) (fun t kt => ?_) ?_
            · show Steps p.tables e below (s₁.setTop (mkF m 152 #[.val (.int p0), .val (.int p1), .val (.int p2), .val (.int p3), .val (.int p4), .val (.int (p2 &&& (3 : Int32))), .val (.int (own_hl p2)), .val (.int (own_n0 p0)), .val (.int (own_n1 p0)), .val (.int (own_n2 p0)), .val (.int (own_b0 p1)), .val (.int (own_n1 p0)), .val (.int (own_n2 p0)), .val (.int (1 : Int32)), .val (.int (-1 : Int32)), .unset, .unset, .unset, .unset, .unset, .unset] [])) t
              refine XS.iloadN X0.here hx rfl (hb hby at_152) rfl ?_
              refine X0.ldcInt hx hown (mvT hZ (own_wd hw 0 rfl)) (g := (mkF m 153 #[.val (.int p0), .val (.int p1), .val (.int p2), .val (.int p3), .val (.int p4), .val (.int (p2 &&& (3 : Int32))), .val (.int (own_hl p2)), .val (.int (own_n0 p0)), .val (.int (own_n1 p0)), .val (.int (own_n2 p0)), .val (.int (own_b0 p1)), .val (.int (own_n1 p0)), .val (.int (own_n2 p0)), .val (.int (1 : Int32)), .val (.int (-1 : Int32)), .unset, .unset, .unset, .unset, .unset, .unset] [(.int p3)])) rfl (hb hby at_153) _ ?_
              refine XS.iand X0.here hx rfl (hb hby at_155) rfl ?_
              refine XS.goto X0.here hx rfl (pc0 := 156) (pc' := 161) rfl (hb hby at_156) (by decide) (by decide) ?_
              refine XS.istore X0.here hx rfl (hb hby at_161) rfl (l' := #[.val (.int p0), .val (.int p1), .val (.int p2), .val (.int p3), .val (.int p4), .val (.int (p2 &&& (3 : Int32))), .val (.int (own_hl p2)), .val (.int (own_n0 p0)), .val (.int (own_n1 p0)), .val (.int (own_n2 p0)), .val (.int (own_b0 p1)), .val (.int (own_n1 p0)), .val (.int (own_n2 p0)), .val (.int (1 : Int32)), .val (.int (-1 : Int32)), .val (.int (p3 &&& (2147483647 : Int32))), .unset, .unset, .unset, .unset, .unset]) rfl ?_
              exact kt
            exact J _ _ _ _ _ _ (own_rb0 _) (own_rn1 _) (own_rn2 _) (Or.inr ⟨by decide, by decide⟩)
  · refine OGW.step (F' := s₁.setTop (mkF m 50 #[.val (.int p0), .val (.int p1), .val (.int p2), .val (.int p3), .val (.int p4), .val (.int (p2 &&& (3 : Int32))), .val (.int (own_hl p2)), .val (.int (own_n0 p0)), .val (.int (own_n1 p0)), .val (.int (own_n2 p0)), .unset, .unset, .unset, .unset, .unset, .unset, .unset, .unset, .unset, .unset, .unset] [])) (fun t kt => ?_) ?_
    · show Steps p.tables e below (s₁.setTop (mkF m 47 #[.val (.int p0), .val (.int p1), .val (.int p2), .val (.int p3), .val (.int p4), .val (.int (p2 &&& (3 : Int32))), .val (.int (own_hl p2)), .val (.int (own_n0 p0)), .val (.int (own_n1 p0)), .val (.int (own_n2 p0)), .unset, .unset, .unset, .unset, .unset, .unset, .unset, .unset, .unset, .unset, .unset] [(.int (((p2.toUInt32 >>> ((4 : Int32) &&& 31).toUInt32).toInt32) &&& (1 : Int32)))])) t
      refine XS.ifNo X0.here hx rfl (hb hby at_47) rfl ((if0 _ _).trans (feq hc47).1) ?_
      exact kt
    refine OGW.step (F' := s₁.setTop (mkF m 68 #[.val (.int p0), .val (.int p1), .val (.int p2), .val (.int p3), .val (.int p4), .val (.int (p2 &&& (3 : Int32))), .val (.int (own_hl p2)), .val (.int (own_n0 p0)), .val (.int (own_n1 p0)), .val (.int (own_n2 p0)), .val (.int (own_n0 p0)), .unset, .unset, .unset, .unset, .unset, .unset, .unset, .unset, .unset, .unset] [(.int (((p2.toUInt32 >>> ((5 : Int32) &&& 31).toUInt32).toInt32) &&& (1 : Int32)))])) (fun t kt => ?_) ?_
    · show Steps p.tables e below (s₁.setTop (mkF m 50 #[.val (.int p0), .val (.int p1), .val (.int p2), .val (.int p3), .val (.int p4), .val (.int (p2 &&& (3 : Int32))), .val (.int (own_hl p2)), .val (.int (own_n0 p0)), .val (.int (own_n1 p0)), .val (.int (own_n2 p0)), .unset, .unset, .unset, .unset, .unset, .unset, .unset, .unset, .unset, .unset, .unset] [])) t
      refine XS.iload X0.here hx rfl (hb hby at_50) rfl ?_
      refine XS.goto X0.here hx rfl (pc0 := 52) (pc' := 61) rfl (hb hby at_52) (by decide) (by decide) ?_
      refine XS.istore X0.here hx rfl (hb hby at_61) rfl (l' := #[.val (.int p0), .val (.int p1), .val (.int p2), .val (.int p3), .val (.int p4), .val (.int (p2 &&& (3 : Int32))), .val (.int (own_hl p2)), .val (.int (own_n0 p0)), .val (.int (own_n1 p0)), .val (.int (own_n2 p0)), .val (.int (own_n0 p0)), .unset, .unset, .unset, .unset, .unset, .unset, .unset, .unset, .unset, .unset]) rfl ?_
      refine XS.iloadN X0.here hx rfl (hb hby at_63) rfl ?_
      refine XS.iconst X0.here hx rfl (hb hby at_64) ?_
      refine XS.iushr X0.here hx rfl (hb hby at_65) rfl ?_
      refine XS.iconst X0.here hx rfl (hb hby at_66) ?_
      refine XS.iand X0.here hx rfl (hb hby at_67) rfl ?_
      exact kt
    by_cases hc68 : (((p2.toUInt32 >>> ((5 : Int32) &&& 31).toUInt32).toInt32) &&& (1 : Int32)) = (0 : Int32)
    · refine OGW.step (F' := s₁.setTop (mkF m 76 #[.val (.int p0), .val (.int p1), .val (.int p2), .val (.int p3), .val (.int p4), .val (.int (p2 &&& (3 : Int32))), .val (.int (own_hl p2)), .val (.int (own_n0 p0)), .val (.int (own_n1 p0)), .val (.int (own_n2 p0)), .val (.int (own_n0 p0)), .unset, .unset, .unset, .unset, .unset, .unset, .unset, .unset, .unset, .unset] [])) (fun t kt => ?_) ?_
      · show Steps p.tables e below (s₁.setTop (mkF m 68 #[.val (.int p0), .val (.int p1), .val (.int p2), .val (.int p3), .val (.int p4), .val (.int (p2 &&& (3 : Int32))), .val (.int (own_hl p2)), .val (.int (own_n0 p0)), .val (.int (own_n1 p0)), .val (.int (own_n2 p0)), .val (.int (own_n0 p0)), .unset, .unset, .unset, .unset, .unset, .unset, .unset, .unset, .unset, .unset] [(.int (((p2.toUInt32 >>> ((5 : Int32) &&& 31).toUInt32).toInt32) &&& (1 : Int32)))])) t
        refine XS.ifYes X0.here hx rfl (pc0 := 68) (pc' := 76) rfl (hb hby at_68) rfl ((if0 _ _).trans (teq hc68).1) (by decide) (by decide) ?_
        exact kt
      refine OGW.step (F' := s₁.setTop (mkF m 93 #[.val (.int p0), .val (.int p1), .val (.int p2), .val (.int p3), .val (.int p4), .val (.int (p2 &&& (3 : Int32))), .val (.int (own_hl p2)), .val (.int (own_n0 p0)), .val (.int (own_n1 p0)), .val (.int (own_n2 p0)), .val (.int (own_n0 p0)), .val (.int (own_b1 p1)), .unset, .unset, .unset, .unset, .unset, .unset, .unset, .unset, .unset] [(.int (((p2.toUInt32 >>> ((6 : Int32) &&& 31).toUInt32).toInt32) &&& (1 : Int32)))])) (fun t kt => ?_) ?_
      · show Steps p.tables e below (s₁.setTop (mkF m 76 #[.val (.int p0), .val (.int p1), .val (.int p2), .val (.int p3), .val (.int p4), .val (.int (p2 &&& (3 : Int32))), .val (.int (own_hl p2)), .val (.int (own_n0 p0)), .val (.int (own_n1 p0)), .val (.int (own_n2 p0)), .val (.int (own_n0 p0)), .unset, .unset, .unset, .unset, .unset, .unset, .unset, .unset, .unset, .unset] [])) t
        refine XS.iloadN X0.here hx rfl (hb hby at_76) rfl ?_
        refine XS.bipush X0.here hx rfl (hb hby at_77) ?_
        refine XS.iushr X0.here hx rfl (hb hby at_79) rfl ?_
        refine XS.sipush X0.here hx rfl (hb hby at_80) ?_
        refine XS.iand X0.here hx rfl (hb hby at_83) rfl ?_
        refine XS.i2c X0.here hx rfl (hb hby at_84) rfl ?_
        refine XS.istore X0.here hx rfl (hb hby at_85) rfl (l' := #[.val (.int p0), .val (.int p1), .val (.int p2), .val (.int p3), .val (.int p4), .val (.int (p2 &&& (3 : Int32))), .val (.int (own_hl p2)), .val (.int (own_n0 p0)), .val (.int (own_n1 p0)), .val (.int (own_n2 p0)), .val (.int (own_n0 p0)), .val (.int (own_b1 p1)), .unset, .unset, .unset, .unset, .unset, .unset, .unset, .unset, .unset]) rfl ?_
        refine XS.iloadN X0.here hx rfl (hb hby at_87) rfl ?_
        refine XS.bipush X0.here hx rfl (hb hby at_88) ?_
        refine XS.iushr X0.here hx rfl (hb hby at_90) rfl ?_
        refine XS.iconst X0.here hx rfl (hb hby at_91) ?_
        refine XS.iand X0.here hx rfl (hb hby at_92) rfl ?_
        exact kt
      by_cases hc93 : (((p2.toUInt32 >>> ((6 : Int32) &&& 31).toUInt32).toInt32) &&& (1 : Int32)) = (0 : Int32)
      · refine OGW.step (F' := s₁.setTop (mkF m 101 #[.val (.int p0), .val (.int p1), .val (.int p2), .val (.int p3), .val (.int p4), .val (.int (p2 &&& (3 : Int32))), .val (.int (own_hl p2)), .val (.int (own_n0 p0)), .val (.int (own_n1 p0)), .val (.int (own_n2 p0)), .val (.int (own_n0 p0)), .val (.int (own_b1 p1)), .unset, .unset, .unset, .unset, .unset, .unset, .unset, .unset, .unset] [])) (fun t kt => ?_) ?_
        · show Steps p.tables e below (s₁.setTop (mkF m 93 #[.val (.int p0), .val (.int p1), .val (.int p2), .val (.int p3), .val (.int p4), .val (.int (p2 &&& (3 : Int32))), .val (.int (own_hl p2)), .val (.int (own_n0 p0)), .val (.int (own_n1 p0)), .val (.int (own_n2 p0)), .val (.int (own_n0 p0)), .val (.int (own_b1 p1)), .unset, .unset, .unset, .unset, .unset, .unset, .unset, .unset, .unset] [(.int (((p2.toUInt32 >>> ((6 : Int32) &&& 31).toUInt32).toInt32) &&& (1 : Int32)))])) t
          refine XS.ifYes X0.here hx rfl (pc0 := 93) (pc' := 101) rfl (hb hby at_93) rfl ((if0 _ _).trans (teq hc93).1) (by decide) (by decide) ?_
          exact kt
        refine OGW.step (F' := s₁.setTop (mkF m 118 #[.val (.int p0), .val (.int p1), .val (.int p2), .val (.int p3), .val (.int p4), .val (.int (p2 &&& (3 : Int32))), .val (.int (own_hl p2)), .val (.int (own_n0 p0)), .val (.int (own_n1 p0)), .val (.int (own_n2 p0)), .val (.int (own_n0 p0)), .val (.int (own_b1 p1)), .val (.int (own_b2 p1)), .unset, .unset, .unset, .unset, .unset, .unset, .unset, .unset] [(.int (((p2.toUInt32 >>> ((7 : Int32) &&& 31).toUInt32).toInt32) &&& (1 : Int32)))])) (fun t kt => ?_) ?_
        · show Steps p.tables e below (s₁.setTop (mkF m 101 #[.val (.int p0), .val (.int p1), .val (.int p2), .val (.int p3), .val (.int p4), .val (.int (p2 &&& (3 : Int32))), .val (.int (own_hl p2)), .val (.int (own_n0 p0)), .val (.int (own_n1 p0)), .val (.int (own_n2 p0)), .val (.int (own_n0 p0)), .val (.int (own_b1 p1)), .unset, .unset, .unset, .unset, .unset, .unset, .unset, .unset, .unset] [])) t
          refine XS.iloadN X0.here hx rfl (hb hby at_101) rfl ?_
          refine XS.bipush X0.here hx rfl (hb hby at_102) ?_
          refine XS.iushr X0.here hx rfl (hb hby at_104) rfl ?_
          refine XS.sipush X0.here hx rfl (hb hby at_105) ?_
          refine XS.iand X0.here hx rfl (hb hby at_108) rfl ?_
          refine XS.i2c X0.here hx rfl (hb hby at_109) rfl ?_
          refine XS.istore X0.here hx rfl (hb hby at_110) rfl (l' := #[.val (.int p0), .val (.int p1), .val (.int p2), .val (.int p3), .val (.int p4), .val (.int (p2 &&& (3 : Int32))), .val (.int (own_hl p2)), .val (.int (own_n0 p0)), .val (.int (own_n1 p0)), .val (.int (own_n2 p0)), .val (.int (own_n0 p0)), .val (.int (own_b1 p1)), .val (.int (own_b2 p1)), .unset, .unset, .unset, .unset, .unset, .unset, .unset, .unset]) rfl ?_
          refine XS.iloadN X0.here hx rfl (hb hby at_112) rfl ?_
          refine XS.bipush X0.here hx rfl (hb hby at_113) ?_
          refine XS.iushr X0.here hx rfl (hb hby at_115) rfl ?_
          refine XS.iconst X0.here hx rfl (hb hby at_116) ?_
          refine XS.iand X0.here hx rfl (hb hby at_117) rfl ?_
          exact kt
        by_cases hc118 : (((p2.toUInt32 >>> ((7 : Int32) &&& 31).toUInt32).toInt32) &&& (1 : Int32)) = (0 : Int32)
        · refine OGW.step (F' := s₁.setTop (mkF m 125 #[.val (.int p0), .val (.int p1), .val (.int p2), .val (.int p3), .val (.int p4), .val (.int (p2 &&& (3 : Int32))), .val (.int (own_hl p2)), .val (.int (own_n0 p0)), .val (.int (own_n1 p0)), .val (.int (own_n2 p0)), .val (.int (own_n0 p0)), .val (.int (own_b1 p1)), .val (.int (own_b2 p1)), .unset, .unset, .unset, .unset, .unset, .unset, .unset, .unset] [])) (fun t kt => ?_) ?_
          · show Steps p.tables e below (s₁.setTop (mkF m 118 #[.val (.int p0), .val (.int p1), .val (.int p2), .val (.int p3), .val (.int p4), .val (.int (p2 &&& (3 : Int32))), .val (.int (own_hl p2)), .val (.int (own_n0 p0)), .val (.int (own_n1 p0)), .val (.int (own_n2 p0)), .val (.int (own_n0 p0)), .val (.int (own_b1 p1)), .val (.int (own_b2 p1)), .unset, .unset, .unset, .unset, .unset, .unset, .unset, .unset] [(.int (((p2.toUInt32 >>> ((7 : Int32) &&& 31).toUInt32).toInt32) &&& (1 : Int32)))])) t
            refine XS.ifYes X0.here hx rfl (pc0 := 118) (pc' := 125) rfl (hb hby at_118) rfl ((if0 _ _).trans (teq hc118).1) (by decide) (by decide) ?_
            exact kt
          refine OGW.step (F' := s₁.setTop (mkF m 149 #[.val (.int p0), .val (.int p1), .val (.int p2), .val (.int p3), .val (.int p4), .val (.int (p2 &&& (3 : Int32))), .val (.int (own_hl p2)), .val (.int (own_n0 p0)), .val (.int (own_n1 p0)), .val (.int (own_n2 p0)), .val (.int (own_n0 p0)), .val (.int (own_b1 p1)), .val (.int (own_b2 p1)), .val (.int (0 : Int32)), .val (.int (p3 &&& (2147483647 : Int32))), .unset, .unset, .unset, .unset, .unset, .unset] [(.int (((p2.toUInt32 >>> ((8 : Int32) &&& 31).toUInt32).toInt32) &&& (1 : Int32)))])) (fun t kt => ?_) ?_
          · show Steps p.tables e below (s₁.setTop (mkF m 125 #[.val (.int p0), .val (.int p1), .val (.int p2), .val (.int p3), .val (.int p4), .val (.int (p2 &&& (3 : Int32))), .val (.int (own_hl p2)), .val (.int (own_n0 p0)), .val (.int (own_n1 p0)), .val (.int (own_n2 p0)), .val (.int (own_n0 p0)), .val (.int (own_b1 p1)), .val (.int (own_b2 p1)), .unset, .unset, .unset, .unset, .unset, .unset, .unset, .unset] [])) t
            refine XS.iconst X0.here hx rfl (hb hby at_125) ?_
            refine XS.istore X0.here hx rfl (hb hby at_126) rfl (l' := #[.val (.int p0), .val (.int p1), .val (.int p2), .val (.int p3), .val (.int p4), .val (.int (p2 &&& (3 : Int32))), .val (.int (own_hl p2)), .val (.int (own_n0 p0)), .val (.int (own_n1 p0)), .val (.int (own_n2 p0)), .val (.int (own_n0 p0)), .val (.int (own_b1 p1)), .val (.int (own_b2 p1)), .val (.int (0 : Int32)), .unset, .unset, .unset, .unset, .unset, .unset, .unset]) rfl ?_
            refine XS.iload X0.here hx rfl (hb hby at_128) rfl ?_
            refine XS.ifYes X0.here hx rfl (pc0 := 130) (pc' := 137) rfl (hb hby at_130) rfl ((if0 _ _).trans (teq (by decide : (0 : Int32) = (0 : Int32))).1) (by decide) (by decide) ?_
            refine XS.iloadN X0.here hx rfl (hb hby at_137) rfl ?_
            refine X0.ldcInt hx hown (mvT hZ (own_wd hw 0 rfl)) (g := (mkF m 138 #[.val (.int p0), .val (.int p1), .val (.int p2), .val (.int p3), .val (.int p4), .val (.int (p2 &&& (3 : Int32))), .val (.int (own_hl p2)), .val (.int (own_n0 p0)), .val (.int (own_n1 p0)), .val (.int (own_n2 p0)), .val (.int (own_n0 p0)), .val (.int (own_b1 p1)), .val (.int (own_b2 p1)), .val (.int (0 : Int32)), .unset, .unset, .unset, .unset, .unset, .unset, .unset] [(.int p3)])) rfl (hb hby at_138) _ ?_
            refine XS.iand X0.here hx rfl (hb hby at_140) rfl ?_
            refine XS.istore X0.here hx rfl (hb hby at_141) rfl (l' := #[.val (.int p0), .val (.int p1), .val (.int p2), .val (.int p3), .val (.int p4), .val (.int (p2 &&& (3 : Int32))), .val (.int (own_hl p2)), .val (.int (own_n0 p0)), .val (.int (own_n1 p0)), .val (.int (own_n2 p0)), .val (.int (own_n0 p0)), .val (.int (own_b1 p1)), .val (.int (own_b2 p1)), .val (.int (0 : Int32)), .val (.int (p3 &&& (2147483647 : Int32))), .unset, .unset, .unset, .unset, .unset, .unset]) rfl ?_
            refine XS.iloadN X0.here hx rfl (hb hby at_143) rfl ?_
            refine XS.bipush X0.here hx rfl (hb hby at_144) ?_
            refine XS.iushr X0.here hx rfl (hb hby at_146) rfl ?_
            refine XS.iconst X0.here hx rfl (hb hby at_147) ?_
            refine XS.iand X0.here hx rfl (hb hby at_148) rfl ?_
            exact kt
          by_cases hc149 : (((p2.toUInt32 >>> ((8 : Int32) &&& 31).toUInt32).toInt32) &&& (1 : Int32)) = (0 : Int32)
          · refine OGW.step (F' := s₁.setTop (mkF m 159 #[.val (.int p0), .val (.int p1), .val (.int p2), .val (.int p3), .val (.int p4), .val (.int (p2 &&& (3 : Int32))), .val (.int (own_hl p2)), .val (.int (own_n0 p0)), .val (.int (own_n1 p0)), .val (.int (own_n2 p0)), .val (.int (own_n0 p0)), .val (.int (own_b1 p1)), .val (.int (own_b2 p1)), .val (.int (0 : Int32)), .val (.int (p3 &&& (2147483647 : Int32))), .unset, .unset, .unset, .unset, .unset, .unset] [])) (fun t kt => ?_) ?_
            · show Steps p.tables e below (s₁.setTop (mkF m 149 #[.val (.int p0), .val (.int p1), .val (.int p2), .val (.int p3), .val (.int p4), .val (.int (p2 &&& (3 : Int32))), .val (.int (own_hl p2)), .val (.int (own_n0 p0)), .val (.int (own_n1 p0)), .val (.int (own_n2 p0)), .val (.int (own_n0 p0)), .val (.int (own_b1 p1)), .val (.int (own_b2 p1)), .val (.int (0 : Int32)), .val (.int (p3 &&& (2147483647 : Int32))), .unset, .unset, .unset, .unset, .unset, .unset] [(.int (((p2.toUInt32 >>> ((8 : Int32) &&& 31).toUInt32).toInt32) &&& (1 : Int32)))])) t
              refine XS.ifYes X0.here hx rfl (pc0 := 149) (pc' := 159) rfl (hb hby at_149) rfl ((if0 _ _).trans (teq hc149).1) (by decide) (by decide) ?_
              exact kt
            refine OGW.step (F' := s₁.setTop (mkF m 163 #[.val (.int p0), .val (.int p1), .val (.int p2), .val (.int p3), .val (.int p4), .val (.int (p2 &&& (3 : Int32))), .val (.int (own_hl p2)), .val (.int (own_n0 p0)), .val (.int (own_n1 p0)), .val (.int (own_n2 p0)), .val (.int (own_n0 p0)), .val (.int (own_b1 p1)), .val (.int (own_b2 p1)), .val (.int (0 : Int32)), .val (.int (p3 &&& (2147483647 : Int32))), .val (.int p4), .unset, .unset, .unset, .unset, .unset] [])) (fun t kt => ?_) ?_
            · show Steps p.tables e below (s₁.setTop (mkF m 159 #[.val (.int p0), .val (.int p1), .val (.int p2), .val (.int p3), .val (.int p4), .val (.int (p2 &&& (3 : Int32))), .val (.int (own_hl p2)), .val (.int (own_n0 p0)), .val (.int (own_n1 p0)), .val (.int (own_n2 p0)), .val (.int (own_n0 p0)), .val (.int (own_b1 p1)), .val (.int (own_b2 p1)), .val (.int (0 : Int32)), .val (.int (p3 &&& (2147483647 : Int32))), .unset, .unset, .unset, .unset, .unset, .unset] [])) t
              refine XS.iload X0.here hx rfl (hb hby at_159) rfl ?_
              refine XS.istore X0.here hx rfl (hb hby at_161) rfl (l' := #[.val (.int p0), .val (.int p1), .val (.int p2), .val (.int p3), .val (.int p4), .val (.int (p2 &&& (3 : Int32))), .val (.int (own_hl p2)), .val (.int (own_n0 p0)), .val (.int (own_n1 p0)), .val (.int (own_n2 p0)), .val (.int (own_n0 p0)), .val (.int (own_b1 p1)), .val (.int (own_b2 p1)), .val (.int (0 : Int32)), .val (.int (p3 &&& (2147483647 : Int32))), .val (.int p4), .unset, .unset, .unset, .unset, .unset]) rfl ?_
              exact kt
            exact J _ _ _ _ _ _ (own_rn0 _) (own_rb1 _) (own_rb2 _) (Or.inl ⟨rfl, own_pp _⟩)
          · refine OGW.step (F' := s₁.setTop (mkF m 152 #[.val (.int p0), .val (.int p1), .val (.int p2), .val (.int p3), .val (.int p4), .val (.int (p2 &&& (3 : Int32))), .val (.int (own_hl p2)), .val (.int (own_n0 p0)), .val (.int (own_n1 p0)), .val (.int (own_n2 p0)), .val (.int (own_n0 p0)), .val (.int (own_b1 p1)), .val (.int (own_b2 p1)), .val (.int (0 : Int32)), .val (.int (p3 &&& (2147483647 : Int32))), .unset, .unset, .unset, .unset, .unset, .unset] [])) (fun t kt => ?_) ?_
            · show Steps p.tables e below (s₁.setTop (mkF m 149 #[.val (.int p0), .val (.int p1), .val (.int p2), .val (.int p3), .val (.int p4), .val (.int (p2 &&& (3 : Int32))), .val (.int (own_hl p2)), .val (.int (own_n0 p0)), .val (.int (own_n1 p0)), .val (.int (own_n2 p0)), .val (.int (own_n0 p0)), .val (.int (own_b1 p1)), .val (.int (own_b2 p1)), .val (.int (0 : Int32)), .val (.int (p3 &&& (2147483647 : Int32))), .unset, .unset, .unset, .unset, .unset, .unset] [(.int (((p2.toUInt32 >>> ((8 : Int32) &&& 31).toUInt32).toInt32) &&& (1 : Int32)))])) t
              refine XS.ifNo X0.here hx rfl (hb hby at_149) rfl ((if0 _ _).trans (feq hc149).1) ?_
              exact kt
            refine OGW.step (F' := s₁.setTop (mkF m 163 #[.val (.int p0), .val (.int p1), .val (.int p2), .val (.int p3), .val (.int p4), .val (.int (p2 &&& (3 : Int32))), .val (.int (own_hl p2)), .val (.int (own_n0 p0)), .val (.int (own_n1 p0)), .val (.int (own_n2 p0)), .val (.int (own_n0 p0)), .val (.int (own_b1 p1)), .val (.int (own_b2 p1)), .val (.int (0 : Int32)), .val (.int (p3 &&& (2147483647 : Int32))), .val (.int (p3 &&& (2147483647 : Int32))), .unset, .unset, .unset, .unset, .unset] [])) (fun t kt => ?_) ?_
            · show Steps p.tables e below (s₁.setTop (mkF m 152 #[.val (.int p0), .val (.int p1), .val (.int p2), .val (.int p3), .val (.int p4), .val (.int (p2 &&& (3 : Int32))), .val (.int (own_hl p2)), .val (.int (own_n0 p0)), .val (.int (own_n1 p0)), .val (.int (own_n2 p0)), .val (.int (own_n0 p0)), .val (.int (own_b1 p1)), .val (.int (own_b2 p1)), .val (.int (0 : Int32)), .val (.int (p3 &&& (2147483647 : Int32))), .unset, .unset, .unset, .unset, .unset, .unset] [])) t
              refine XS.iloadN X0.here hx rfl (hb hby at_152) rfl ?_
              refine X0.ldcInt hx hown (mvT hZ (own_wd hw 0 rfl)) (g := (mkF m 153 #[.val (.int p0), .val (.int p1), .val (.int p2), .val (.int p3), .val (.int p4), .val (.int (p2 &&& (3 : Int32))), .val (.int (own_hl p2)), .val (.int (own_n0 p0)), .val (.int (own_n1 p0)), .val (.int (own_n2 p0)), .val (.int (own_n0 p0)), .val (.int (own_b1 p1)), .val (.int (own_b2 p1)), .val (.int (0 : Int32)), .val (.int (p3 &&& (2147483647 : Int32))), .unset, .unset, .unset, .unset, .unset, .unset] [(.int p3)])) rfl (hb hby at_153) _ ?_
              refine XS.iand X0.here hx rfl (hb hby at_155) rfl ?_
              refine XS.goto X0.here hx rfl (pc0 := 156) (pc' := 161) rfl (hb hby at_156) (by decide) (by decide) ?_
              refine XS.istore X0.here hx rfl (hb hby at_161) rfl (l' := #[.val (.int p0), .val (.int p1), .val (.int p2), .val (.int p3), .val (.int p4), .val (.int (p2 &&& (3 : Int32))), .val (.int (own_hl p2)), .val (.int (own_n0 p0)), .val (.int (own_n1 p0)), .val (.int (own_n2 p0)), .val (.int (own_n0 p0)), .val (.int (own_b1 p1)), .val (.int (own_b2 p1)), .val (.int (0 : Int32)), .val (.int (p3 &&& (2147483647 : Int32))), .val (.int (p3 &&& (2147483647 : Int32))), .unset, .unset, .unset, .unset, .unset]) rfl ?_
              exact kt
            exact J _ _ _ _ _ _ (own_rn0 _) (own_rb1 _) (own_rb2 _) (Or.inl ⟨rfl, own_pp _⟩)
        · refine OGW.step (F' := s₁.setTop (mkF m 121 #[.val (.int p0), .val (.int p1), .val (.int p2), .val (.int p3), .val (.int p4), .val (.int (p2 &&& (3 : Int32))), .val (.int (own_hl p2)), .val (.int (own_n0 p0)), .val (.int (own_n1 p0)), .val (.int (own_n2 p0)), .val (.int (own_n0 p0)), .val (.int (own_b1 p1)), .val (.int (own_b2 p1)), .unset, .unset, .unset, .unset, .unset, .unset, .unset, .unset] [])) (fun t kt => ?_) ?_
          · show Steps p.tables e below (s₁.setTop (mkF m 118 #[.val (.int p0), .val (.int p1), .val (.int p2), .val (.int p3), .val (.int p4), .val (.int (p2 &&& (3 : Int32))), .val (.int (own_hl p2)), .val (.int (own_n0 p0)), .val (.int (own_n1 p0)), .val (.int (own_n2 p0)), .val (.int (own_n0 p0)), .val (.int (own_b1 p1)), .val (.int (own_b2 p1)), .unset, .unset, .unset, .unset, .unset, .unset, .unset, .unset] [(.int (((p2.toUInt32 >>> ((7 : Int32) &&& 31).toUInt32).toInt32) &&& (1 : Int32)))])) t
            refine XS.ifNo X0.here hx rfl (hb hby at_118) rfl ((if0 _ _).trans (feq hc118).1) ?_
            exact kt
          refine OGW.step (F' := s₁.setTop (mkF m 149 #[.val (.int p0), .val (.int p1), .val (.int p2), .val (.int p3), .val (.int p4), .val (.int (p2 &&& (3 : Int32))), .val (.int (own_hl p2)), .val (.int (own_n0 p0)), .val (.int (own_n1 p0)), .val (.int (own_n2 p0)), .val (.int (own_n0 p0)), .val (.int (own_b1 p1)), .val (.int (own_b2 p1)), .val (.int (1 : Int32)), .val (.int (-1 : Int32)), .unset, .unset, .unset, .unset, .unset, .unset] [(.int (((p2.toUInt32 >>> ((8 : Int32) &&& 31).toUInt32).toInt32) &&& (1 : Int32)))])) (fun t kt => ?_) ?_
          · show Steps p.tables e below (s₁.setTop (mkF m 121 #[.val (.int p0), .val (.int p1), .val (.int p2), .val (.int p3), .val (.int p4), .val (.int (p2 &&& (3 : Int32))), .val (.int (own_hl p2)), .val (.int (own_n0 p0)), .val (.int (own_n1 p0)), .val (.int (own_n2 p0)), .val (.int (own_n0 p0)), .val (.int (own_b1 p1)), .val (.int (own_b2 p1)), .unset, .unset, .unset, .unset, .unset, .unset, .unset, .unset] [])) t
            refine XS.iconst X0.here hx rfl (hb hby at_121) ?_
            refine XS.goto X0.here hx rfl (pc0 := 122) (pc' := 126) rfl (hb hby at_122) (by decide) (by decide) ?_
            refine XS.istore X0.here hx rfl (hb hby at_126) rfl (l' := #[.val (.int p0), .val (.int p1), .val (.int p2), .val (.int p3), .val (.int p4), .val (.int (p2 &&& (3 : Int32))), .val (.int (own_hl p2)), .val (.int (own_n0 p0)), .val (.int (own_n1 p0)), .val (.int (own_n2 p0)), .val (.int (own_n0 p0)), .val (.int (own_b1 p1)), .val (.int (own_b2 p1)), .val (.int (1 : Int32)), .unset, .unset, .unset, .unset, .unset, .unset, .unset]) rfl ?_
            refine XS.iload X0.here hx rfl (hb hby at_128) rfl ?_
            refine XS.ifNo X0.here hx rfl (hb hby at_130) rfl ((if0 _ _).trans (feq (by decide : ¬ ((1 : Int32) = (0 : Int32)))).1) ?_
            refine XS.iconst X0.here hx rfl (hb hby at_133) ?_
            refine XS.goto X0.here hx rfl (pc0 := 134) (pc' := 141) rfl (hb hby at_134) (by decide) (by decide) ?_
            refine XS.istore X0.here hx rfl (hb hby at_141) rfl (l' := #[.val (.int p0), .val (.int p1), .val (.int p2), .val (.int p3), .val (.int p4), .val (.int (p2 &&& (3 : Int32))), .val (.int (own_hl p2)), .val (.int (own_n0 p0)), .val (.int (own_n1 p0)), .val (.int (own_n2 p0)), .val (.int (own_n0 p0)), .val (.int (own_b1 p1)), .val (.int (own_b2 p1)), .val (.int (1 : Int32)), .val (.int (-1 : Int32)), .unset, .unset, .unset, .unset, .unset, .unset]) rfl ?_
            refine XS.iloadN X0.here hx rfl (hb hby at_143) rfl ?_
            refine XS.bipush X0.here hx rfl (hb hby at_144) ?_
            refine XS.iushr X0.here hx rfl (hb hby at_146) rfl ?_
            refine XS.iconst X0.here hx rfl (hb hby at_147) ?_
            refine XS.iand X0.here hx rfl (hb hby at_148) rfl ?_
            exact kt
          by_cases hc149 : (((p2.toUInt32 >>> ((8 : Int32) &&& 31).toUInt32).toInt32) &&& (1 : Int32)) = (0 : Int32)
          · refine OGW.step (F' := s₁.setTop (mkF m 159 #[.val (.int p0), .val (.int p1), .val (.int p2), .val (.int p3), .val (.int p4), .val (.int (p2 &&& (3 : Int32))), .val (.int (own_hl p2)), .val (.int (own_n0 p0)), .val (.int (own_n1 p0)), .val (.int (own_n2 p0)), .val (.int (own_n0 p0)), .val (.int (own_b1 p1)), .val (.int (own_b2 p1)), .val (.int (1 : Int32)), .val (.int (-1 : Int32)), .unset, .unset, .unset, .unset, .unset, .unset] [])) (fun t kt => ?_) ?_
            · show Steps p.tables e below (s₁.setTop (mkF m 149 #[.val (.int p0), .val (.int p1), .val (.int p2), .val (.int p3), .val (.int p4), .val (.int (p2 &&& (3 : Int32))), .val (.int (own_hl p2)), .val (.int (own_n0 p0)), .val (.int (own_n1 p0)), .val (.int (own_n2 p0)), .val (.int (own_n0 p0)), .val (.int (own_b1 p1)), .val (.int (own_b2 p1)), .val (.int (1 : Int32)), .val (.int (-1 : Int32)), .unset, .unset, .unset, .unset, .unset, .unset] [(.int (((p2.toUInt32 >>> ((8 : Int32) &&& 31).toUInt32).toInt32) &&& (1 : Int32)))])) t
              refine XS.ifYes X0.here hx rfl (pc0 := 149) (pc' := 159) rfl (hb hby at_149) rfl ((if0 _ _).trans (teq hc149).1) (by decide) (by decide) ?_
              exact kt
            refine OGW.step (F' := s₁.setTop (mkF m 163 #[.val (.int p0), .val (.int p1), .val (.int p2), .val (.int p3), .val (.int p4), .val (.int (p2 &&& (3 : Int32))), .val (.int (own_hl p2)), .val (.int (own_n0 p0)), .val (.int (own_n1 p0)), .val (.int (own_n2 p0)), .val (.int (own_n0 p0)), .val (.int (own_b1 p1)), .val (.int (own_b2 p1)), .val (.int (1 : Int32)), .val (.int (-1 : Int32)), .val (.int p4), .unset, .unset, .unset, .unset, .unset] [])) (fun t kt => ?_) ?_
            · show Steps p.tables e below (s₁.setTop (mkF m 159 #[.val (.int p0), .val (.int p1), .val (.int p2), .val (.int p3), .val (.int p4), .val (.int (p2 &&& (3 : Int32))), .val (.int (own_hl p2)), .val (.int (own_n0 p0)), .val (.int (own_n1 p0)), .val (.int (own_n2 p0)), .val (.int (own_n0 p0)), .val (.int (own_b1 p1)), .val (.int (own_b2 p1)), .val (.int (1 : Int32)), .val (.int (-1 : Int32)), .unset, .unset, .unset, .unset, .unset, .unset] [])) t
              refine XS.iload X0.here hx rfl (hb hby at_159) rfl ?_
              refine XS.istore X0.here hx rfl (hb hby at_161) rfl (l' := #[.val (.int p0), .val (.int p1), .val (.int p2), .val (.int p3), .val (.int p4), .val (.int (p2 &&& (3 : Int32))), .val (.int (own_hl p2)), .val (.int (own_n0 p0)), .val (.int (own_n1 p0)), .val (.int (own_n2 p0)), .val (.int (own_n0 p0)), .val (.int (own_b1 p1)), .val (.int (own_b2 p1)), .val (.int (1 : Int32)), .val (.int (-1 : Int32)), .val (.int p4), .unset, .unset, .unset, .unset, .unset]) rfl ?_
              exact kt
            exact J _ _ _ _ _ _ (own_rn0 _) (own_rb1 _) (own_rb2 _) (Or.inr ⟨by decide, by decide⟩)
          · refine OGW.step (F' := s₁.setTop (mkF m 152 #[.val (.int p0), .val (.int p1), .val (.int p2), .val (.int p3), .val (.int p4), .val (.int (p2 &&& (3 : Int32))), .val (.int (own_hl p2)), .val (.int (own_n0 p0)), .val (.int (own_n1 p0)), .val (.int (own_n2 p0)), .val (.int (own_n0 p0)), .val (.int (own_b1 p1)), .val (.int (own_b2 p1)), .val (.int (1 : Int32)), .val (.int (-1 : Int32)), .unset, .unset, .unset, .unset, .unset, .unset] [])) (fun t kt => ?_) ?_
            · show Steps p.tables e below (s₁.setTop (mkF m 149 #[.val (.int p0), .val (.int p1), .val (.int p2), .val (.int p3), .val (.int p4), .val (.int (p2 &&& (3 : Int32))), .val (.int (own_hl p2)), .val (.int (own_n0 p0)), .val (.int (own_n1 p0)), .val (.int (own_n2 p0)), .val (.int (own_n0 p0)), .val (.int (own_b1 p1)), .val (.int (own_b2 p1)), .val (.int (1 : Int32)), .val (.int (-1 : Int32)), .unset, .unset, .unset, .unset, .unset, .unset] [(.int (((p2.toUInt32 >>> ((8 : Int32) &&& 31).toUInt32).toInt32) &&& (1 : Int32)))])) t
              refine XS.ifNo X0.here hx rfl (hb hby at_149) rfl ((if0 _ _).trans (feq hc149).1) ?_
              exact kt
            refine OGW.step (F' := s₁.setTop (mkF m 163 #[.val (.int p0), .val (.int p1), .val (.int p2), .val (.int p3), .val (.int p4), .val (.int (p2 &&& (3 : Int32))), .val (.int (own_hl p2)), .val (.int (own_n0 p0)), .val (.int (own_n1 p0)), .val (.int (own_n2 p0)), .val (.int (own_n0 p0)), .val (.int (own_b1 p1)), .val (.int (own_b2 p1)), .val (.int (1 : Int32)), .val (.int (-1 : Int32)), .val (.int (p3 &&& (2147483647 : Int32))), .unset, .unset, .unset, .unset, .unset] [])) (fun t kt => ?_) ?_
            · show Steps p.tables e below (s₁.setTop (mkF m 152 #[.val (.int p0), .val (.int p1), .val (.int p2), .val (.int p3), .val (.int p4), .val (.int (p2 &&& (3 : Int32))), .val (.int (own_hl p2)), .val (.int (own_n0 p0)), .val (.int (own_n1 p0)), .val (.int (own_n2 p0)), .val (.int (own_n0 p0)), .val (.int (own_b1 p1)), .val (.int (own_b2 p1)), .val (.int (1 : Int32)), .val (.int (-1 : Int32)), .unset, .unset, .unset, .unset, .unset, .unset] [])) t
              refine XS.iloadN X0.here hx rfl (hb hby at_152) rfl ?_
              refine X0.ldcInt hx hown (mvT hZ (own_wd hw 0 rfl)) (g := (mkF m 153 #[.val (.int p0), .val (.int p1), .val (.int p2), .val (.int p3), .val (.int p4), .val (.int (p2 &&& (3 : Int32))), .val (.int (own_hl p2)), .val (.int (own_n0 p0)), .val (.int (own_n1 p0)), .val (.int (own_n2 p0)), .val (.int (own_n0 p0)), .val (.int (own_b1 p1)), .val (.int (own_b2 p1)), .val (.int (1 : Int32)), .val (.int (-1 : Int32)), .unset, .unset, .unset, .unset, .unset, .unset] [(.int p3)])) rfl (hb hby at_153) _ ?_
              refine XS.iand X0.here hx rfl (hb hby at_155) rfl ?_
              refine XS.goto X0.here hx rfl (pc0 := 156) (pc' := 161) rfl (hb hby at_156) (by decide) (by decide) ?_
              refine XS.istore X0.here hx rfl (hb hby at_161) rfl (l' := #[.val (.int p0), .val (.int p1), .val (.int p2), .val (.int p3), .val (.int p4), .val (.int (p2 &&& (3 : Int32))), .val (.int (own_hl p2)), .val (.int (own_n0 p0)), .val (.int (own_n1 p0)), .val (.int (own_n2 p0)), .val (.int (own_n0 p0)), .val (.int (own_b1 p1)), .val (.int (own_b2 p1)), .val (.int (1 : Int32)), .val (.int (-1 : Int32)), .val (.int (p3 &&& (2147483647 : Int32))), .unset, .unset, .unset, .unset, .unset]) rfl ?_
              exact kt
            exact J _ _ _ _ _ _ (own_rn0 _) (own_rb1 _) (own_rb2 _) (Or.inr ⟨by decide, by decide⟩)
      · refine OGW.step (F' := s₁.setTop (mkF m 96 #[.val (.int p0), .val (.int p1), .val (.int p2), .val (.int p3), .val (.int p4), .val (.int (p2 &&& (3 : Int32))), .val (.int (own_hl p2)), .val (.int (own_n0 p0)), .val (.int (own_n1 p0)), .val (.int (own_n2 p0)), .val (.int (own_n0 p0)), .val (.int (own_b1 p1)), .unset, .unset, .unset, .unset, .unset, .unset, .unset, .unset, .unset] [])) (fun t kt => ?_) ?_
        · show Steps p.tables e below (s₁.setTop (mkF m 93 #[.val (.int p0), .val (.int p1), .val (.int p2), .val (.int p3), .val (.int p4), .val (.int (p2 &&& (3 : Int32))), .val (.int (own_hl p2)), .val (.int (own_n0 p0)), .val (.int (own_n1 p0)), .val (.int (own_n2 p0)), .val (.int (own_n0 p0)), .val (.int (own_b1 p1)), .unset, .unset, .unset, .unset, .unset, .unset, .unset, .unset, .unset] [(.int (((p2.toUInt32 >>> ((6 : Int32) &&& 31).toUInt32).toInt32) &&& (1 : Int32)))])) t
          refine XS.ifNo X0.here hx rfl (hb hby at_93) rfl ((if0 _ _).trans (feq hc93).1) ?_
          exact kt
        refine OGW.step (F' := s₁.setTop (mkF m 118 #[.val (.int p0), .val (.int p1), .val (.int p2), .val (.int p3), .val (.int p4), .val (.int (p2 &&& (3 : Int32))), .val (.int (own_hl p2)), .val (.int (own_n0 p0)), .val (.int (own_n1 p0)), .val (.int (own_n2 p0)), .val (.int (own_n0 p0)), .val (.int (own_b1 p1)), .val (.int (own_n2 p0)), .unset, .unset, .unset, .unset, .unset, .unset, .unset, .unset] [(.int (((p2.toUInt32 >>> ((7 : Int32) &&& 31).toUInt32).toInt32) &&& (1 : Int32)))])) (fun t kt => ?_) ?_
        · show Steps p.tables e below (s₁.setTop (mkF m 96 #[.val (.int p0), .val (.int p1), .val (.int p2), .val (.int p3), .val (.int p4), .val (.int (p2 &&& (3 : Int32))), .val (.int (own_hl p2)), .val (.int (own_n0 p0)), .val (.int (own_n1 p0)), .val (.int (own_n2 p0)), .val (.int (own_n0 p0)), .val (.int (own_b1 p1)), .unset, .unset, .unset, .unset, .unset, .unset, .unset, .unset, .unset] [])) t
          refine XS.iload X0.here hx rfl (hb hby at_96) rfl ?_
          refine XS.goto X0.here hx rfl (pc0 := 98) (pc' := 110) rfl (hb hby at_98) (by decide) (by decide) ?_
          refine XS.istore X0.here hx rfl (hb hby at_110) rfl (l' := #[.val (.int p0), .val (.int p1), .val (.int p2), .val (.int p3), .val (.int p4), .val (.int (p2 &&& (3 : Int32))), .val (.int (own_hl p2)), .val (.int (own_n0 p0)), .val (.int (own_n1 p0)), .val (.int (own_n2 p0)), .val (.int (own_n0 p0)), .val (.int (own_b1 p1)), .val (.int (own_n2 p0)), .unset, .unset, .unset, .unset, .unset, .unset, .unset, .unset]) rfl ?_
          refine XS.iloadN X0.here hx rfl (hb hby at_112) rfl ?_
          refine XS.bipush X0.here hx rfl (hb hby at_113) ?_
          refine XS.iushr X0.here hx rfl (hb hby at_115) rfl ?_
          refine XS.iconst X0.here hx rfl (hb hby at_116) ?_
          refine XS.iand X0.here hx rfl (hb hby at_117) rfl ?_
          exact kt
        by_cases hc118 : (((p2.toUInt32 >>> ((7 : Int32) &&& 31).toUInt32).toInt32) &&& (1 : Int32)) = (0 : Int32)
        · refine OGW.step (F' := s₁.setTop (mkF m 125 #[.val (.int p0), .val (.int p1), .val (.int p2), .val (.int p3), .val (.int p4), .val (.int (p2 &&& (3 : Int32))), .val (.int (own_hl p2)), .val (.int (own_n0 p0)), .val (.int (own_n1 p0)), .val (.int (own_n2 p0)), .val (.int (own_n0 p0)), .val (.int (own_b1 p1)), .val (.int (own_n2 p0)), .unset, .unset, .unset, .unset, .unset, .unset, .unset, .unset] [])) (fun t kt => ?_) ?_
          · show Steps p.tables e below (s₁.setTop (mkF m 118 #[.val (.int p0), .val (.int p1), .val (.int p2), .val (.int p3), .val (.int p4), .val (.int (p2 &&& (3 : Int32))), .val (.int (own_hl p2)), .val (.int (own_n0 p0)), .val (.int (own_n1 p0)), .val (.int (own_n2 p0)), .val (.int (own_n0 p0)), .val (.int (own_b1 p1)), .val (.int (own_n2 p0)), .unset, .unset, .unset, .unset, .unset, .unset, .unset, .unset] [(.int (((p2.toUInt32 >>> ((7 : Int32) &&& 31).toUInt32).toInt32) &&& (1 : Int32)))])) t
            refine XS.ifYes X0.here hx rfl (pc0 := 118) (pc' := 125) rfl (hb hby at_118) rfl ((if0 _ _).trans (teq hc118).1) (by decide) (by decide) ?_
            exact kt
          refine OGW.step (F' := s₁.setTop (mkF m 149 #[.val (.int p0), .val (.int p1), .val (.int p2), .val (.int p3), .val (.int p4), .val (.int (p2 &&& (3 : Int32))), .val (.int (own_hl p2)), .val (.int (own_n0 p0)), .val (.int (own_n1 p0)), .val (.int (own_n2 p0)), .val (.int (own_n0 p0)), .val (.int (own_b1 p1)), .val (.int (own_n2 p0)), .val (.int (0 : Int32)), .val (.int (p3 &&& (2147483647 : Int32))), .unset, .unset, .unset, .unset, .unset, .unset] [(.int (((p2.toUInt32 >>> ((8 : Int32) &&& 31).toUInt32).toInt32) &&& (1 : Int32)))])) (fun t kt => ?_) ?_
          · show Steps p.tables e below (s₁.setTop (mkF m 125 #[.val (.int p0), .val (.int p1), .val (.int p2), .val (.int p3), .val (.int p4), .val (.int (p2 &&& (3 : Int32))), .val (.int (own_hl p2)), .val (.int (own_n0 p0)), .val (.int (own_n1 p0)), .val (.int (own_n2 p0)), .val (.int (own_n0 p0)), .val (.int (own_b1 p1)), .val (.int (own_n2 p0)), .unset, .unset, .unset, .unset, .unset, .unset, .unset, .unset] [])) t
            refine XS.iconst X0.here hx rfl (hb hby at_125) ?_
            refine XS.istore X0.here hx rfl (hb hby at_126) rfl (l' := #[.val (.int p0), .val (.int p1), .val (.int p2), .val (.int p3), .val (.int p4), .val (.int (p2 &&& (3 : Int32))), .val (.int (own_hl p2)), .val (.int (own_n0 p0)), .val (.int (own_n1 p0)), .val (.int (own_n2 p0)), .val (.int (own_n0 p0)), .val (.int (own_b1 p1)), .val (.int (own_n2 p0)), .val (.int (0 : Int32)), .unset, .unset, .unset, .unset, .unset, .unset, .unset]) rfl ?_
            refine XS.iload X0.here hx rfl (hb hby at_128) rfl ?_
            refine XS.ifYes X0.here hx rfl (pc0 := 130) (pc' := 137) rfl (hb hby at_130) rfl ((if0 _ _).trans (teq (by decide : (0 : Int32) = (0 : Int32))).1) (by decide) (by decide) ?_
            refine XS.iloadN X0.here hx rfl (hb hby at_137) rfl ?_
            refine X0.ldcInt hx hown (mvT hZ (own_wd hw 0 rfl)) (g := (mkF m 138 #[.val (.int p0), .val (.int p1), .val (.int p2), .val (.int p3), .val (.int p4), .val (.int (p2 &&& (3 : Int32))), .val (.int (own_hl p2)), .val (.int (own_n0 p0)), .val (.int (own_n1 p0)), .val (.int (own_n2 p0)), .val (.int (own_n0 p0)), .val (.int (own_b1 p1)), .val (.int (own_n2 p0)), .val (.int (0 : Int32)), .unset, .unset, .unset, .unset, .unset, .unset, .unset] [(.int p3)])) rfl (hb hby at_138) _ ?_
            refine XS.iand X0.here hx rfl (hb hby at_140) rfl ?_
            refine XS.istore X0.here hx rfl (hb hby at_141) rfl (l' := #[.val (.int p0), .val (.int p1), .val (.int p2), .val (.int p3), .val (.int p4), .val (.int (p2 &&& (3 : Int32))), .val (.int (own_hl p2)), .val (.int (own_n0 p0)), .val (.int (own_n1 p0)), .val (.int (own_n2 p0)), .val (.int (own_n0 p0)), .val (.int (own_b1 p1)), .val (.int (own_n2 p0)), .val (.int (0 : Int32)), .val (.int (p3 &&& (2147483647 : Int32))), .unset, .unset, .unset, .unset, .unset, .unset]) rfl ?_
            refine XS.iloadN X0.here hx rfl (hb hby at_143) rfl ?_
            refine XS.bipush X0.here hx rfl (hb hby at_144) ?_
            refine XS.iushr X0.here hx rfl (hb hby at_146) rfl ?_
            refine XS.iconst X0.here hx rfl (hb hby at_147) ?_
            refine XS.iand X0.here hx rfl (hb hby at_148) rfl ?_
            exact kt
          by_cases hc149 : (((p2.toUInt32 >>> ((8 : Int32) &&& 31).toUInt32).toInt32) &&& (1 : Int32)) = (0 : Int32)
          · refine OGW.step (F' := s₁.setTop (mkF m 159 #[.val (.int p0), .val (.int p1), .val (.int p2), .val (.int p3), .val (.int p4), .val (.int (p2 &&& (3 : Int32))), .val (.int (own_hl p2)), .val (.int (own_n0 p0)), .val (.int (own_n1 p0)), .val (.int (own_n2 p0)), .val (.int (own_n0 p0)), .val (.int (own_b1 p1)), .val (.int (own_n2 p0)), .val (.int (0 : Int32)), .val (.int (p3 &&& (2147483647 : Int32))), .unset, .unset, .unset, .unset, .unset, .unset] [])) (fun t kt => ?_) ?_
            · show Steps p.tables e below (s₁.setTop (mkF m 149 #[.val (.int p0), .val (.int p1), .val (.int p2), .val (.int p3), .val (.int p4), .val (.int (p2 &&& (3 : Int32))), .val (.int (own_hl p2)), .val (.int (own_n0 p0)), .val (.int (own_n1 p0)), .val (.int (own_n2 p0)), .val (.int (own_n0 p0)), .val (.int (own_b1 p1)), .val (.int (own_n2 p0)), .val (.int (0 : Int32)), .val (.int (p3 &&& (2147483647 : Int32))), .unset, .unset, .unset, .unset, .unset, .unset] [(.int (((p2.toUInt32 >>> ((8 : Int32) &&& 31).toUInt32).toInt32) &&& (1 : Int32)))])) t
              refine XS.ifYes X0.here hx rfl (pc0 := 149) (pc' := 159) rfl (hb hby at_149) rfl ((if0 _ _).trans (teq hc149).1) (by decide) (by decide) ?_
              exact kt
            refine OGW.step (F' := s₁.setTop (mkF m 163 #[.val (.int p0), .val (.int p1), .val (.int p2), .val (.int p3), .val (.int p4), .val (.int (p2 &&& (3 : Int32))), .val (.int (own_hl p2)), .val (.int (own_n0 p0)), .val (.int (own_n1 p0)), .val (.int (own_n2 p0)), .val (.int (own_n0 p0)), .val (.int (own_b1 p1)), .val (.int (own_n2 p0)), .val (.int (0 : Int32)), .val (.int (p3 &&& (2147483647 : Int32))), .val (.int p4), .unset, .unset, .unset, .unset, .unset] [])) (fun t kt => ?_) ?_
            · show Steps p.tables e below (s₁.setTop (mkF m 159 #[.val (.int p0), .val (.int p1), .val (.int p2), .val (.int p3), .val (.int p4), .val (.int (p2 &&& (3 : Int32))), .val (.int (own_hl p2)), .val (.int (own_n0 p0)), .val (.int (own_n1 p0)), .val (.int (own_n2 p0)), .val (.int (own_n0 p0)), .val (.int (own_b1 p1)), .val (.int (own_n2 p0)), .val (.int (0 : Int32)), .val (.int (p3 &&& (2147483647 : Int32))), .unset, .unset, .unset, .unset, .unset, .unset] [])) t
              refine XS.iload X0.here hx rfl (hb hby at_159) rfl ?_
              refine XS.istore X0.here hx rfl (hb hby at_161) rfl (l' := #[.val (.int p0), .val (.int p1), .val (.int p2), .val (.int p3), .val (.int p4), .val (.int (p2 &&& (3 : Int32))), .val (.int (own_hl p2)), .val (.int (own_n0 p0)), .val (.int (own_n1 p0)), .val (.int (own_n2 p0)), .val (.int (own_n0 p0)), .val (.int (own_b1 p1)), .val (.int (own_n2 p0)), .val (.int (0 : Int32)), .val (.int (p3 &&& (2147483647 : Int32))), .val (.int p4), .unset, .unset, .unset, .unset, .unset]) rfl ?_
              exact kt
            exact J _ _ _ _ _ _ (own_rn0 _) (own_rb1 _) (own_rn2 _) (Or.inl ⟨rfl, own_pp _⟩)
          · refine OGW.step (F' := s₁.setTop (mkF m 152 #[.val (.int p0), .val (.int p1), .val (.int p2), .val (.int p3), .val (.int p4), .val (.int (p2 &&& (3 : Int32))), .val (.int (own_hl p2)), .val (.int (own_n0 p0)), .val (.int (own_n1 p0)), .val (.int (own_n2 p0)), .val (.int (own_n0 p0)), .val (.int (own_b1 p1)), .val (.int (own_n2 p0)), .val (.int (0 : Int32)), .val (.int (p3 &&& (2147483647 : Int32))), .unset, .unset, .unset, .unset, .unset, .unset] [])) (fun t kt => ?_) ?_
            · show Steps p.tables e below (s₁.setTop (mkF m 149 #[.val (.int p0), .val (.int p1), .val (.int p2), .val (.int p3), .val (.int p4), .val (.int (p2 &&& (3 : Int32))), .val (.int (own_hl p2)), .val (.int (own_n0 p0)), .val (.int (own_n1 p0)), .val (.int (own_n2 p0)), .val (.int (own_n0 p0)), .val (.int (own_b1 p1)), .val (.int (own_n2 p0)), .val (.int (0 : Int32)), .val (.int (p3 &&& (2147483647 : Int32))), .unset, .unset, .unset, .unset, .unset, .unset] [(.int (((p2.toUInt32 >>> ((8 : Int32) &&& 31).toUInt32).toInt32) &&& (1 : Int32)))])) t
              refine XS.ifNo X0.here hx rfl (hb hby at_149) rfl ((if0 _ _).trans (feq hc149).1) ?_
              exact kt
            refine OGW.step (F' := s₁.setTop (mkF m 163 #[.val (.int p0), .val (.int p1), .val (.int p2), .val (.int p3), .val (.int p4), .val (.int (p2 &&& (3 : Int32))), .val (.int (own_hl p2)), .val (.int (own_n0 p0)), .val (.int (own_n1 p0)), .val (.int (own_n2 p0)), .val (.int (own_n0 p0)), .val (.int (own_b1 p1)), .val (.int (own_n2 p0)), .val (.int (0 : Int32)), .val (.int (p3 &&& (2147483647 : Int32))), .val (.int (p3 &&& (2147483647 : Int32))), .unset, .unset, .unset, .unset, .unset] [])) (fun t kt => ?_) ?_
            · show Steps p.tables e below (s₁.setTop (mkF m 152 #[.val (.int p0), .val (.int p1), .val (.int p2), .val (.int p3), .val (.int p4), .val (.int (p2 &&& (3 : Int32))), .val (.int (own_hl p2)), .val (.int (own_n0 p0)), .val (.int (own_n1 p0)), .val (.int (own_n2 p0)), .val (.int (own_n0 p0)), .val (.int (own_b1 p1)), .val (.int (own_n2 p0)), .val (.int (0 : Int32)), .val (.int (p3 &&& (2147483647 : Int32))), .unset, .unset, .unset, .unset, .unset, .unset] [])) t
              refine XS.iloadN X0.here hx rfl (hb hby at_152) rfl ?_
              refine X0.ldcInt hx hown (mvT hZ (own_wd hw 0 rfl)) (g := (mkF m 153 #[.val (.int p0), .val (.int p1), .val (.int p2), .val (.int p3), .val (.int p4), .val (.int (p2 &&& (3 : Int32))), .val (.int (own_hl p2)), .val (.int (own_n0 p0)), .val (.int (own_n1 p0)), .val (.int (own_n2 p0)), .val (.int (own_n0 p0)), .val (.int (own_b1 p1)), .val (.int (own_n2 p0)), .val (.int (0 : Int32)), .val (.int (p3 &&& (2147483647 : Int32))), .unset, .unset, .unset, .unset, .unset, .unset] [(.int p3)])) rfl (hb hby at_153) _ ?_
              refine XS.iand X0.here hx rfl (hb hby at_155) rfl ?_
              refine XS.goto X0.here hx rfl (pc0 := 156) (pc' := 161) rfl (hb hby at_156) (by decide) (by decide) ?_
              refine XS.istore X0.here hx rfl (hb hby at_161) rfl (l' := #[.val (.int p0), .val (.int p1), .val (.int p2), .val (.int p3), .val (.int p4), .val (.int (p2 &&& (3 : Int32))), .val (.int (own_hl p2)), .val (.int (own_n0 p0)), .val (.int (own_n1 p0)), .val (.int (own_n2 p0)), .val (.int (own_n0 p0)), .val (.int (own_b1 p1)), .val (.int (own_n2 p0)), .val (.int (0 : Int32)), .val (.int (p3 &&& (2147483647 : Int32))), .val (.int (p3 &&& (2147483647 : Int32))), .unset, .unset, .unset, .unset, .unset]) rfl ?_
              exact kt
            exact J _ _ _ _ _ _ (own_rn0 _) (own_rb1 _) (own_rn2 _) (Or.inl ⟨rfl, own_pp _⟩)
        · refine OGW.step (F' := s₁.setTop (mkF m 121 #[.val (.int p0), .val (.int p1), .val (.int p2), .val (.int p3), .val (.int p4), .val (.int (p2 &&& (3 : Int32))), .val (.int (own_hl p2)), .val (.int (own_n0 p0)), .val (.int (own_n1 p0)), .val (.int (own_n2 p0)), .val (.int (own_n0 p0)), .val (.int (own_b1 p1)), .val (.int (own_n2 p0)), .unset, .unset, .unset, .unset, .unset, .unset, .unset, .unset] [])) (fun t kt => ?_) ?_
          · show Steps p.tables e below (s₁.setTop (mkF m 118 #[.val (.int p0), .val (.int p1), .val (.int p2), .val (.int p3), .val (.int p4), .val (.int (p2 &&& (3 : Int32))), .val (.int (own_hl p2)), .val (.int (own_n0 p0)), .val (.int (own_n1 p0)), .val (.int (own_n2 p0)), .val (.int (own_n0 p0)), .val (.int (own_b1 p1)), .val (.int (own_n2 p0)), .unset, .unset, .unset, .unset, .unset, .unset, .unset, .unset] [(.int (((p2.toUInt32 >>> ((7 : Int32) &&& 31).toUInt32).toInt32) &&& (1 : Int32)))])) t
            refine XS.ifNo X0.here hx rfl (hb hby at_118) rfl ((if0 _ _).trans (feq hc118).1) ?_
            exact kt
          refine OGW.step (F' := s₁.setTop (mkF m 149 #[.val (.int p0), .val (.int p1), .val (.int p2), .val (.int p3), .val (.int p4), .val (.int (p2 &&& (3 : Int32))), .val (.int (own_hl p2)), .val (.int (own_n0 p0)), .val (.int (own_n1 p0)), .val (.int (own_n2 p0)), .val (.int (own_n0 p0)), .val (.int (own_b1 p1)), .val (.int (own_n2 p0)), .val (.int (1 : Int32)), .val (.int (-1 : Int32)), .unset, .unset, .unset, .unset, .unset, .unset] [(.int (((p2.toUInt32 >>> ((8 : Int32) &&& 31).toUInt32).toInt32) &&& (1 : Int32)))])) (fun t kt => ?_) ?_
          · show Steps p.tables e below (s₁.setTop (mkF m 121 #[.val (.int p0), .val (.int p1), .val (.int p2), .val (.int p3), .val (.int p4), .val (.int (p2 &&& (3 : Int32))), .val (.int (own_hl p2)), .val (.int (own_n0 p0)), .val (.int (own_n1 p0)), .val (.int (own_n2 p0)), .val (.int (own_n0 p0)), .val (.int (own_b1 p1)), .val (.int (own_n2 p0)), .unset, .unset, .unset, .unset, .unset, .unset, .unset, .unset] [])) t
            refine XS.iconst X0.here hx rfl (hb hby at_121) ?_
            refine XS.goto X0.here hx rfl (pc0 := 122) (pc' := 126) rfl (hb hby at_122) (by decide) (by decide) ?_
            refine XS.istore X0.here hx rfl (hb hby at_126) rfl (l' := #[.val (.int p0), .val (.int p1), .val (.int p2), .val (.int p3), .val (.int p4), .val (.int (p2 &&& (3 : Int32))), .val (.int (own_hl p2)), .val (.int (own_n0 p0)), .val (.int (own_n1 p0)), .val (.int (own_n2 p0)), .val (.int (own_n0 p0)), .val (.int (own_b1 p1)), .val (.int (own_n2 p0)), .val (.int (1 : Int32)), .unset, .unset, .unset, .unset, .unset, .unset, .unset]) rfl ?_
            refine XS.iload X0.here hx rfl (hb hby at_128) rfl ?_
            refine XS.ifNo X0.here hx rfl (hb hby at_130) rfl ((if0 _ _).trans (feq (by decide : ¬ ((1 : Int32) = (0 : Int32)))).1) ?_
            refine XS.iconst X0.here hx rfl (hb hby at_133) ?_
            refine XS.goto X0.here hx rfl (pc0 := 134) (pc' := 141) rfl (hb hby at_134) (by decide) (by decide) ?_
            refine XS.istore X0.here hx rfl (hb hby at_141) rfl (l' := #[.val (.int p0), .val (.int p1), .val (.int p2), .val (.int p3), .val (.int p4), .val (.int (p2 &&& (3 : Int32))), .val (.int (own_hl p2)), .val (.int (own_n0 p0)), .val (.int (own_n1 p0)), .val (.int (own_n2 p0)), .val (.int (own_n0 p0)), .val (.int (own_b1 p1)), .val (.int (own_n2 p0)), .val (.int (1 : Int32)), .val (.int (-1 : Int32)), .unset, .unset, .unset, .unset, .unset, .unset]) rfl ?_
            refine XS.iloadN X0.here hx rfl (hb hby at_143) rfl ?_
            refine XS.bipush X0.here hx rfl (hb hby at_144) ?_
            refine XS.iushr X0.here hx rfl (hb hby at_146) rfl ?_
            refine XS.iconst X0.here hx rfl (hb hby at_147) ?_
            refine XS.iand X0.here hx rfl (hb hby at_148) rfl ?_
            exact kt
          by_cases hc149 : (((p2.toUInt32 >>> ((8 : Int32) &&& 31).toUInt32).toInt32) &&& (1 : Int32)) = (0 : Int32)
          · refine OGW.step (F' := s₁.setTop (mkF m 159 #[.val (.int p0), .val (.int p1), .val (.int p2), .val (.int p3), .val (.int p4), .val (.int (p2 &&& (3 : Int32))), .val (.int (own_hl p2)), .val (.int (own_n0 p0)), .val (.int (own_n1 p0)), .val (.int (own_n2 p0)), .val (.int (own_n0 p0)), .val (.int (own_b1 p1)), .val (.int (own_n2 p0)), .val (.int (1 : Int32)), .val (.int (-1 : Int32)), .unset, .unset, .unset, .unset, .unset, .unset] [])) (fun t kt => ?_) ?_
            · show Steps p.tables e below (s₁.setTop (mkF m 149 #[.val (.int p0), .val (.int p1), .val (.int p2), .val (.int p3), .val (.int p4), .val (.int (p2 &&& (3 : Int32))), .val (.int (own_hl p2)), .val (.int (own_n0 p0)), .val (.int (own_n1 p0)), .val (.int (own_n2 p0)), .val (.int (own_n0 p0)), .val (.int (own_b1 p1)), .val (.int (own_n2 p0)), .val (.int (1 : Int32)), .val (.int (-1 : Int32)), .unset, .unset, .unset, .unset, .unset, .unset] [(.int (((p2.toUInt32 >>> ((8 : Int32) &&& 31).toUInt32).toInt32) &&& (1 : Int32)))])) t
              refine XS.ifYes X0.here hx rfl (pc0 := 149) (pc' := 159) rfl (hb hby at_149) rfl ((if0 _ _).trans (teq hc149).1) (by decide) (by decide) ?_
              exact kt
            refine OGW.step (F' := s₁.setTop (mkF m 163 #[.val (.int p0), .val (.int p1), .val (.int p2), .val (.int p3), .val (.int p4), .val (.int (p2 &&& (3 : Int32))), .val (.int (own_hl p2)), .val (.int (own_n0 p0)), .val (.int (own_n1 p0)), .val (.int (own_n2 p0)), .val (.int (own_n0 p0)), .val (.int (own_b1 p1)), .val (.int (own_n2 p0)), .val (.int (1 : Int32)), .val (.int (-1 : Int32)), .val (.int p4), .unset, .unset, .unset, .unset, .unset] [])) (fun t kt => ?_) ?_
            · show Steps p.tables e below (s₁.setTop (mkF m 159 #[.val (.int p0), .val (.int p1), .val (.int p2), .val (.int p3), .val (.int p4), .val (.int (p2 &&& (3 : Int32))), .val (.int (own_hl p2)), .val (.int (own_n0 p0)), .val (.int (own_n1 p0)), .val (.int (own_n2 p0)), .val (.int (own_n0 p0)), .val (.int (own_b1 p1)), .val (.int (own_n2 p0)), .val (.int (1 : Int32)), .val (.int (-1 : Int32)), .unset, .unset, .unset, .unset, .unset, .unset] [])) t
              refine XS.iload X0.here hx rfl (hb hby at_159) rfl ?_
              refine XS.istore X0.here hx rfl (hb hby at_161) rfl (l' := #[.val (.int p0), .val (.int p1), .val (.int p2), .val (.int p3), .val (.int p4), .val (.int (p2 &&& (3 : Int32))), .val (.int (own_hl p2)), .val (.int (own_n0 p0)), .val (.int (own_n1 p0)), .val (.int (own_n2 p0)), .val (.int (own_n0 p0)), .val (.int (own_b1 p1)), .val (.int (own_n2 p0)), .val (.int (1 : Int32)), .val (.int (-1 : Int32)), .val (.int p4), .unset, .unset, .unset, .unset, .unset]) rfl ?_
              exact kt
            exact J _ _ _ _ _ _ (own_rn0 _) (own_rb1 _) (own_rn2 _) (Or.inr ⟨by decide, by decide⟩)
          · refine OGW.step (F' := s₁.setTop (mkF m 152 #[.val (.int p0), .val (.int p1), .val (.int p2), .val (.int p3), .val (.int p4), .val (.int (p2 &&& (3 : Int32))), .val (.int (own_hl p2)), .val (.int (own_n0 p0)), .val (.int (own_n1 p0)), .val (.int (own_n2 p0)), .val (.int (own_n0 p0)), .val (.int (own_b1 p1)), .val (.int (own_n2 p0)), .val (.int (1 : Int32)), .val (.int (-1 : Int32)), .unset, .unset, .unset, .unset, .unset, .unset] [])) (fun t kt => ?_) ?_
            · show Steps p.tables e below (s₁.setTop (mkF m 149 #[.val (.int p0), .val (.int p1), .val (.int p2), .val (.int p3), .val (.int p4), .val (.int (p2 &&& (3 : Int32))), .val (.int (own_hl p2)), .val (.int (own_n0 p0)), .val (.int (own_n1 p0)), .val (.int (own_n2 p0)), .val (.int (own_n0 p0)), .val (.int (own_b1 p1)), .val (.int (own_n2 p0)), .val (.int (1 : Int32)), .val (.int (-1 : Int32)), .unset, .unset, .unset, .unset, .unset, .unset] [(.int (((p2.toUInt32 >>> ((8 : Int32) &&& 31).toUInt32).toInt32) &&& (1 : Int32)))])) t
              refine XS.ifNo X0.here hx rfl (hb hby at_149) rfl ((if0 _ _).trans (feq hc149).1) ?_
              exact kt
            refine OGW.step (F' := s₁.setTop (mkF m 163 #[.val (.int p0), .val (.int p1), .val (.int p2), .val (.int p3), .val (.int p4), .val (.int (p2 &&& (3 : Int32))), .val (.int (own_hl p2)), .val (.int (own_n0 p0)), .val (.int (own_n1 p0)), .val (.int (own_n2 p0)), .val (.int (own_n0 p0)), .val (.int (own_b1 p1)), .val (.int (own_n2 p0)), .val (.int (1 : Int32)), .val (.int (-1 : Int32)), .val (.int (p3 &&& (2147483647 : Int32))), .unset, .unset, .unset, .unset, .unset] [])) (fun t kt => ?_) ?_
            · show Steps p.tables e below (s₁.setTop (mkF m 152 #[.val (.int p0), .val (.int p1), .val (.int p2), .val (.int p3), .val (.int p4), .val (.int (p2 &&& (3 : Int32))), .val (.int (own_hl p2)), .val (.int (own_n0 p0)), .val (.int (own_n1 p0)), .val (.int (own_n2 p0)), .val (.int (own_n0 p0)), .val (.int (own_b1 p1)), .val (.int (own_n2 p0)), .val (.int (1 : Int32)), .val (.int (-1 : Int32)), .unset, .unset, .unset, .unset, .unset, .unset] [])) t
              refine XS.iloadN X0.here hx rfl (hb hby at_152) rfl ?_
              refine X0.ldcInt hx hown (mvT hZ (own_wd hw 0 rfl)) (g := (mkF m 153 #[.val (.int p0), .val (.int p1), .val (.int p2), .val (.int p3), .val (.int p4), .val (.int (p2 &&& (3 : Int32))), .val (.int (own_hl p2)), .val (.int (own_n0 p0)), .val (.int (own_n1 p0)), .val (.int (own_n2 p0)), .val (.int (own_n0 p0)), .val (.int (own_b1 p1)), .val (.int (own_n2 p0)), .val (.int (1 : Int32)), .val (.int (-1 : Int32)), .unset, .unset, .unset, .unset, .unset, .unset] [(.int p3)])) rfl (hb hby at_153) _ ?_
              refine XS.iand X0.here hx rfl (hb hby at_155) rfl ?_
              refine XS.goto X0.here hx rfl (pc0 := 156) (pc' := 161) rfl (hb hby at_156) (by decide) (by decide) ?_
              refine XS.istore X0.here hx rfl (hb hby at_161) rfl (l' := #[.val (.int p0), .val (.int p1), .val (.int p2), .val (.int p3), .val (.int p4), .val (.int (p2 &&& (3 : Int32))), .val (.int (own_hl p2)), .val (.int (own_n0 p0)), .val (.int (own_n1 p0)), .val (.int (own_n2 p0)), .val (.int (own_n0 p0)), .val (.int (own_b1 p1)), .val (.int (own_n2 p0)), .val (.int (1 : Int32)), .val (.int (-1 : Int32)), .val (.int (p3 &&& (2147483647 : Int32))), .unset, .unset, .unset, .unset, .unset]) rfl ?_
              exact kt
            exact J _ _ _ _ _ _ (own_rn0 _) (own_rb1 _) (own_rn2 _) (Or.inr ⟨by decide, by decide⟩)
    · refine OGW.step (F' := s₁.setTop (mkF m 71 #[.val (.int p0), .val (.int p1), .val (.int p2), .val (.int p3), .val (.int p4), .val (.int (p2 &&& (3 : Int32))), .val (.int (own_hl p2)), .val (.int (own_n0 p0)), .val (.int (own_n1 p0)), .val (.int (own_n2 p0)), .val (.int (own_n0 p0)), .unset, .unset, .unset, .unset, .unset, .unset, .unset, .unset, .unset, .unset] [])) (fun t kt => ?_) ?_
      · show Steps p.tables e below (s₁.setTop (mkF m 68 #[.val (.int p0), .val (.int p1), .val (.int p2), .val (.int p3), .val (.int p4), .val (.int (p2 &&& (3 : Int32))), .val (.int (own_hl p2)), .val (.int (own_n0 p0)), .val (.int (own_n1 p0)), .val (.int (own_n2 p0)), .val (.int (own_n0 p0)), .unset, .unset, .unset, .unset, .unset, .unset, .unset, .unset, .unset, .unset] [(.int (((p2.toUInt32 >>> ((5 : Int32) &&& 31).toUInt32).toInt32) &&& (1 : Int32)))])) t
        refine XS.ifNo X0.here hx rfl (hb hby at_68) rfl ((if0 _ _).trans (feq hc68).1) ?_
        exact kt
      refine OGW.step (F' := s₁.setTop (mkF m 93 #[.val (.int p0), .val (.int p1), .val (.int p2), .val (.int p3), .val (.int p4), .val (.int (p2 &&& (3 : Int32))), .val (.int (own_hl p2)), .val (.int (own_n0 p0)), .val (.int (own_n1 p0)), .val (.int (own_n2 p0)), .val (.int (own_n0 p0)), .val (.int (own_n1 p0)), .unset, .unset, .unset, .unset, .unset, .unset, .unset, .unset, .unset] [(.int (((p2.toUInt32 >>> ((6 : Int32) &&& 31).toUInt32).toInt32) &&& (1 : Int32)))])) (fun t kt => ?_) ?_
      · show Steps p.tables e below (s₁.setTop (mkF m 71 #[.val (.int p0), .val (.int p1), .val (.int p2), .val (.int p3), .val (.int p4), .val (.int (p2 &&& (3 : Int32))), .val (.int (own_hl p2)), .val (.int (own_n0 p0)), .val (.int (own_n1 p0)), .val (.int (own_n2 p0)), .val (.int (own_n0 p0)), .unset, .unset, .unset, .unset, .unset, .unset, .unset, .unset, .unset, .unset] [])) t
        refine XS.iload X0.here hx rfl (hb hby at_71) rfl ?_
        refine XS.goto X0.here hx rfl (pc0 := 73) (pc' := 85) rfl (hb hby at_73) (by decide) (by decide) ?_
        refine XS.istore X0.here hx rfl (hb hby at_85) rfl (l' := #[.val (.int p0), .val (.int p1), .val (.int p2), .val (.int p3), .val (.int p4), .val (.int (p2 &&& (3 : Int32))), .val (.int (own_hl p2)), .val (.int (own_n0 p0)), .val (.int (own_n1 p0)), .val (.int (own_n2 p0)), .val (.int (own_n0 p0)), .val (.int (own_n1 p0)), .unset, .unset, .unset, .unset, .unset, .unset, .unset, .unset, .unset]) rfl ?_
        refine XS.iloadN X0.here hx rfl (hb hby at_87) rfl ?_
        refine XS.bipush X0.here hx rfl (hb hby at_88) ?_
        refine XS.iushr X0.here hx rfl (hb hby at_90) rfl ?_
        refine XS.iconst X0.here hx rfl (hb hby at_91) ?_
        refine XS.iand X0.here hx rfl (hb hby at_92) rfl ?_
        exact kt
      by_cases hc93 : (((p2.toUInt32 >>> ((6 : Int32) &&& 31).toUInt32).toInt32) &&& (1 : Int32)) = (0 : Int32)
      · refine OGW.step (F' := s₁.setTop (mkF m 101 #[.val (.int p0), .val (.int p1), .val (.int p2), .val (.int p3), .val (.int p4), .val (.int (p2 &&& (3 : Int32))), .val (.int (own_hl p2)), .val (.int (own_n0 p0)), .val (.int (own_n1 p0)), .val (.int (own_n2 p0)), .val (.int (own_n0 p0)), .val (.int (own_n1 p0)), .unset, .unset, .unset, .unset, .unset, .unset, .unset, .unset, .unset] [])) (fun t kt => ?_) ?_
        · show Steps p.tables e below (s₁.setTop (mkF m 93 #[.val (.int p0), .val (.int p1), .val (.int p2), .val (.int p3), .val (.int p4), .val (.int (p2 &&& (3 : Int32))), .val (.int (own_hl p2)), .val (.int (own_n0 p0)), .val (.int (own_n1 p0)), .val (.int (own_n2 p0)), .val (.int (own_n0 p0)), .val (.int (own_n1 p0)), .unset, .unset, .unset, .unset, .unset, .unset, .unset, .unset, .unset] [(.int (((p2.toUInt32 >>> ((6 : Int32) &&& 31).toUInt32).toInt32) &&& (1 : Int32)))])) t
          refine XS.ifYes X0.here hx rfl (pc0 := 93) (pc' := 101) rfl (hb hby at_93) rfl ((if0 _ _).trans (teq hc93).1) (by decide) (by decide) ?_
          exact kt
        refine OGW.step (F' := s₁.setTop (mkF m 118 #[.val (.int p0), .val (.int p1), .val (.int p2), .val (.int p3), .val (.int p4), .val (.int (p2 &&& (3 : Int32))), .val (.int (own_hl p2)), .val (.int (own_n0 p0)), .val (.int (own_n1 p0)), .val (.int (own_n2 p0)), .val (.int (own_n0 p0)), .val (.int (own_n1 p0)), .val (.int (own_b2 p1)), .unset, .unset, .unset, .unset, .unset, .unset, .unset, .unset] [(.int (((p2.toUInt32 >>> ((7 : Int32) &&& 31).toUInt32).toInt32) &&& (1 : Int32)))])) (fun t kt => ?_) ?_
        · show Steps p.tables e below (s₁.setTop (mkF m 101 #[.val (.int p0), .val (.int p1), .val (.int p2), .val (.int p3), .val (.int p4), .val (.int (p2 &&& (3 : Int32))), .val (.int (own_hl p2)), .val (.int (own_n0 p0)), .val (.int (own_n1 p0)), .val (.int (own_n2 p0)), .val (.int (own_n0 p0)), .val (.int (own_n1 p0)), .unset, .unset, .unset, .unset, .unset, .unset, .unset, .unset, .unset] [])) t
          refine XS.iloadN X0.here hx rfl (hb hby at_101) rfl ?_
          refine XS.bipush X0.here hx rfl (hb hby at_102) ?_
          refine XS.iushr X0.here hx rfl (hb hby at_104) rfl ?_
          refine XS.sipush X0.here hx rfl (hb hby at_105) ?_
          refine XS.iand X0.here hx rfl (hb hby at_108) rfl ?_
          refine XS.i2c X0.here hx rfl (hb hby at_109) rfl ?_
          refine XS.istore X0.here hx rfl (hb hby at_110) rfl (l' := #[.val (.int p0), .val (.int p1), .val (.int p2), .val (.int p3), .val (.int p4), .val (.int (p2 &&& (3 : Int32))), .val (.int (own_hl p2)), .val (.int (own_n0 p0)), .val (.int (own_n1 p0)), .val (.int (own_n2 p0)), .val (.int (own_n0 p0)), .val (.int (own_n1 p0)), .val (.int (own_b2 p1)), .unset, .unset, .unset, .unset, .unset, .unset, .unset, .unset]) rfl ?_
          refine XS.iloadN X0.here hx rfl (hb hby at_112) rfl ?_
          refine XS.bipush X0.here hx rfl (hb hby at_113) ?_
          refine XS.iushr X0.here hx rfl (hb hby at_115) rfl ?_
          refine XS.iconst X0.here hx rfl (hb hby at_116) ?_
          refine XS.iand X0.here hx rfl (hb hby at_117) rfl ?_
          exact kt
        by_cases hc118 : (((p2.toUInt32 >>> ((7 : Int32) &&& 31).toUInt32).toInt32) &&& (1 : Int32)) = (0 : Int32)
        · refine OGW.step (F' := s₁.setTop (mkF m 125 #[.val (.int p0), .val (.int p1), .val (.int p2), .val (.int p3), .val (.int p4), .val (.int (p2 &&& (3 : Int32))), .val (.int (own_hl p2)), .val (.int (own_n0 p0)), .val (.int (own_n1 p0)), .val (.int (own_n2 p0)), .val (.int (own_n0 p0)), .val (.int (own_n1 p0)), .val (.int (own_b2 p1)), .unset, .unset, .unset, .unset, .unset, .unset, .unset, .unset] [])) (fun t kt => ?_) ?_
          · show Steps p.tables e below (s₁.setTop (mkF m 118 #[.val (.int p0), .val (.int p1), .val (.int p2), .val (.int p3), .val (.int p4), .val (.int (p2 &&& (3 : Int32))), .val (.int (own_hl p2)), .val (.int (own_n0 p0)), .val (.int (own_n1 p0)), .val (.int (own_n2 p0)), .val (.int (own_n0 p0)), .val (.int (own_n1 p0)), .val (.int (own_b2 p1)), .unset, .unset, .unset, .unset, .unset, .unset, .unset, .unset] [(.int (((p2.toUInt32 >>> ((7 : Int32) &&& 31).toUInt32).toInt32) &&& (1 : Int32)))])) t
            refine XS.ifYes X0.here hx rfl (pc0 := 118) (pc' := 125) rfl (hb hby at_118) rfl ((if0 _ _).trans (teq hc118).1) (by decide) (by decide) ?_
            exact kt
          refine OGW.step (F' := s₁.setTop (mkF m 149 #[.val (.int p0), .val (.int p1), .val (.int p2), .val (.int p3), .val (.int p4), .val (.int (p2 &&& (3 : Int32))), .val (.int (own_hl p2)), .val (.int (own_n0 p0)), .val (.int (own_n1 p0)), .val (.int (own_n2 p0)), .val (.int (own_n0 p0)), .val (.int (own_n1 p0)), .val (.int (own_b2 p1)), .val (.int (0 : Int32)), .val (.int (p3 &&& (2147483647 : Int32))), .unset, .unset, .unset, .unset, .unset, .unset] [(.int (((p2.toUInt32 >>> ((8 : Int32) &&& 31).toUInt32).toInt32) &&& (1 : Int32)))])) (fun t kt => ?_) ?_
          · show Steps p.tables e below (s₁.setTop (mkF m 125 #[.val (.int p0), .val (.int p1), .val (.int p2), .val (.int p3), .val (.int p4), .val (.int (p2 &&& (3 : Int32))), .val (.int (own_hl p2)), .val (.int (own_n0 p0)), .val (.int (own_n1 p0)), .val (.int (own_n2 p0)), .val (.int (own_n0 p0)), .val (.int (own_n1 p0)), .val (.int (own_b2 p1)), .unset, .unset, .unset, .unset, .unset, .unset, .unset, .unset] [])) t
            refine XS.iconst X0.here hx rfl (hb hby at_125) ?_
            refine XS.istore X0.here hx rfl (hb hby at_126) rfl (l' := #[.val (.int p0), .val (.int p1), .val (.int p2), .val (.int p3), .val (.int p4), .val (.int (p2 &&& (3 : Int32))), .val (.int (own_hl p2)), .val (.int (own_n0 p0)), .val (.int (own_n1 p0)), .val (.int (own_n2 p0)), .val (.int (own_n0 p0)), .val (.int (own_n1 p0)), .val (.int (own_b2 p1)), .val (.int (0 : Int32)), .unset, .unset, .unset, .unset, .unset, .unset, .unset]) rfl ?_
            refine XS.iload X0.here hx rfl (hb hby at_128) rfl ?_
            refine XS.ifYes X0.here hx rfl (pc0 := 130) (pc' := 137) rfl (hb hby at_130) rfl ((if0 _ _).trans (teq (by decide : (0 : Int32) = (0 : Int32))).1) (by decide) (by decide) ?_
            refine XS.iloadN X0.here hx rfl (hb hby at_137) rfl ?_
            refine X0.ldcInt hx hown (mvT hZ (own_wd hw 0 rfl)) (g := (mkF m 138 #[.val (.int p0), .val (.int p1), .val (.int p2), .val (.int p3), .val (.int p4), .val (.int (p2 &&& (3 : Int32))), .val (.int (own_hl p2)), .val (.int (own_n0 p0)), .val (.int (own_n1 p0)), .val (.int (own_n2 p0)), .val (.int (own_n0 p0)), .val (.int (own_n1 p0)), .val (.int (own_b2 p1)), .val (.int (0 : Int32)), .unset, .unset, .unset, .unset, .unset, .unset, .unset] [(.int p3)])) rfl (hb hby at_138) _ ?_
            refine XS.iand X0.here hx rfl (hb hby at_140) rfl ?_
            refine XS.istore X0.here hx rfl (hb hby at_141) rfl (l' := #[.val (.int p0), .val (.int p1), .val (.int p2), .val (.int p3), .val (.int p4), .val (.int (p2 &&& (3 : Int32))), .val (.int (own_hl p2)), .val (.int (own_n0 p0)), .val (.int (own_n1 p0)), .val (.int (own_n2 p0)), .val (.int (own_n0 p0)), .val (.int (own_n1 p0)), .val (.int (own_b2 p1)), .val (.int (0 : Int32)), .val (.int (p3 &&& (2147483647 : Int32))), .unset, .unset, .unset, .unset, .unset, .unset]) rfl ?_
            refine XS.iloadN X0.here hx rfl (hb hby at_143) rfl ?_
            refine XS.bipush X0.here hx rfl (hb hby at_144) ?_
            refine XS.iushr X0.here hx rfl (hb hby at_146) rfl ?_
            refine XS.iconst X0.here hx rfl (hb hby at_147) ?_
            refine XS.iand X0.here hx rfl (hb hby at_148) rfl ?_
            exact kt
          by_cases hc149 : (((p2.toUInt32 >>> ((8 : Int32) &&& 31).toUInt32).toInt32) &&& (1 : Int32)) = (0 : Int32)
          · refine OGW.step (F' := s₁.setTop (mkF m 159 #[.val (.int p0), .val (.int p1), .val (.int p2), .val (.int p3), .val (.int p4), .val (.int (p2 &&& (3 : Int32))), .val (.int (own_hl p2)), .val (.int (own_n0 p0)), .val (.int (own_n1 p0)), .val (.int (own_n2 p0)), .val (.int (own_n0 p0)), .val (.int (own_n1 p0)), .val (.int (own_b2 p1)), .val (.int (0 : Int32)), .val (.int (p3 &&& (2147483647 : Int32))), .unset, .unset, .unset, .unset, .unset, .unset] [])) (fun t kt => ?_) ?_
            · show Steps p.tables e below (s₁.setTop (mkF m 149 #[.val (.int p0), .val (.int p1), .val (.int p2), .val (.int p3), .val (.int p4), .val (.int (p2 &&& (3 : Int32))), .val (.int (own_hl p2)), .val (.int (own_n0 p0)), .val (.int (own_n1 p0)), .val (.int (own_n2 p0)), .val (.int (own_n0 p0)), .val (.int (own_n1 p0)), .val (.int (own_b2 p1)), .val (.int (0 : Int32)), .val (.int (p3 &&& (2147483647 : Int32))), .unset, .unset, .unset, .unset, .unset, .unset] [(.int (((p2.toUInt32 >>> ((8 : Int32) &&& 31).toUInt32).toInt32) &&& (1 : Int32)))])) t
              refine XS.ifYes X0.here hx rfl (pc0 := 149) (pc' := 159) rfl (hb hby at_149) rfl ((if0 _ _).trans (teq hc149).1) (by decide) (by decide) ?_
              exact kt
            refine OGW.step (F' := s₁.setTop (mkF m 163 #[.val (.int p0), .val (.int p1), .val (.int p2), .val (.int p3), .val (.int p4), .val (.int (p2 &&& (3 : Int32))), .val (.int (own_hl p2)), .val (.int (own_n0 p0)), .val (.int (own_n1 p0)), .val (.int (own_n2 p0)), .val (.int (own_n0 p0)), .val (.int (own_n1 p0)), .val (.int (own_b2 p1)), .val (.int (0 : Int32)), .val (.int (p3 &&& (2147483647 : Int32))), .val (.int p4), .unset, .unset, .unset, .unset, .unset] [])) (fun t kt => ?_) ?_
            · show Steps p.tables e below (s₁.setTop (mkF m 159 #[.val (.int p0), .val (.int p1), .val (.int p2), .val (.int p3), .val (.int p4), .val (.int (p2 &&& (3 : Int32))), .val (.int (own_hl p2)), .val (.int (own_n0 p0)), .val (.int (own_n1 p0)), .val (.int (own_n2 p0)), .val (.int (own_n0 p0)), .val (.int (own_n1 p0)), .val (.int (own_b2 p1)), .val (.int (0 : Int32)), .val (.int (p3 &&& (2147483647 : Int32))), .unset, .unset, .unset, .unset, .unset, .unset] [])) t
              refine XS.iload X0.here hx rfl (hb hby at_159) rfl ?_
              refine XS.istore X0.here hx rfl (hb hby at_161) rfl (l' := #[.val (.int p0), .val (.int p1), .val (.int p2), .val (.int p3), .val (.int p4), .val (.int (p2 &&& (3 : Int32))), .val (.int (own_hl p2)), .val (.int (own_n0 p0)), .val (.int (own_n1 p0)), .val (.int (own_n2 p0)), .val (.int (own_n0 p0)), .val (.int (own_n1 p0)), .val (.int (own_b2 p1)), .val (.int (0 : Int32)), .val (.int (p3 &&& (2147483647 : Int32))), .val (.int p4), .unset, .unset, .unset, .unset, .unset]) rfl ?_
              exact kt
            exact J _ _ _ _ _ _ (own_rn0 _) (own_rn1 _) (own_rb2 _) (Or.inl ⟨rfl, own_pp _⟩)
          · refine OGW.step (F' := s₁.setTop (mkF m 152 #[.val (.int p0), .val (.int p1), .val (.int p2), .val (.int p3), .val (.int p4), .val (.int (p2 &&& (3 : Int32))), .val (.int (own_hl p2)), .val (.int (own_n0 p0)), .val (.int (own_n1 p0)), .val (.int (own_n2 p0)), .val (.int (own_n0 p0)), .val (.int (own_n1 p0)), .val (.int (own_b2 p1)), .val (.int (0 : Int32)), .val (.int (p3 &&& (2147483647 : Int32))), .unset, .unset, .unset, .unset, .unset, .unset] [])) (fun t kt => ?_) ?_
            · show Steps p.tables e below (s₁.setTop (mkF m 149 #[.val (.int p0), .val (.int p1), .val (.int p2), .val (.int p3), .val (.int p4), .val (.int (p2 &&& (3 : Int32))), .val (.int (own_hl p2)), .val (.int (own_n0 p0)), .val (.int (own_n1 p0)), .val (.int (own_n2 p0)), .val (.int (own_n0 p0)), .val (.int (own_n1 p0)), .val (.int (own_b2 p1)), .val (.int (0 : Int32)), .val (.int (p3 &&& (2147483647 : Int32))), .unset, .unset, .unset, .unset, .unset, .unset] [(.int (((p2.toUInt32 >>> ((8 : Int32) &&& 31).toUInt32).toInt32) &&& (1 : Int32)))])) t
              refine XS.ifNo X0.here hx rfl (hb hby at_149) rfl ((if0 _ _).trans (feq hc149).1) ?_
              exact kt
            refine OGW.step (F' := s₁.setTop (mkF m 163 #[.val (.int p0), .val (.int p1), .val (.int p2), .val (.int p3), .val (.int p4), .val (.int (p2 &&& (3 : Int32))), .val (.int (own_hl p2)), .val (.int (own_n0 p0)), .val (.int (own_n1 p0)), .val (.int (own_n2 p0)), .val (.int (own_n0 p0)), .val (.int (own_n1 p0)), .val (.int (own_b2 p1)), .val (.int (0 : Int32)), .val (.int (p3 &&& (2147483647 : Int32))), .val (.int (p3 &&& (2147483647 : Int32))), .unset, .unset, .unset, .unset, .unset] [])) (fun t kt => ?_) ?_
            · show Steps p.tables e below (s₁.setTop (mkF m 152 #[.val (.int p0), .val (.int p1), .val (.int p2), .val (.int p3), .val (.int p4), .val (.int (p2 &&& (3 : Int32))), .val (.int (own_hl p2)), .val (.int (own_n0 p0)), .val (.int (own_n1 p0)), .val (.int (own_n2 p0)), .val (.int (own_n0 p0)), .val (.int (own_n1 p0)), .val (.int (own_b2 p1)), .val (.int (0 : Int32)), .val (.int (p3 &&& (2147483647 : Int32))), .unset, .unset, .unset, .unset, .unset, .unset] [])) t
              refine XS.iloadN X0.here hx rfl (hb hby at_152) rfl ?_
              refine X0.ldcInt hx hown (mvT hZ (own_wd hw 0 rfl)) (g := (mkF m 153 #[.val (.int p0), .val (.int p1), .val (.int p2), .val (.int p3), .val (.int p4), .val (.int (p2 &&& (3 : Int32))), .val (.int (own_hl p2)), .val (.int (own_n0 p0)), .val (.int (own_n1 p0)), .val (.int (own_n2 p0)), .val (.int (own_n0 p0)), .val (.int (own_n1 p0)), .val (.int (own_b2 p1)), .val (.int (0 : Int32)), .val (.int (p3 &&& (2147483647 : Int32))), .unset, .unset, .unset, .unset, .unset, .unset] [(.int p3)])) rfl (hb hby at_153) _ ?_
              refine XS.iand X0.here hx rfl (hb hby at_155) rfl ?_
              refine XS.goto X0.here hx rfl (pc0 := 156) (pc' := 161) rfl (hb hby at_156) (by decide) (by decide) ?_
              refine XS.istore X0.here hx rfl (hb hby at_161) rfl (l' := #[.val (.int p0), .val (.int p1), .val (.int p2), .val (.int p3), .val (.int p4), .val (.int (p2 &&& (3 : Int32))), .val (.int (own_hl p2)), .val (.int (own_n0 p0)), .val (.int (own_n1 p0)), .val (.int (own_n2 p0)), .val (.int (own_n0 p0)), .val (.int (own_n1 p0)), .val (.int (own_b2 p1)), .val (.int (0 : Int32)), .val (.int (p3 &&& (2147483647 : Int32))), .val (.int (p3 &&& (2147483647 : Int32))), .unset, .unset, .unset, .unset, .unset]) rfl ?_
              exact kt
            exact J _ _ _ _ _ _ (own_rn0 _) (own_rn1 _) (own_rb2 _) (Or.inl ⟨rfl, own_pp _⟩)
        · refine OGW.step (F' := s₁.setTop (mkF m 121 #[.val (.int p0), .val (.int p1), .val (.int p2), .val (.int p3), .val (.int p4), .val (.int (p2 &&& (3 : Int32))), .val (.int (own_hl p2)), .val (.int (own_n0 p0)), .val (.int (own_n1 p0)), .val (.int (own_n2 p0)), .val (.int (own_n0 p0)), .val (.int (own_n1 p0)), .val (.int (own_b2 p1)), .unset, .unset, .unset, .unset, .unset, .unset, .unset, .unset] [])) (fun t kt => ?_) ?_
          · show Steps p.tables e below (s₁.setTop (mkF m 118 #[.val (.int p0), .val (.int p1), .val (.int p2), .val (.int p3), .val (.int p4), .val (.int (p2 &&& (3 : Int32))), .val (.int (own_hl p2)), .val (.int (own_n0 p0)), .val (.int (own_n1 p0)), .val (.int (own_n2 p0)), .val (.int (own_n0 p0)), .val (.int (own_n1 p0)), .val (.int (own_b2 p1)), .unset, .unset, .unset, .unset, .unset, .unset, .unset, .unset] [(.int (((p2.toUInt32 >>> ((7 : Int32) &&& 31).toUInt32).toInt32) &&& (1 : Int32)))])) t
            refine XS.ifNo X0.here hx rfl (hb hby at_118) rfl ((if0 _ _).trans (feq hc118).1) ?_
            exact kt
          refine OGW.step (F' := s₁.setTop (mkF m 149 #[.val (.int p0), .val (.int p1), .val (.int p2), .val (.int p3), .val (.int p4), .val (.int (p2 &&& (3 : Int32))), .val (.int (own_hl p2)), .val (.int (own_n0 p0)), .val (.int (own_n1 p0)), .val (.int (own_n2 p0)), .val (.int (own_n0 p0)), .val (.int (own_n1 p0)), .val (.int (own_b2 p1)), .val (.int (1 : Int32)), .val (.int (-1 : Int32)), .unset, .unset, .unset, .unset, .unset, .unset] [(.int (((p2.toUInt32 >>> ((8 : Int32) &&& 31).toUInt32).toInt32) &&& (1 : Int32)))])) (fun t kt => ?_) ?_
          · show Steps p.tables e below (s₁.setTop (mkF m 121 #[.val (.int p0), .val (.int p1), .val (.int p2), .val (.int p3), .val (.int p4), .val (.int (p2 &&& (3 : Int32))), .val (.int (own_hl p2)), .val (.int (own_n0 p0)), .val (.int (own_n1 p0)), .val (.int (own_n2 p0)), .val (.int (own_n0 p0)), .val (.int (own_n1 p0)), .val (.int (own_b2 p1)), .unset, .unset, .unset, .unset, .unset, .unset, .unset, .unset] [])) t
            refine XS.iconst X0.here hx rfl (hb hby at_121) ?_
            refine XS.goto X0.here hx rfl (pc0 := 122) (pc' := 126) rfl (hb hby at_122) (by decide) (by decide) ?_
            refine XS.istore X0.here hx rfl (hb hby at_126) rfl (l' := #[.val (.int p0), .val (.int p1), .val (.int p2), .val (.int p3), .val (.int p4), .val (.int (p2 &&& (3 : Int32))), .val (.int (own_hl p2)), .val (.int (own_n0 p0)), .val (.int (own_n1 p0)), .val (.int (own_n2 p0)), .val (.int (own_n0 p0)), .val (.int (own_n1 p0)), .val (.int (own_b2 p1)), .val (.int (1 : Int32)), .unset, .unset, .unset, .unset, .unset, .unset, .unset]) rfl ?_
            refine XS.iload X0.here hx rfl (hb hby at_128) rfl ?_
            refine XS.ifNo X0.here hx rfl (hb hby at_130) rfl ((if0 _ _).trans (feq (by decide : ¬ ((1 : Int32) = (0 : Int32)))).1) ?_
            refine XS.iconst X0.here hx rfl (hb hby at_133) ?_
            refine XS.goto X0.here hx rfl (pc0 := 134) (pc' := 141) rfl (hb hby at_134) (by decide) (by decide) ?_
            refine XS.istore X0.here hx rfl (hb hby at_141) rfl (l' := #[.val (.int p0), .val (.int p1), .val (.int p2), .val (.int p3), .val (.int p4), .val (.int (p2 &&& (3 : Int32))), .val (.int (own_hl p2)), .val (.int (own_n0 p0)), .val (.int (own_n1 p0)), .val (.int (own_n2 p0)), .val (.int (own_n0 p0)), .val (.int (own_n1 p0)), .val (.int (own_b2 p1)), .val (.int (1 : Int32)), .val (.int (-1 : Int32)), .unset, .unset, .unset, .unset, .unset, .unset]) rfl ?_
            refine XS.iloadN X0.here hx rfl (hb hby at_143) rfl ?_
            refine XS.bipush X0.here hx rfl (hb hby at_144) ?_
            refine XS.iushr X0.here hx rfl (hb hby at_146) rfl ?_
            refine XS.iconst X0.here hx rfl (hb hby at_147) ?_
            refine XS.iand X0.here hx rfl (hb hby at_148) rfl ?_
            exact kt
          by_cases hc149 : (((p2.toUInt32 >>> ((8 : Int32) &&& 31).toUInt32).toInt32) &&& (1 : Int32)) = (0 : Int32)
          · refine OGW.step (F' := s₁.setTop (mkF m 159 #[.val (.int p0), .val (.int p1), .val (.int p2), .val (.int p3), .val (.int p4), .val (.int (p2 &&& (3 : Int32))), .val (.int (own_hl p2)), .val (.int (own_n0 p0)), .val (.int (own_n1 p0)), .val (.int (own_n2 p0)), .val (.int (own_n0 p0)), .val (.int (own_n1 p0)), .val (.int (own_b2 p1)), .val (.int (1 : Int32)), .val (.int (-1 : Int32)), .unset, .unset, .unset, .unset, .unset, .unset] [])) (fun t kt => ?_) ?_
            · show Steps p.tables e below (s₁.setTop (mkF m 149 #[.val (.int p0), .val (.int p1), .val (.int p2), .val (.int p3), .val (.int p4), .val (.int (p2 &&& (3 : Int32))), .val (.int (own_hl p2)), .val (.int (own_n0 p0)), .val (.int (own_n1 p0)), .val (.int (own_n2 p0)), .val (.int (own_n0 p0)), .val (.int (own_n1 p0)), .val (.int (own_b2 p1)), .val (.int (1 : Int32)), .val (.int (-1 : Int32)), .unset, .unset, .unset, .unset, .unset, .unset] [(.int (((p2.toUInt32 >>> ((8 : Int32) &&& 31).toUInt32).toInt32) &&& (1 : Int32)))])) t
              refine XS.ifYes X0.here hx rfl (pc0 := 149) (pc' := 159) rfl (hb hby at_149) rfl ((if0 _ _).trans (teq hc149).1) (by decide) (by decide) ?_
              exact kt
            refine OGW.step (F' := s₁.setTop (mkF m 163 #[.val (.int p0), .val (.int p1), .val (.int p2), .val (.int p3), .val (.int p4), .val (.int (p2 &&& (3 : Int32))), .val (.int (own_hl p2)), .val (.int (own_n0 p0)), .val (.int (own_n1 p0)), .val (.int (own_n2 p0)), .val (.int (own_n0 p0)), .val (.int (own_n1 p0)), .val (.int (own_b2 p1)), .val (.int (1 : Int32)), .val (.int (-1 : Int32)), .val (.int p4), .unset, .unset, .unset, .unset, .unset] [])) (fun t kt => ?_) ?_
            · show Steps p.tables e below (s₁.setTop (mkF m 159 #[.val (.int p0), .val (.int p1), .val (.int p2), .val (.int p3), .val (.int p4), .val (.int (p2 &&& (3 : Int32))), .val (.int (own_hl p2)), .val (.int (own_n0 p0)), .val (.int (own_n1 p0)), .val (.int (own_n2 p0)), .val (.int (own_n0 p0)), .val (.int (own_n1 p0)), .val (.int (own_b2 p1)), .val (.int (1 : Int32)), .val (.int (-1 : Int32)), .unset, .unset, .unset, .unset, .unset, .unset] [])) t
              refine XS.iload X0.here hx rfl (hb hby at_159) rfl ?_
              refine XS.istore X0.here hx rfl (hb hby at_161) rfl (l' := #[.val (.int p0), .val (.int p1), .val (.int p2), .val (.int p3), .val (.int p4), .val (.int (p2 &&& (3 : Int32))), .val (.int (own_hl p2)), .val (.int (own_n0 p0)), .val (.int (own_n1 p0)), .val (.int (own_n2 p0)), .val (.int (own_n0 p0)), .val (.int (own_n1 p0)), .val (.int (own_b2 p1)), .val (.int (1 : Int32)), .val (.int (-1 : Int32)), .val (.int p4), .unset, .unset, .unset, .unset, .unset]) rfl ?_
              exact kt
            exact J _ _ _ _ _ _ (own_rn0 _) (own_rn1 _) (own_rb2 _) (Or.inr ⟨by decide, by decide⟩)
          · refine OGW.step (F' := s₁.setTop (mkF m 152 #[.val (.int p0), .val (.int p1), .val (.int p2), .val (.int p3), .val (.int p4), .val (.int (p2 &&& (3 : Int32))), .val (.int (own_hl p2)), .val (.int (own_n0 p0)), .val (.int (own_n1 p0)), .val (.int (own_n2 p0)), .val (.int (own_n0 p0)), .val (.int (own_n1 p0)), .val (.int (own_b2 p1)), .val (.int (1 : Int32)), .val (.int (-1 : Int32)), .unset, .unset, .unset, .unset, .unset, .unset] [])) (fun t kt => ?_) ?_
            · show Steps p.tables e below (s₁.setTop (mkF m 149 #[.val (.int p0), .val (.int p1), .val (.int p2), .val (.int p3), .val (.int p4), .val (.int (p2 &&& (3 : Int32))), .val (.int (own_hl p2)), .val (.int (own_n0 p0)), .val (.int (own_n1 p0)), .val (.int (own_n2 p0)), .val (.int (own_n0 p0)), .val (.int (own_n1 p0)), .val (.int (own_b2 p1)), .val (.int (1 : Int32)), .val (.int (-1 : Int32)), .unset, .unset, .unset, .unset, .unset, .unset] [(.int (((p2.toUInt32 >>> ((8 : Int32) &&& 31).toUInt32).toInt32) &&& (1 : Int32)))])) t
              refine XS.ifNo X0.here hx rfl (hb hby at_149) rfl ((if0 _ _).trans (feq hc149).1) ?_
              exact kt
            refine OGW.step (F' := s₁.setTop (mkF m 163 #[.val (.int p0), .val (.int p1), .val (.int p2), .val (.int p3), .val (.int p4), .val (.int (p2 &&& (3 : Int32))), .val (.int (own_hl p2)), .val (.int (own_n0 p0)), .val (.int (own_n1 p0)), .val (.int (own_n2 p0)), .val (.int (own_n0 p0)), .val (.int (own_n1 p0)), .val (.int (own_b2 p1)), .val (.int (1 : Int32)), .val (.int (-1 : Int32)), .val (.int (p3 &&& (2147483647 : Int32))), .unset, .unset, .unset, .unset, .unset] [])) (fun t kt => ?_) ?_
            · show Steps p.tables e below (s₁.setTop (mkF m 152 #[.val (.int p0), .val (.int p1), .val (.int p2), .val (.int p3), .val (.int p4), .val (.int (p2 &&& (3 : Int32))), .val (.int (own_hl p2)), .val (.int (own_n0 p0)), .val (.int (own_n1 p0)), .val (.int (own_n2 p0)), .val (.int (own_n0 p0)), .val (.int (own_n1 p0)), .val (.int (own_b2 p1)), .val (.int (1 : Int32)), .val (.int (-1 : Int32)), .unset, .unset, .unset, .unset, .unset, .unset] [])) t
              refine XS.iloadN X0.here hx rfl (hb hby at_152) rfl ?_
              refine X0.ldcInt hx hown (mvT hZ (own_wd hw 0 rfl)) (g := (mkF m 153 #[.val (.int p0), .val (.int p1), .val (.int p2), .val (.int p3), .val (.int p4), .val (.int (p2 &&& (3 : Int32))), .val (.int (own_hl p2)), .val (.int (own_n0 p0)), .val (.int (own_n1 p0)), .val (.int (own_n2 p0)), .val (.int (own_n0 p0)), .val (.int (own_n1 p0)), .val (.int (own_b2 p1)), .val (.int (1 : Int32)), .val (.int (-1 : Int32)), .unset, .unset, .unset, .unset, .unset, .unset] [(.int p3)])) rfl (hb hby at_153) _ ?_
              refine XS.iand X0.here hx rfl (hb hby at_155) rfl ?_
              refine XS.goto X0.here hx rfl (pc0 := 156) (pc' := 161) rfl (hb hby at_156) (by decide) (by decide) ?_
              refine XS.istore X0.here hx rfl (hb hby at_161) rfl (l' := #[.val (.int p0), .val (.int p1), .val (.int p2), .val (.int p3), .val (.int p4), .val (.int (p2 &&& (3 : Int32))), .val (.int (own_hl p2)), .val (.int (own_n0 p0)), .val (.int (own_n1 p0)), .val (.int (own_n2 p0)), .val (.int (own_n0 p0)), .val (.int (own_n1 p0)), .val (.int (own_b2 p1)), .val (.int (1 : Int32)), .val (.int (-1 : Int32)), .val (.int (p3 &&& (2147483647 : Int32))), .unset, .unset, .unset, .unset, .unset]) rfl ?_
              exact kt
            exact J _ _ _ _ _ _ (own_rn0 _) (own_rn1 _) (own_rb2 _) (Or.inr ⟨by decide, by decide⟩)
      · refine OGW.step (F' := s₁.setTop (mkF m 96 #[.val (.int p0), .val (.int p1), .val (.int p2), .val (.int p3), .val (.int p4), .val (.int (p2 &&& (3 : Int32))), .val (.int (own_hl p2)), .val (.int (own_n0 p0)), .val (.int (own_n1 p0)), .val (.int (own_n2 p0)), .val (.int (own_n0 p0)), .val (.int (own_n1 p0)), .unset, .unset, .unset, .unset, .unset, .unset, .unset, .unset, .unset] [])) (fun t kt => ?_) ?_
        · show Steps p.tables e below (s₁.setTop (mkF m 93 #[.val (.int p0), .val (.int p1), .val (.int p2), .val (.int p3), .val (.int p4), .val (.int (p2 &&& (3 : Int32))), .val (.int (own_hl p2)), .val (.int (own_n0 p0)), .val (.int (own_n1 p0)), .val (.int (own_n2 p0)), .val (.int (own_n0 p0)), .val (.int (own_n1 p0)), .unset, .unset, .unset, .unset, .unset, .unset, .unset, .unset, .unset] [(.int (((p2.toUInt32 >>> ((6 : Int32) &&& 31).toUInt32).toInt32) &&& (1 : Int32)))])) t
          refine XS.ifNo X0.here hx rfl (hb hby at_93) rfl ((if0 _ _).trans (feq hc93).1) ?_
          exact kt
        refine OGW.step (F' := s₁.setTop (mkF m 118 #[.val (.int p0), .val (.int p1), .val (.int p2), .val (.int p3), .val (.int p4), .val (.int (p2 &&& (3 : Int32))), .val (.int (own_hl p2)), .val (.int (own_n0 p0)), .val (.int (own_n1 p0)), .val (.int (own_n2 p0)), .val (.int (own_n0 p0)), .val (.int (own_n1 p0)), .val (.int (own_n2 p0)), .unset, .unset, .unset, .unset, .unset, .unset, .unset, .unset] [(.int (((p2.toUInt32 >>> ((7 : Int32) &&& 31).toUInt32).toInt32) &&& (1 : Int32)))])) (fun t kt => ?_) ?_
        · show Steps p.tables e below (s₁.setTop (mkF m 96 #[.val (.int p0), .val (.int p1), .val (.int p2), .val (.int p3), .val (.int p4), .val (.int (p2 &&& (3 : Int32))), .val (.int (own_hl p2)), .val (.int (own_n0 p0)), .val (.int (own_n1 p0)), .val (.int (own_n2 p0)), .val (.int (own_n0 p0)), .val (.int (own_n1 p0)), .unset, .unset, .unset, .unset, .unset, .unset, .unset, .unset, .unset] [])) t
          refine XS.iload X0.here hx rfl (hb hby at_96) rfl ?_
          refine XS.goto X0.here hx rfl (pc0 := 98) (pc' := 110) rfl (hb hby at_98) (by decide) (by decide) ?_
          refine XS.istore X0.here hx rfl (hb hby at_110) rfl (l' := #[.val (.int p0), .val (.int p1), .val (.int p2), .val (.int p3), .val (.int p4), .val (.int (p2 &&& (3 : Int32))), .val (.int (own_hl p2)), .val (.int (own_n0 p0)), .val (.int (own_n1 p0)), .val (.int (own_n2 p0)), .val (.int (own_n0 p0)), .val (.int (own_n1 p0)), .val (.int (own_n2 p0)), .unset, .unset, .unset, .unset, .unset, .unset, .unset, .unset]) rfl ?_
          refine XS.iloadN X0.here hx rfl (hb hby at_112) rfl ?_
          refine XS.bipush X0.here hx rfl (hb hby at_113) ?_
          refine XS.iushr X0.here hx rfl (hb hby at_115) rfl ?_
          refine XS.iconst X0.here hx rfl (hb hby at_116) ?_
          refine XS.iand X0.here hx rfl (hb hby at_117) rfl ?_
          exact kt
        by_cases hc118 : (((p2.toUInt32 >>> ((7 : Int32) &&& 31).toUInt32).toInt32) &&& (1 : Int32)) = (0 : Int32)
        · refine OGW.step (F' := s₁.setTop (mkF m 125 #[.val (.int p0), .val (.int p1), .val (.int p2), .val (.int p3), .val (.int p4), .val (.int (p2 &&& (3 : Int32))), .val (.int (own_hl p2)), .val (.int (own_n0 p0)), .val (.int (own_n1 p0)), .val (.int (own_n2 p0)), .val (.int (own_n0 p0)), .val (.int (own_n1 p0)), .val (.int (own_n2 p0)), .unset, .unset, .unset, .unset, .unset, .unset, .unset, .unset] [])) (fun t kt => ?_) ?_
          · show Steps p.tables e below (s₁.setTop (mkF m 118 #[.val (.int p0), .val (.int p1), .val (.int p2), .val (.int p3), .val (.int p4), .val (.int (p2 &&& (3 : Int32))), .val (.int (own_hl p2)), .val (.int (own_n0 p0)), .val (.int (own_n1 p0)), .val (.int (own_n2 p0)), .val (.int (own_n0 p0)), .val (.int (own_n1 p0)), .val (.int (own_n2 p0)), .unset, .unset, .unset, .unset, .unset, .unset, .unset, .unset] [(.int (((p2.toUInt32 >>> ((7 : Int32) &&& 31).toUInt32).toInt32) &&& (1 : Int32)))])) t
            refine XS.ifYes X0.here hx rfl (pc0 := 118) (pc' := 125) rfl (hb hby at_118) rfl ((if0 _ _).trans (teq hc118).1) (by decide) (by decide) ?_
            exact kt
          refine OGW.step (F' := s₁.setTop (mkF m 149 #[.val (.int p0), .val (.int p1), .val (.int p2), .val (.int p3), .val (.int p4), .val (.int (p2 &&& (3 : Int32))), .val (.int (own_hl p2)), .val (.int (own_n0 p0)), .val (.int (own_n1 p0)), .val (.int (own_n2 p0)), .val (.int (own_n0 p0)), .val (.int (own_n1 p0)), .val (.int (own_n2 p0)), .val (.int (0 : Int32)), .val (.int (p3 &&& (2147483647 : Int32))), .unset, .unset, .unset, .unset, .unset, .unset] [(.int (((p2.toUInt32 >>> ((8 : Int32) &&& 31).toUInt32).toInt32) &&& (1 : Int32)))])) (fun t kt => ?_) ?_
          · show Steps p.tables e below (s₁.setTop (mkF m 125 #[.val (.int p0), .val (.int p1), .val (.int p2), .val (.int p3), .val (.int p4), .val (.int (p2 &&& (3 : Int32))), .val (.int (own_hl p2)), .val (.int (own_n0 p0)), .val (.int (own_n1 p0)), .val (.int (own_n2 p0)), .val (.int (own_n0 p0)), .val (.int (own_n1 p0)), .val (.int (own_n2 p0)), .unset, .unset, .unset, .unset, .unset, .unset, .unset, .unset] [])) t
            refine XS.iconst X0.here hx rfl (hb hby at_125) ?_
            refine XS.istore X0.here hx rfl (hb hby at_126) rfl (l' := #[.val (.int p0), .val (.int p1), .val (.int p2), .val (.int p3), .val (.int p4), .val (.int (p2 &&& (3 : Int32))), .val (.int (own_hl p2)), .val (.int (own_n0 p0)), .val (.int (own_n1 p0)), .val (.int (own_n2 p0)), .val (.int (own_n0 p0)), .val (.int (own_n1 p0)), .val (.int (own_n2 p0)), .val (.int (0 : Int32)), .unset, .unset, .unset, .unset, .unset, .unset, .unset]) rfl ?_
            refine XS.iload X0.here hx rfl (hb hby at_128) rfl ?_
            refine XS.ifYes X0.here hx rfl (pc0 := 130) (pc' := 137) rfl (hb hby at_130) rfl ((if0 _ _).trans (teq (by decide : (0 : Int32) = (0 : Int32))).1) (by decide) (by decide) ?_
            refine XS.iloadN X0.here hx rfl (hb hby at_137) rfl ?_
            refine X0.ldcInt hx hown (mvT hZ (own_wd hw 0 rfl)) (g := (mkF m 138 #[.val (.int p0), .val (.int p1), .val (.int p2), .val (.int p3), .val (.int p4), .val (.int (p2 &&& (3 : Int32))), .val (.int (own_hl p2)), .val (.int (own_n0 p0)), .val (.int (own_n1 p0)), .val (.int (own_n2 p0)), .val (.int (own_n0 p0)), .val (.int (own_n1 p0)), .val (.int (own_n2 p0)), .val (.int (0 : Int32)), .unset, .unset, .unset, .unset, .unset, .unset, .unset] [(.int p3)])) rfl (hb hby at_138) _ ?_
            refine XS.iand X0.here hx rfl (hb hby at_140) rfl ?_
            refine XS.istore X0.here hx rfl (hb hby at_141) rfl (l' := #[.val (.int p0), .val (.int p1), .val (.int p2), .val (.int p3), .val (.int p4), .val (.int (p2 &&& (3 : Int32))), .val (.int (own_hl p2)), .val (.int (own_n0 p0)), .val (.int (own_n1 p0)), .val (.int (own_n2 p0)), .val (.int (own_n0 p0)), .val (.int (own_n1 p0)), .val (.int (own_n2 p0)), .val (.int (0 : Int32)), .val (.int (p3 &&& (2147483647 : Int32))), .unset, .unset, .unset, .unset, .unset, .unset]) rfl ?_
            refine XS.iloadN X0.here hx rfl (hb hby at_143) rfl ?_
            refine XS.bipush X0.here hx rfl (hb hby at_144) ?_
            refine XS.iushr X0.here hx rfl (hb hby at_146) rfl ?_
            refine XS.iconst X0.here hx rfl (hb hby at_147) ?_
            refine XS.iand X0.here hx rfl (hb hby at_148) rfl ?_
            exact kt
          by_cases hc149 : (((p2.toUInt32 >>> ((8 : Int32) &&& 31).toUInt32).toInt32) &&& (1 : Int32)) = (0 : Int32)
          · refine OGW.step (F' := s₁.setTop (mkF m 159 #[.val (.int p0), .val (.int p1), .val (.int p2), .val (.int p3), .val (.int p4), .val (.int (p2 &&& (3 : Int32))), .val (.int (own_hl p2)), .val (.int (own_n0 p0)), .val (.int (own_n1 p0)), .val (.int (own_n2 p0)), .val (.int (own_n0 p0)), .val (.int (own_n1 p0)), .val (.int (own_n2 p0)), .val (.int (0 : Int32)), .val (.int (p3 &&& (2147483647 : Int32))), .unset, .unset, .unset, .unset, .unset, .unset] [])) (fun t kt => ?_) ?_
            · show Steps p.tables e below (s₁.setTop (mkF m 149 #[.val (.int p0), .val (.int p1), .val (.int p2), .val (.int p3), .val (.int p4), .val (.int (p2 &&& (3 : Int32))), .val (.int (own_hl p2)), .val (.int (own_n0 p0)), .val (.int (own_n1 p0)), .val (.int (own_n2 p0)), .val (.int (own_n0 p0)), .val (.int (own_n1 p0)), .val (.int (own_n2 p0)), .val (.int (0 : Int32)), .val (.int (p3 &&& (2147483647 : Int32))), .unset, .unset, .unset, .unset, .unset, .unset] [(.int (((p2.toUInt32 >>> ((8 : Int32) &&& 31).toUInt32).toInt32) &&& (1 : Int32)))])) t
              refine XS.ifYes X0.here hx rfl (pc0 := 149) (pc' := 159) rfl (hb hby at_149) rfl ((if0 _ _).trans (teq hc149).1) (by decide) (by decide) ?_
              exact kt
            refine OGW.step (F' := s₁.setTop (mkF m 163 #[.val (.int p0), .val (.int p1), .val (.int p2), .val (.int p3), .val (.int p4), .val (.int (p2 &&& (3 : Int32))), .val (.int (own_hl p2)), .val (.int (own_n0 p0)), .val (.int (own_n1 p0)), .val (.int (own_n2 p0)), .val (.int (own_n0 p0)), .val (.int (own_n1 p0)), .val (.int (own_n2 p0)), .val (.int (0 : Int32)), .val (.int (p3 &&& (2147483647 : Int32))), .val (.int p4), .unset, .unset, .unset, .unset, .unset] [])) (fun t kt => ?_) ?_
            · show Steps p.tables e below (s₁.setTop (mkF m 159 #[.val (.int p0), .val (.int p1), .val (.int p2), .val (.int p3), .val (.int p4), .val (.int (p2 &&& (3 : Int32))), .val (.int (own_hl p2)), .val (.int (own_n0 p0)), .val (.int (own_n1 p0)), .val (.int (own_n2 p0)), .val (.int (own_n0 p0)), .val (.int (own_n1 p0)), .val (.int (own_n2 p0)), .val (.int (0 : Int32)), .val (.int (p3 &&& (2147483647 : Int32))), .unset, .unset, .unset, .unset, .unset, .unset] [])) t
              refine XS.iload X0.here hx rfl (hb hby at_159) rfl ?_
              refine XS.istore X0.here hx rfl (hb hby at_161) rfl (l' := #[.val (.int p0), .val (.int p1), .val (.int p2), .val (.int p3), .val (.int p4), .val (.int (p2 &&& (3 : Int32))), .val (.int (own_hl p2)), .val (.int (own_n0 p0)), .val (.int (own_n1 p0)), .val (.int (own_n2 p0)), .val (.int (own_n0 p0)), .val (.int (own_n1 p0)), .val (.int (own_n2 p0)), .val (.int (0 : Int32)), .val (.int (p3 &&& (2147483647 : Int32))), .val (.int p4), .unset, .unset, .unset, .unset, .unset]) rfl ?_
              exact kt
            exact J _ _ _ _ _ _ (own_rn0 _) (own_rn1 _) (own_rn2 _) (Or.inl ⟨rfl, own_pp _⟩)
          · refine OGW.step (F' := s₁.setTop (mkF m 152 #[.val (.int p0), .val (.int p1), .val (.int p2), .val (.int p3), .val (.int p4), .val (.int (p2 &&& (3 : Int32))), .val (.int (own_hl p2)), .val (.int (own_n0 p0)), .val (.int (own_n1 p0)), .val (.int (own_n2 p0)), .val (.int (own_n0 p0)), .val (.int (own_n1 p0)), .val (.int (own_n2 p0)), .val (.int (0 : Int32)), .val (.int (p3 &&& (2147483647 : Int32))), .unset, .unset, .unset, .unset, .unset, .unset] [])) (fun t kt => ?_) ?_
            · show Steps p.tables e below (s₁.setTop (mkF m 149 #[.val (.int p0), .val (.int p1), .val (.int p2), .val (.int p3), .val (.int p4), .val (.int (p2 &&& (3 : Int32))), .val (.int (own_hl p2)), .val (.int (own_n0 p0)), .val (.int (own_n1 p0)), .val (.int (own_n2 p0)), .val (.int (own_n0 p0)), .val (.int (own_n1 p0)), .val (.int (own_n2 p0)), .val (.int (0 : Int32)), .val (.int (p3 &&& (2147483647 : Int32))), .unset, .unset, .unset, .unset, .unset, .unset] [(.int (((p2.toUInt32 >>> ((8 : Int32) &&& 31).toUInt32).toInt32) &&& (1 : Int32)))])) t
              refine XS.ifNo X0.here hx rfl (hb hby at_149) rfl ((if0 _ _).trans (feq hc149).1) ?_
              exact kt
            refine OGW.step (F' := s₁.setTop (mkF m 163 #[.val (.int p0), .val (.int p1), .val (.int p2), .val (.int p3), .val (.int p4), .val (.int (p2 &&& (3 : Int32))), .val (.int (own_hl p2)), .val (.int (own_n0 p0)), .val (.int (own_n1 p0)), .val (.int (own_n2 p0)), .val (.int (own_n0 p0)), .val (.int (own_n1 p0)), .val (.int (own_n2 p0)), .val (.int (0 : Int32)), .val (.int (p3 &&& (2147483647 : Int32))), .val (.int (p3 &&& (2147483647 : Int32))), .unset, .unset, .unset, .unset, .unset] [])) (fun t kt => ?_) ?_
            · show Steps p.tables e below (s₁.setTop (mkF m 152 #[.val (.int p0), .val (.int p1), .val (.int p2), .val (.int p3), .val (.int p4), .val (.int (p2 &&& (3 : Int32))), .val (.int (own_hl p2)), .val (.int (own_n0 p0)), .val (.int (own_n1 p0)), .val (.int (own_n2 p0)), .val (.int (own_n0 p0)), .val (.int (own_n1 p0)), .val (.int (own_n2 p0)), .val (.int (0 : Int32)), .val (.int (p3 &&& (2147483647 : Int32))), .unset, .unset, .unset, .unset, .unset, .unset] [])) t
              refine XS.iloadN X0.here hx rfl (hb hby at_152) rfl ?_
              refine X0.ldcInt hx hown (mvT hZ (own_wd hw 0 rfl)) (g := (mkF m 153 #[.val (.int p0), .val (.int p1), .val (.int p2), .val (.int p3), .val (.int p4), .val (.int (p2 &&& (3 : Int32))), .val (.int (own_hl p2)), .val (.int (own_n0 p0)), .val (.int (own_n1 p0)), .val (.int (own_n2 p0)), .val (.int (own_n0 p0)), .val (.int (own_n1 p0)), .val (.int (own_n2 p0)), .val (.int (0 : Int32)), .val (.int (p3 &&& (2147483647 : Int32))), .unset, .unset, .unset, .unset, .unset, .unset] [(.int p3)])) rfl (hb hby at_153) _ ?_
              refine XS.iand X0.here hx rfl (hb hby at_155) rfl ?_
              refine XS.goto X0.here hx rfl (pc0 := 156) (pc' := 161) rfl (hb hby at_156) (by decide) (by decide) ?_
              refine XS.istore X0.here hx rfl (hb hby at_161) rfl (l' := #[.val (.int p0), .val (.int p1), .val (.int p2), .val (.int p3), .val (.int p4), .val (.int (p2 &&& (3 : Int32))), .val (.int (own_hl p2)), .val (.int (own_n0 p0)), .val (.int (own_n1 p0)), .val (.int (own_n2 p0)), .val (.int (own_n0 p0)), .val (.int (own_n1 p0)), .val (.int (own_n2 p0)), .val (.int (0 : Int32)), .val (.int (p3 &&& (2147483647 : Int32))), .val (.int (p3 &&& (2147483647 : Int32))), .unset, .unset, .unset, .unset, .unset]) rfl ?_
              exact kt
            exact J _ _ _ _ _ _ (own_rn0 _) (own_rn1 _) (own_rn2 _) (Or.inl ⟨rfl, own_pp _⟩)
        · refine OGW.step (F' := s₁.setTop (mkF m 121 #[.val (.int p0), .val (.int p1), .val (.int p2), .val (.int p3), .val (.int p4), .val (.int (p2 &&& (3 : Int32))), .val (.int (own_hl p2)), .val (.int (own_n0 p0)), .val (.int (own_n1 p0)), .val (.int (own_n2 p0)), .val (.int (own_n0 p0)), .val (.int (own_n1 p0)), .val (.int (own_n2 p0)), .unset, .unset, .unset, .unset, .unset, .unset, .unset, .unset] [])) (fun t kt => ?_) ?_
          · show Steps p.tables e below (s₁.setTop (mkF m 118 #[.val (.int p0), .val (.int p1), .val (.int p2), .val (.int p3), .val (.int p4), .val (.int (p2 &&& (3 : Int32))), .val (.int (own_hl p2)), .val (.int (own_n0 p0)), .val (.int (own_n1 p0)), .val (.int (own_n2 p0)), .val (.int (own_n0 p0)), .val (.int (own_n1 p0)), .val (.int (own_n2 p0)), .unset, .unset, .unset, .unset, .unset, .unset, .unset, .unset] [(.int (((p2.toUInt32 >>> ((7 : Int32) &&& 31).toUInt32).toInt32) &&& (1 : Int32)))])) t
            refine XS.ifNo X0.here hx rfl (hb hby at_118) rfl ((if0 _ _).trans (feq hc118).1) ?_
            exact kt
          refine OGW.step (F' := s₁.setTop (mkF m 149 #[.val (.int p0), .val (.int p1), .val (.int p2), .val (.int p3), .val (.int p4), .val (.int (p2 &&& (3 : Int32))), .val (.int (own_hl p2)), .val (.int (own_n0 p0)), .val (.int (own_n1 p0)), .val (.int (own_n2 p0)), .val (.int (own_n0 p0)), .val (.int (own_n1 p0)), .val (.int (own_n2 p0)), .val (.int (1 : Int32)), .val (.int (-1 : Int32)), .unset, .unset, .unset, .unset, .unset, .unset] [(.int (((p2.toUInt32 >>> ((8 : Int32) &&& 31).toUInt32).toInt32) &&& (1 : Int32)))])) (fun t kt => ?_) ?_
          · show Steps p.tables e below (s₁.setTop (mkF m 121 #[.val (.int p0), .val (.int p1), .val (.int p2), .val (.int p3), .val (.int p4), .val (.int (p2 &&& (3 : Int32))), .val (.int (own_hl p2)), .val (.int (own_n0 p0)), .val (.int (own_n1 p0)), .val (.int (own_n2 p0)), .val (.int (own_n0 p0)), .val (.int (own_n1 p0)), .val (.int (own_n2 p0)), .unset, .unset, .unset, .unset, .unset, .unset, .unset, .unset] [])) t
            refine XS.iconst X0.here hx rfl (hb hby at_121) ?_
            refine XS.goto X0.here hx rfl (pc0 := 122) (pc' := 126) rfl (hb hby at_122) (by decide) (by decide) ?_
            refine XS.istore X0.here hx rfl (hb hby at_126) rfl (l' := #[.val (.int p0), .val (.int p1), .val (.int p2), .val (.int p3), .val (.int p4), .val (.int (p2 &&& (3 : Int32))), .val (.int (own_hl p2)), .val (.int (own_n0 p0)), .val (.int (own_n1 p0)), .val (.int (own_n2 p0)), .val (.int (own_n0 p0)), .val (.int (own_n1 p0)), .val (.int (own_n2 p0)), .val (.int (1 : Int32)), .unset, .unset, .unset, .unset, .unset, .unset, .unset]) rfl ?_
            refine XS.iload X0.here hx rfl (hb hby at_128) rfl ?_
            refine XS.ifNo X0.here hx rfl (hb hby at_130) rfl ((if0 _ _).trans (feq (by decide : ¬ ((1 : Int32) = (0 : Int32)))).1) ?_
            refine XS.iconst X0.here hx rfl (hb hby at_133) ?_
            refine XS.goto X0.here hx rfl (pc0 := 134) (pc' := 141) rfl (hb hby at_134) (by decide) (by decide) ?_
            refine XS.istore X0.here hx rfl (hb hby at_141) rfl (l' := #[.val (.int p0), .val (.int p1), .val (.int p2), .val (.int p3), .val (.int p4), .val (.int (p2 &&& (3 : Int32))), .val (.int (own_hl p2)), .val (.int (own_n0 p0)), .val (.int (own_n1 p0)), .val (.int (own_n2 p0)), .val (.int (own_n0 p0)), .val (.int (own_n1 p0)), .val (.int (own_n2 p0)), .val (.int (1 : Int32)), .val (.int (-1 : Int32)), .unset, .unset, .unset, .unset, .unset, .unset]) rfl ?_
            refine XS.iloadN X0.here hx rfl (hb hby at_143) rfl ?_
            refine XS.bipush X0.here hx rfl (hb hby at_144) ?_
            refine XS.iushr X0.here hx rfl (hb hby at_146) rfl ?_
            refine XS.iconst X0.here hx rfl (hb hby at_147) ?_
            refine XS.iand X0.here hx rfl (hb hby at_148) rfl ?_
            exact kt
          by_cases hc149 : (((p2.toUInt32 >>> ((8 : Int32) &&& 31).toUInt32).toInt32) &&& (1 : Int32)) = (0 : Int32)
          · refine OGW.step (F' := s₁.setTop (mkF m 159 #[.val (.int p0), .val (.int p1), .val (.int p2), .val (.int p3), .val (.int p4), .val (.int (p2 &&& (3 : Int32))), .val (.int (own_hl p2)), .val (.int (own_n0 p0)), .val (.int (own_n1 p0)), .val (.int (own_n2 p0)), .val (.int (own_n0 p0)), .val (.int (own_n1 p0)), .val (.int (own_n2 p0)), .val (.int (1 : Int32)), .val (.int (-1 : Int32)), .unset, .unset, .unset, .unset, .unset, .unset] [])) (fun t kt => ?_) ?_
            · show Steps p.tables e below (s₁.setTop (mkF m 149 #[.val (.int p0), .val (.int p1), .val (.int p2), .val (.int p3), .val (.int p4), .val (.int (p2 &&& (3 : Int32))), .val (.int (own_hl p2)), .val (.int (own_n0 p0)), .val (.int (own_n1 p0)), .val (.int (own_n2 p0)), .val (.int (own_n0 p0)), .val (.int (own_n1 p0)), .val (.int (own_n2 p0)), .val (.int (1 : Int32)), .val (.int (-1 : Int32)), .unset, .unset, .unset, .unset, .unset, .unset] [(.int (((p2.toUInt32 >>> ((8 : Int32) &&& 31).toUInt32).toInt32) &&& (1 : Int32)))])) t
              refine XS.ifYes X0.here hx rfl (pc0 := 149) (pc' := 159) rfl (hb hby at_149) rfl ((if0 _ _).trans (teq hc149).1) (by decide) (by decide) ?_
              exact kt
            refine OGW.step (F' := s₁.setTop (mkF m 163 #[.val (.int p0), .val (.int p1), .val (.int p2), .val (.int p3), .val (.int p4), .val (.int (p2 &&& (3 : Int32))), .val (.int (own_hl p2)), .val (.int (own_n0 p0)), .val (.int (own_n1 p0)), .val (.int (own_n2 p0)), .val (.int (own_n0 p0)), .val (.int (own_n1 p0)), .val (.int (own_n2 p0)), .val (.int (1 : Int32)), .val (.int (-1 : Int32)), .val (.int p4), .unset, .unset, .unset, .unset, .unset] [])) (fun t kt => ?_) ?_
            · show Steps p.tables e below (s₁.setTop (mkF m 159 #[.val (.int p0), .val (.int p1), .val (.int p2), .val (.int p3), .val (.int p4), .val (.int (p2 &&& (3 : Int32))), .val (.int (own_hl p2)), .val (.int (own_n0 p0)), .val (.int (own_n1 p0)), .val (.int (own_n2 p0)), .val (.int (own_n0 p0)), .val (.int (own_n1 p0)), .val (.int (own_n2 p0)), .val (.int (1 : Int32)), .val (.int (-1 : Int32)), .unset, .unset, .unset, .unset, .unset, .unset] [])) t
              refine XS.iload X0.here hx rfl (hb hby at_159) rfl ?_
              refine XS.istore X0.here hx rfl (hb hby at_161) rfl (l' := #[.val (.int p0), .val (.int p1), .val (.int p2), .val (.int p3), .val (.int p4), .val (.int (p2 &&& (3 : Int32))), .val (.int (own_hl p2)), .val (.int (own_n0 p0)), .val (.int (own_n1 p0)), .val (.int (own_n2 p0)), .val (.int (own_n0 p0)), .val (.int (own_n1 p0)), .val (.int (own_n2 p0)), .val (.int (1 : Int32)), .val (.int (-1 : Int32)), .val (.int p4), .unset, .unset, .unset, .unset, .unset]) rfl ?_
              exact kt
            exact J _ _ _ _ _ _ (own_rn0 _) (own_rn1 _) (own_rn2 _) (Or.inr ⟨by decide, by decide⟩)
          · refine OGW.step (F' := s₁.setTop (mkF m 152 #[.val (.int p0), .val (.int p1), .val (.int p2), .val (.int p3), .val (.int p4), .val (.int (p2 &&& (3 : Int32))), .val (.int (own_hl p2)), .val (.int (own_n0 p0)), .val (.int (own_n1 p0)), .val (.int (own_n2 p0)), .val (.int (own_n0 p0)), .val (.int (own_n1 p0)), .val (.int (own_n2 p0)), .val (.int (1 : Int32)), .val (.int (-1 : Int32)), .unset, .unset, .unset, .unset, .unset, .unset] [])) (fun t kt => ?_) ?_
            · show Steps p.tables e below (s₁.setTop (mkF m 149 #[.val (.int p0), .val (.int p1), .val (.int p2), .val (.int p3), .val (.int p4), .val (.int (p2 &&& (3 : Int32))), .val (.int (own_hl p2)), .val (.int (own_n0 p0)), .val (.int (own_n1 p0)), .val (.int (own_n2 p0)), .val (.int (own_n0 p0)), .val (.int (own_n1 p0)), .val (.int (own_n2 p0)), .val (.int (1 : Int32)), .val (.int (-1 : Int32)), .unset, .unset, .unset, .unset, .unset, .unset] [(.int (((p2.toUInt32 >>> ((8 : Int32) &&& 31).toUInt32).toInt32) &&& (1 : Int32)))])) t
              refine XS.ifNo X0.here hx rfl (hb hby at_149) rfl ((if0 _ _).trans (feq hc149).1) ?_
              exact kt
            refine OGW.step (F' := s₁.setTop (mkF m 163 #[.val (.int p0), .val (.int p1), .val (.int p2), .val (.int p3), .val (.int p4), .val (.int (p2 &&& (3 : Int32))), .val (.int (own_hl p2)), .val (.int (own_n0 p0)), .val (.int (own_n1 p0)), .val (.int (own_n2 p0)), .val (.int (own_n0 p0)), .val (.int (own_n1 p0)), .val (.int (own_n2 p0)), .val (.int (1 : Int32)), .val (.int (-1 : Int32)), .val (.int (p3 &&& (2147483647 : Int32))), .unset, .unset, .unset, .unset, .unset] [])) (fun t kt => ?_) ?_
            · show Steps p.tables e below (s₁.setTop (mkF m 152 #[.val (.int p0), .val (.int p1), .val (.int p2), .val (.int p3), .val (.int p4), .val (.int (p2 &&& (3 : Int32))), .val (.int (own_hl p2)), .val (.int (own_n0 p0)), .val (.int (own_n1 p0)), .val (.int (own_n2 p0)), .val (.int (own_n0 p0)), .val (.int (own_n1 p0)), .val (.int (own_n2 p0)), .val (.int (1 : Int32)), .val (.int (-1 : Int32)), .unset, .unset, .unset, .unset, .unset, .unset] [])) t
              refine XS.iloadN X0.here hx rfl (hb hby at_152) rfl ?_
              refine X0.ldcInt hx hown (mvT hZ (own_wd hw 0 rfl)) (g := (mkF m 153 #[.val (.int p0), .val (.int p1), .val (.int p2), .val (.int p3), .val (.int p4), .val (.int (p2 &&& (3 : Int32))), .val (.int (own_hl p2)), .val (.int (own_n0 p0)), .val (.int (own_n1 p0)), .val (.int (own_n2 p0)), .val (.int (own_n0 p0)), .val (.int (own_n1 p0)), .val (.int (own_n2 p0)), .val (.int (1 : Int32)), .val (.int (-1 : Int32)), .unset, .unset, .unset, .unset, .unset, .unset] [(.int p3)])) rfl (hb hby at_153) _ ?_
              refine XS.iand X0.here hx rfl (hb hby at_155) rfl ?_
              refine XS.goto X0.here hx rfl (pc0 := 156) (pc' := 161) rfl (hb hby at_156) (by decide) (by decide) ?_
              refine XS.istore X0.here hx rfl (hb hby at_161) rfl (l' := #[.val (.int p0), .val (.int p1), .val (.int p2), .val (.int p3), .val (.int p4), .val (.int (p2 &&& (3 : Int32))), .val (.int (own_hl p2)), .val (.int (own_n0 p0)), .val (.int (own_n1 p0)), .val (.int (own_n2 p0)), .val (.int (own_n0 p0)), .val (.int (own_n1 p0)), .val (.int (own_n2 p0)), .val (.int (1 : Int32)), .val (.int (-1 : Int32)), .val (.int (p3 &&& (2147483647 : Int32))), .unset, .unset, .unset, .unset, .unset]) rfl ?_
              exact kt
            exact J _ _ _ _ _ _ (own_rn0 _) (own_rn1 _) (own_rn2 _) (Or.inr ⟨by decide, by decide⟩)
set_option maxRecDepth 65536 in
set_option maxHeartbeats 40000000 in
theorem comes_1 {Post : Tables → Env → Array Value → State → Outcome → State → Prop} (hpost : ∀ tb e args s v u, (limb_1_1.after args s (.returned v) u = true ∧ limb_1_2.after args s (.returned v) u = true ∧ True) → ReturnedEndW s (.returned v) u (Jvm.fieldLocs frame_1_writes args s ++ Jvm.arrayLocs frame_1_arrays args s ++ Jvm.staticLocs frame_1_statics s) 24 1152 → Post tb e args s (.returned v) u) :
    ArmFor flags0 classFile x code maxLocals ret World_1 tables_1 room_1 Calls_1 rest_1 Pre_1 Post := by
  intro l hfl _ _ p e ha hc hk s m args below hf hA hF happ hP
  obtain ⟨hcalls, hrest, hpre⟩ := hP
  obtain ⟨-, -, -, hnamed, -, -, -, hat⟩ := (Spec.applies_iff hf).mp happ
  obtain ⟨hg, hn⟩ := and_e (Cond.before_iff.mp (show (Jvm.Cond.and given_1 narrow_1).before args s = true from hpre))
  obtain ⟨gc, gr0⟩ := and_e hg
  obtain ⟨ga0, gr1⟩ := and_e gr0
  obtain ⟨ga1, gr2⟩ := and_e gr1
  obtain ⟨ga2, gr3⟩ := and_e gr2
  obtain ⟨ga3, gr4⟩ := and_e gr3
  have ga4 := gr4
  obtain ⟨w0, w1, w2, w3, w4, rfl⟩ : ∃ w0 w1 w2 w3 w4 : Value, args = #[w0, w1, w2, w3, w4] := by
    have hs : args.size = 5 := by simpa [Cond.value, given_1] using gc
    obtain ⟨L⟩ := args
    match L, hs with
    | [w0, w1, w2, w3, w4], _ => exact ⟨w0, w1, w2, w3, w4, rfl⟩
  have hw := fun d (hd : d ∈ tables_1) => atoms_spec (ws := Jvm.Cond.code x code maxLocals ret :: tables_1) hat d (List.mem_cons_of_mem _ hd)
  have hfit : Fit s := fun {y c} hc i hi => by
    obtain ⟨ha, rfl⟩ := Array.getElem?_eq_some_iff.mp hc
    have q := List.all_eq_true.mp ((Array.all_eq_true_iff_forall_mem.mp hF) _ (Array.getElem_mem ha)) i (List.mem_range.mpr hi)
    simpa [Array.getElem?_eq_getElem hi] using q
  obtain ⟨hsets, hown0⟩ := atoms_of _ (rest_1_c_eq ▸ (show rest_1_c.before _ s = true from hrest))
  obtain ⟨i0, ei0⟩ := is_v ga0
  obtain rfl : w0 = (.int i0) := Option.some.inj ei0
  obtain ⟨i1, ei1⟩ := is_v ga1
  obtain rfl : w1 = (.int i1) := Option.some.inj ei1
  obtain ⟨i2, ei2⟩ := is_v ga2
  obtain rfl : w2 = (.int i2) := Option.some.inj ei2
  obtain ⟨i3, ei3⟩ := is_v ga3
  obtain rfl : w3 = (.int i3) := Option.some.inj ei3
  obtain ⟨i4, ei4⟩ := is_v ga4
  obtain rfl : w4 = (.int i4) := Option.some.inj ei4
  have hs := fun (i : Nat) {d : Jvm.Cond} (q : jdkStatics_1[i]? = some d) => hsets d (List.mem_of_getElem? q)
  obtain ⟨w_COMPACT_STRINGS, evC⟩ := is_v (Cond.before_iff.mp (hs 1 rfl))
  have S_String_COMPACT_STRINGS : Sta s s.heap "java/lang/String" "COMPACT_STRINGS" "Z" (.int w_COMPACT_STRINGS) := Sta.start evC (Or.inl (hs 0 rfl))
  have hC : ¬ (w_COMPACT_STRINGS = (0 : Int32)) := own_nz evC (hs 2 rfl)
  have hCH : CHv s consts_1 s.vm s.heap := CHv.start (own_EL hw) hcalls.1 (hs 2 rfl) (own_wd hw 27 rfl) (own_wd hw 9 rfl)
  obtain ⟨n, o, h1, h2, h3, _, L, rfl, ⟨hv, N, -⟩, -, hq⟩ := rm0 l s _ hw tables_1 i0 i1 i2 i3 i4 w_COMPACT_STRINGS s.heap s.heap.size (Nat.le_refl _) hC S_String_COMPACT_STRINGS p e ha hc hk s m _ below hf ((Spec.applies_iff_loose hf).mp happ).1 ⟨rfl, State.Warmed39.refl s, rfl, hCH⟩ trivial
  subst hv
  refine ⟨n, _, h1, h2, h3, hpost _ _ _ _ _ _ ⟨Cond.after_iff.mpr rfl, Cond.after_iff.mpr (eq_i res_at (Term.int_eval (1)) rfl), trivial⟩ ⟨hq.1, hq.2.1, hq.2.2.1, (hq.2.2.2.sift fun y hy => Or.inr (N y hy)).mono (by decide) (by decide)⟩⟩
theorem main_1_1 : Claimed_1_1 := comes_1 fun _ _ _ _ _ _ h hF => ⟨h.1, hF⟩
theorem main_1_2 : Claimed_1_2 := comes_1 fun _ _ _ _ _ _ h hF => ⟨h.2.1, hF⟩
end Jvm.Pilot.@@N@@
namespace Jvm.Pilot.@@N@@
open Jvm Jvm.ClassFile Sem Op Lib Jvm.Free Jvm.Stand Jvm.Pilot.@@N@@.Jvm.D
/-! MADE BY PROGRAM (witnessworld.py) out of the Statement's table words and the real class files: 21 classes; the members and pool entries that the words name. The judged class is class 1, her method 2. -/
namespace start1
open Jvm.ClassFile
def u (s : String) : CpInfo := .utf8 (stringToUtf16 s)
/-- a pool by its gaps: so many unusable entries, then the entry; so many at the end -/
def gap : Nat → List CpInfo → List CpInfo
  | 0, r => r
  | n + 1, r => .unusable :: gap n r
def poolList (es : List (Nat × CpInfo)) (last : Nat) : List CpInfo := es.foldr (fun e r => gap e.1 (e.2 :: r)) (gap last [])
def pool (es : List (Nat × CpInfo)) (last : Nat) : Array CpInfo := ⟨poolList es last⟩
def fileOf (pool : Array CpInfo) (this : Nat) (attrs : Array Attribute := #[]) (ms : Array MethodInfo := #[]) (fl : Nat := 33) (sup : Nat := 0) (ifs : Array Nat := #[]) (fds : Array FieldInfo := #[]) : ClassFile where
  minorVersion := 0
  majorVersion := 65
  constantPool := pool
  accessFlags := fl
  thisClass := this
  superClass := sup
  interfaces := ifs
  fields := fds
  methods := ms
  attributes := attrs
def plain (name : String) (sup : Option ClassId) : Class where
  name := name
  kind := .ordinary
  loader := none
  accessFlags := 33
  super := sup
  interfaces := #[]
  cf := none
  fields := #[]
  methods := #[]
  instanceTypes := #[]
  staticTypes := #[]
  resolved := #[]
  callSites := []
  init := .initialized
  statics := none
  mirror := none

def pool0 : Array CpInfo := pool [(5, u "<init>"), (0, u "()V"), (1, .class_ 10), (1, u "java/lang/Object")] 113

def k0c0 : Code := { maxStack := 0, maxLocals := 1, code := object_method_1_code, exceptionTable := #[], attributes := #[] }
def k0m0 : Method := { name := "<init>", desc := "()V", sig := { parameters := [], returnType := none }, accessFlags := 1, code := some k0c0 }
/-- java/lang/Object -/
def k0 : Class := { plain "java/lang/Object" none with
  accessFlags := 33
  interfaces := #[]
  cf := some (fileOf pool0 8 #[] #[{ accessFlags := 1, nameIndex := 5, descriptorIndex := 6, attributes := #[] }] 33 0 #[] #[])
  fields := #[]
  methods := #[k0m0]
  instanceTypes := #[]
  staticTypes := #[]
  resolved := Array.replicate 124 none
  statics := none }

def pool1 : Array CpInfo := pool [(2, .class_ 4), (1, u "java/lang/Object"), (0, u "<init>"), (0, u "()V"), (0, .class_ 8), (0, u "java/lang/String"), (0, .methodref 7 10), (0, .nameAndType 5 11), (0, u "([C)V"), (0, .integer 2147483647), (0, .class_ 14), (0, u "com/example/querywire/querywire/AllowedHosts$Host"), (0, .methodref 16 17), (0, .class_ 18), (0, .nameAndType 19 20), (0, u "com/example/querywire/querywire/HostAllowsPinLaw"), (0, u "str"), (0, u "(ICCC)Ljava/lang/String;"), (0, .methodref 13 22), (0, .nameAndType 5 23), (0, u "(Ljava/lang/String;I)V"), (0, .methodref 13 25), (0, .nameAndType 26 27), (0, u "allows"), (0, u "(Ljava/lang/String;I)Z"), (3, u "law"), (0, u "(IIIII)Z")] 6

def k1m0 : Method := { name := "<init>", desc := "()V", sig := { parameters := [], returnType := none }, accessFlags := 1, code := none }
def k1c1 : Code := { maxStack := 6, maxLocals := 4, code := method_2_code, exceptionTable := #[], attributes := #[] }
def k1m1 : Method := { name := "str", desc := "(ICCC)Ljava/lang/String;", sig := { parameters := [.int, .char, .char, .char], returnType := some (.object "java/lang/String") }, accessFlags := 10, code := some k1c1 }
def k1c2 : Code := { maxStack := 6, maxLocals := 21, code := code, exceptionTable := #[], attributes := #[] }
def k1m2 : Method := { name := "law", desc := "(IIIII)Z", sig := { parameters := [.int, .int, .int, .int, .int], returnType := some .boolean }, accessFlags := 9, code := some k1c2 }
/-- com/example/querywire/querywire/HostAllowsPinLaw -/
def k1 : Class := { plain "com/example/querywire/querywire/HostAllowsPinLaw" (some 0) with
  accessFlags := 49
  interfaces := #[]
  cf := some (fileOf pool1 16 #[] #[{ accessFlags := 1, nameIndex := 5, descriptorIndex := 6, attributes := #[] }, { accessFlags := 10, nameIndex := 19, descriptorIndex := 20, attributes := #[] }, { accessFlags := 9, nameIndex := 31, descriptorIndex := 32, attributes := #[] }] 49 2 #[] #[])
  fields := #[]
  methods := #[k1m0, k1m1, k1m2]
  instanceTypes := #[]
  staticTypes := #[]
  resolved := Array.replicate 39 none
  statics := none }

def pool2 : Array CpInfo := pool [(1, .methodref 2 3), (0, .class_ 4), (0, .nameAndType 5 6), (0, u "java/lang/Object"), (0, u "<init>"), (0, u "()V"), (0, .class_ 8), (0, u "java/lang/Record")] 13

def k2c0 : Code := { maxStack := 1, maxLocals := 1, code := jdk_30_method_1_code, exceptionTable := #[], attributes := #[] }
def k2m0 : Method := { name := "<init>", desc := "()V", sig := { parameters := [], returnType := none }, accessFlags := 4, code := some k2c0 }
/-- java/lang/Record -/
def k2 : Class := { plain "java/lang/Record" (some 0) with
  accessFlags := 1057
  interfaces := #[]
  cf := some (fileOf pool2 7 #[] #[{ accessFlags := 4, nameIndex := 5, descriptorIndex := 6, attributes := #[] }] 1057 2 #[] #[])
  fields := #[]
  methods := #[k2m0]
  instanceTypes := #[]
  staticTypes := #[]
  resolved := Array.replicate 22 none
  statics := none }

def pool3 : Array CpInfo := pool [(1, .methodref 2 3), (0, .class_ 4), (0, .nameAndType 5 6), (0, u "java/lang/Record"), (0, u "<init>"), (0, u "()V"), (0, .fieldref 8 9), (0, .class_ 10), (0, .nameAndType 11 12), (0, u "com/example/querywire/querywire/AllowedHosts$Host"), (0, u "name"), (0, u "Ljava/lang/String;"), (0, .fieldref 8 14), (0, .nameAndType 15 16), (0, u "port"), (0, u "I"), (0, .methodref 18 19), (0, .class_ 20), (0, .nameAndType 21 22), (0, u "java/lang/String"), (0, u "equals"), (0, u "(Ljava/lang/Object;)Z"), (11, u "(Ljava/lang/String;I)V"), (3, u "allows"), (0, u "(Ljava/lang/String;I)Z"), (6, .class_ 47), (0, u "com/example/querywire/querywire/AllowedHosts")] 20

def k3c0 : Code := { maxStack := 2, maxLocals := 3, code := prog_5_method_1_code, exceptionTable := #[], attributes := #[] }
def k3m0 : Method := { name := "<init>", desc := "(Ljava/lang/String;I)V", sig := { parameters := [(.object "java/lang/String"), .int], returnType := none }, accessFlags := 0, code := some k3c0 }
def k3c1 : Code := { maxStack := 2, maxLocals := 3, code := prog_5_method_2_code, exceptionTable := #[], attributes := #[] }
def k3m1 : Method := { name := "allows", desc := "(Ljava/lang/String;I)Z", sig := { parameters := [(.object "java/lang/String"), .int], returnType := some .boolean }, accessFlags := 0, code := some k3c1 }
/-- com/example/querywire/querywire/AllowedHosts$Host -/
def k3 : Class := { plain "com/example/querywire/querywire/AllowedHosts$Host" (some 2) with
  accessFlags := 48
  interfaces := #[]
  cf := some (fileOf pool3 8 #[.nestHost 46] #[{ accessFlags := 0, nameIndex := 5, descriptorIndex := 34, attributes := #[] }, { accessFlags := 0, nameIndex := 38, descriptorIndex := 39, attributes := #[] }] 48 2 #[] #[{ accessFlags := 18, nameIndex := 11, descriptorIndex := 12, attributes := #[] }, { accessFlags := 18, nameIndex := 15, descriptorIndex := 16, attributes := #[] }])
  fields := #[{ name := "name", type := (.object "java/lang/String"), accessFlags := 18, slot := 0, constantValue := 0 }, { name := "port", type := .int, accessFlags := 18, slot := 1, constantValue := 0 }]
  methods := #[k3m0, k3m1]
  instanceTypes := #[(.object "java/lang/String"), .int]
  staticTypes := #[]
  resolved := Array.replicate 68 none
  statics := none }

def pool4 : Array CpInfo := pool [(1, .class_ 2), (0, u "java/io/Serializable"), (0, .class_ 4), (0, u "java/lang/Object")] 2

/-- java/io/Serializable -/
def k4 : Class := { plain "java/io/Serializable" (some 0) with
  accessFlags := 1537
  interfaces := #[]
  cf := some (fileOf pool4 1 #[] #[] 1537 3 #[] #[])
  fields := #[]
  methods := #[]
  instanceTypes := #[]
  staticTypes := #[]
  resolved := Array.replicate 7 none
  statics := none }

def pool5 : Array CpInfo := pool [(1, .class_ 2), (0, u "java/lang/Comparable"), (0, .class_ 4), (0, u "java/lang/Object")] 7

/-- java/lang/Comparable -/
def k5 : Class := { plain "java/lang/Comparable" (some 0) with
  accessFlags := 1537
  interfaces := #[]
  cf := some (fileOf pool5 1 #[] #[] 1537 3 #[] #[])
  fields := #[]
  methods := #[]
  instanceTypes := #[]
  staticTypes := #[]
  resolved := Array.replicate 12 none
  statics := none }

def pool6 : Array CpInfo := pool [(2, .class_ 4), (1, u "java/lang/CharSequence"), (42, .class_ 48), (0, u "java/lang/CharSequence$1CodePointIterator"), (10, .class_ 60), (0, u "java/lang/CharSequence$1CharIterator"), (5, .class_ 67), (0, u "java/lang/Object")] 63

/-- java/lang/CharSequence -/
def k6 : Class := { plain "java/lang/CharSequence" (some 0) with
  accessFlags := 1537
  interfaces := #[]
  cf := some (fileOf pool6 2 #[.nestMembers #[47, 59]] #[] 1537 66 #[] #[])
  fields := #[]
  methods := #[]
  instanceTypes := #[]
  staticTypes := #[]
  resolved := Array.replicate 131 none
  statics := none }

def pool7 : Array CpInfo := pool [(1, .class_ 2), (0, u "java/lang/constant/Constable"), (0, .class_ 4), (0, u "java/lang/Object")] 6

/-- java/lang/constant/Constable -/
def k7 : Class := { plain "java/lang/constant/Constable" (some 0) with
  accessFlags := 1537
  interfaces := #[]
  cf := some (fileOf pool7 1 #[] #[] 1537 3 #[] #[])
  fields := #[]
  methods := #[]
  instanceTypes := #[]
  staticTypes := #[]
  resolved := Array.replicate 11 none
  statics := none }

def pool8 : Array CpInfo := pool [(1, .class_ 2), (0, u "java/lang/constant/ConstantDesc"), (0, .class_ 4), (0, u "java/lang/Object")] 32

/-- java/lang/constant/ConstantDesc -/
def k8 : Class := { plain "java/lang/constant/ConstantDesc" (some 0) with
  accessFlags := 1537
  interfaces := #[]
  cf := some (fileOf pool8 1 #[] #[] 1537 3 #[] #[])
  fields := #[]
  methods := #[]
  instanceTypes := #[]
  staticTypes := #[]
  resolved := Array.replicate 37 none
  statics := none }

def pool9 : Array CpInfo := pool [(1, .methodref 2 3), (0, .class_ 4), (0, .nameAndType 5 6), (0, u "java/lang/Object"), (0, u "<init>"), (0, u "()V"), (0, .string 8), (0, u ""), (0, .fieldref 10 11), (0, .class_ 12), (0, .nameAndType 13 14), (0, u "java/lang/String"), (0, u "value"), (0, u "[B"), (0, .fieldref 10 16), (0, .nameAndType 17 18), (0, u "coder"), (0, u "B"), (2, u "hash"), (0, u "I"), (2, u "hashIsZero"), (0, u "Z"), (0, .methodref 10 28), (0, .nameAndType 5 29), (0, u "([CIILjava/lang/Void;)V"), (8, .fieldref 10 39), (0, .nameAndType 40 26), (0, u "COMPACT_STRINGS"), (1, .class_ 44), (1, u "java/lang/StringUTF16"), (0, u "compress"), (1, .methodref 42 48), (0, .nameAndType 49 50), (0, u "coderFromArrayLen"), (0, u "([BI)B"), (56, .class_ 109), (1, u "java/lang/StringLatin1"), (67, .methodref 42 178), (0, .nameAndType 45 179), (0, u "([CII)[B"), (361, .methodref 107 542), (0, .nameAndType 543 544), (0, u "equals"), (0, u "([B[B)Z"), (28, u "(Ljava/lang/Object;)Z"), (1, .class_ 576), (0, u "java/lang/CharSequence"), (22, u "CASE_INSENSITIVE_ORDER"), (0, u "Ljava/util/Comparator;"), (409, u "([C)V"), (90, u "serialPersistentFields"), (0, u "[Ljava/io/ObjectStreamField;"), (0, .class_ 1104), (0, u "java/lang/String$CaseInsensitiveComparator"), (1, .class_ 1107), (0, u "java/io/Serializable"), (0, .class_ 1109), (0, u "java/lang/Comparable"), (0, .class_ 1111), (0, u "java/lang/constant/Constable"), (0, .class_ 1113), (0, u "java/lang/constant/ConstantDesc"), (2, u "serialVersionUID"), (0, u "J"), (3, u "REPL"), (0, u "C"), (2, u "LATIN1"), (1, u "UTF16")] 323

def k9m0 : Method := { name := "<init>", desc := "()V", sig := { parameters := [], returnType := none }, accessFlags := 1, code := none }
def k9c1 : Code := { maxStack := 5, maxLocals := 2, code := jdk_42_method_3_code, exceptionTable := #[], attributes := #[] }
def k9m1 : Method := { name := "<init>", desc := "([C)V", sig := { parameters := [(.array .char)], returnType := none }, accessFlags := 1, code := some k9c1 }
def k9c2 : Code := { maxStack := 2, maxLocals := 3, code := jdk_42_method_66_code, exceptionTable := #[], attributes := #[] }
def k9m2 : Method := { name := "equals", desc := "(Ljava/lang/Object;)Z", sig := { parameters := [(.object "java/lang/Object")], returnType := some .boolean }, accessFlags := 1, code := some k9c2 }
def k9c3 : Code := { maxStack := 4, maxLocals := 6, code := jdk_42_method_149_code, exceptionTable := #[], attributes := #[] }
def k9m3 : Method := { name := "<init>", desc := "([CIILjava/lang/Void;)V", sig := { parameters := [(.array .char), .int, .int, (.object "java/lang/Void")], returnType := none }, accessFlags := 2, code := some k9c3 }
/-- java/lang/String -/
def k9 : Class := { plain "java/lang/String" (some 0) with
  accessFlags := 49
  interfaces := #[4, 5, 6, 7, 8]
  cf := some (fileOf pool9 10 #[.nestMembers #[1103]] #[{ accessFlags := 1, nameIndex := 5, descriptorIndex := 6, attributes := #[] }, { accessFlags := 1, nameIndex := 5, descriptorIndex := 1010, attributes := #[] }, { accessFlags := 1, nameIndex := 543, descriptorIndex := 573, attributes := #[] }, { accessFlags := 2, nameIndex := 5, descriptorIndex := 29, attributes := #[] }] 49 2 #[1106, 1108, 575, 1110, 1112] #[{ accessFlags := 18, nameIndex := 13, descriptorIndex := 14, attributes := #[] }, { accessFlags := 18, nameIndex := 17, descriptorIndex := 18, attributes := #[] }, { accessFlags := 2, nameIndex := 21, descriptorIndex := 22, attributes := #[] }, { accessFlags := 2, nameIndex := 25, descriptorIndex := 26, attributes := #[] }, { accessFlags := 26, nameIndex := 1116, descriptorIndex := 1117, attributes := #[] }, { accessFlags := 24, nameIndex := 40, descriptorIndex := 26, attributes := #[] }, { accessFlags := 26, nameIndex := 1101, descriptorIndex := 1102, attributes := #[] }, { accessFlags := 26, nameIndex := 1121, descriptorIndex := 1122, attributes := #[] }, { accessFlags := 25, nameIndex := 599, descriptorIndex := 600, attributes := #[] }, { accessFlags := 24, nameIndex := 1125, descriptorIndex := 18, attributes := #[] }, { accessFlags := 24, nameIndex := 1127, descriptorIndex := 18, attributes := #[] }])
  fields := #[{ name := "value", type := (.array .byte), accessFlags := 18, slot := 0, constantValue := 0 }, { name := "coder", type := .byte, accessFlags := 18, slot := 1, constantValue := 0 }, { name := "hash", type := .int, accessFlags := 2, slot := 2, constantValue := 0 }, { name := "hashIsZero", type := .boolean, accessFlags := 2, slot := 3, constantValue := 0 }, { name := "serialVersionUID", type := .long, accessFlags := 26, slot := 0, constantValue := 0 }, { name := "COMPACT_STRINGS", type := .boolean, accessFlags := 24, slot := 1, constantValue := 0 }, { name := "serialPersistentFields", type := (.array (.object "java/io/ObjectStreamField")), accessFlags := 26, slot := 2, constantValue := 0 }, { name := "REPL", type := .char, accessFlags := 26, slot := 3, constantValue := 0 }, { name := "CASE_INSENSITIVE_ORDER", type := (.object "java/util/Comparator"), accessFlags := 25, slot := 4, constantValue := 0 }, { name := "LATIN1", type := .byte, accessFlags := 24, slot := 5, constantValue := 0 }, { name := "UTF16", type := .byte, accessFlags := 24, slot := 6, constantValue := 0 }]
  methods := #[k9m0, k9m1, k9m2, k9m3]
  instanceTypes := #[(.array .byte), .byte, .int, .boolean]
  staticTypes := #[.long, .boolean, (.array (.object "java/io/ObjectStreamField")), .char, (.object "java/util/Comparator"), .byte, .byte]
  resolved := Array.replicate 1451 none
  statics := some 0 }

def pool10 : Array CpInfo := pool [(6, .class_ 8), (1, u "java/lang/Object"), (0, u "<init>"), (0, u "()V"), (1, .class_ 14), (1, u "java/lang/StringUTF16"), (31, u "$assertionsDisabled"), (0, u "Z"), (13, u "HI_BYTE_SHIFT"), (0, u "I"), (2, u "LO_BYTE_SHIFT"), (49, .methodref 12 116), (0, .nameAndType 117 118), (0, u "compress"), (0, u "([CI[BII)I"), (3, u "([CII)[B"), (138, u "coderFromArrayLen"), (0, u "([BI)B"), (106, .class_ 371), (1, u "java/lang/StringUTF16$LinesSpliterator"), (58, u "MAX_LENGTH"), (196, .class_ 628), (0, u "java/lang/StringUTF16$CodePointsSpliterator"), (0, .class_ 630), (0, u "java/lang/StringUTF16$CharsSpliterator")] 4

def k10m0 : Method := { name := "<init>", desc := "()V", sig := { parameters := [], returnType := none }, accessFlags := 0, code := none }
def k10c1 : Code := { maxStack := 2, maxLocals := 2, code := jdk_52_method_15_code, exceptionTable := #[], attributes := #[] }
def k10m1 : Method := { name := "coderFromArrayLen", desc := "([BI)B", sig := { parameters := [(.array .byte), .int], returnType := some .byte }, accessFlags := 8, code := some k10c1 }
def k10c2 : Code := { maxStack := 5, maxLocals := 6, code := jdk_52_method_16_code, exceptionTable := #[], attributes := #[] }
def k10m2 : Method := { name := "compress", desc := "([CII)[B", sig := { parameters := [(.array .char), .int, .int], returnType := some (.array .byte) }, accessFlags := 9, code := some k10c2 }
def k10c3 : Code := { maxStack := 3, maxLocals := 7, code := jdk_52_method_21_code, exceptionTable := #[], attributes := #[] }
def k10m3 : Method := { name := "compress", desc := "([CI[BII)I", sig := { parameters := [(.array .char), .int, (.array .byte), .int, .int], returnType := some .int }, accessFlags := 9, code := some k10c3 }
/-- java/lang/StringUTF16 -/
def k10 : Class := { plain "java/lang/StringUTF16" (some 0) with
  accessFlags := 48
  interfaces := #[]
  cf := some (fileOf pool10 12 #[.nestMembers #[627, 629, 369]] #[{ accessFlags := 0, nameIndex := 9, descriptorIndex := 10, attributes := #[] }, { accessFlags := 8, nameIndex := 261, descriptorIndex := 262, attributes := #[] }, { accessFlags := 9, nameIndex := 117, descriptorIndex := 122, attributes := #[] }, { accessFlags := 9, nameIndex := 117, descriptorIndex := 118, attributes := #[] }] 48 6 #[] #[{ accessFlags := 26, nameIndex := 61, descriptorIndex := 62, attributes := #[] }, { accessFlags := 26, nameIndex := 65, descriptorIndex := 62, attributes := #[] }, { accessFlags := 24, nameIndex := 430, descriptorIndex := 62, attributes := #[] }, { accessFlags := 4120, nameIndex := 46, descriptorIndex := 47, attributes := #[] }])
  fields := #[{ name := "HI_BYTE_SHIFT", type := .int, accessFlags := 26, slot := 0, constantValue := 0 }, { name := "LO_BYTE_SHIFT", type := .int, accessFlags := 26, slot := 1, constantValue := 0 }, { name := "MAX_LENGTH", type := .int, accessFlags := 24, slot := 2, constantValue := 0 }, { name := "$assertionsDisabled", type := .boolean, accessFlags := 4120, slot := 3, constantValue := 0 }]
  methods := #[k10m0, k10m1, k10m2, k10m3]
  instanceTypes := #[]
  staticTypes := #[.int, .int, .int, .boolean]
  resolved := Array.replicate 635 none
  statics := none }

def pool11 : Array CpInfo := pool [(4, .class_ 6), (1, u "java/lang/Object"), (0, u "<init>"), (0, u "()V"), (5, .class_ 16), (1, u "java/lang/StringLatin1"), (104, u "$assertionsDisabled"), (0, u "Z"), (98, .class_ 223), (1, u "java/lang/StringLatin1$LinesSpliterator"), (57, u "equals"), (0, u "([B[B)Z"), (107, .class_ 391), (0, u "java/lang/StringLatin1$CharsSpliterator")] 3

def k11m0 : Method := { name := "<init>", desc := "()V", sig := { parameters := [], returnType := none }, accessFlags := 0, code := none }
def k11c1 : Code := { maxStack := 3, maxLocals := 3, code := jdk_43_method_13_code, exceptionTable := #[], attributes := #[] }
def k11m1 : Method := { name := "equals", desc := "([B[B)Z", sig := { parameters := [(.array .byte), (.array .byte)], returnType := some .boolean }, accessFlags := 9, code := some k11c1 }
/-- java/lang/StringLatin1 -/
def k11 : Class := { plain "java/lang/StringLatin1" (some 0) with
  accessFlags := 48
  interfaces := #[]
  cf := some (fileOf pool11 14 #[.nestMembers #[390, 221]] #[{ accessFlags := 0, nameIndex := 7, descriptorIndex := 8, attributes := #[] }, { accessFlags := 9, nameIndex := 281, descriptorIndex := 282, attributes := #[] }] 48 4 #[] #[{ accessFlags := 4120, nameIndex := 121, descriptorIndex := 122, attributes := #[] }])
  fields := #[{ name := "$assertionsDisabled", type := .boolean, accessFlags := 4120, slot := 0, constantValue := 0 }]
  methods := #[k11m0, k11m1]
  instanceTypes := #[]
  staticTypes := #[.boolean]
  resolved := Array.replicate 395 none
  statics := none }

def pool12 : Array CpInfo := pool [(2, .class_ 4), (1, u "java/lang/Object"), (0, u "<init>"), (0, u "()V"), (17, .class_ 26), (1, u "jdk/internal/util/Preconditions"), (28, .class_ 56), (0, u "jdk/internal/util/Preconditions$4"), (57, .class_ 115), (0, u "jdk/internal/util/Preconditions$1"), (7, u "SIOOBE_FORMATTER"), (0, u "Ljava/util/function/BiFunction;"), (0, .class_ 126), (0, u "jdk/internal/util/Preconditions$2"), (3, u "AIOOBE_FORMATTER"), (0, .class_ 132), (0, u "jdk/internal/util/Preconditions$3"), (3, u "IOOBE_FORMATTER")] 57

def k12m0 : Method := { name := "<init>", desc := "()V", sig := { parameters := [], returnType := none }, accessFlags := 1, code := none }
/-- jdk/internal/util/Preconditions -/
def k12 : Class := { plain "jdk/internal/util/Preconditions" (some 0) with
  accessFlags := 33
  interfaces := #[]
  cf := some (fileOf pool12 24 #[.nestMembers #[55, 131, 125, 114]] #[{ accessFlags := 1, nameIndex := 5, descriptorIndex := 6, attributes := #[] }] 33 2 #[] #[{ accessFlags := 25, nameIndex := 123, descriptorIndex := 124, attributes := #[] }, { accessFlags := 25, nameIndex := 130, descriptorIndex := 124, attributes := #[] }, { accessFlags := 25, nameIndex := 136, descriptorIndex := 124, attributes := #[] }])
  fields := #[{ name := "SIOOBE_FORMATTER", type := (.object "java/util/function/BiFunction"), accessFlags := 25, slot := 0, constantValue := 0 }, { name := "AIOOBE_FORMATTER", type := (.object "java/util/function/BiFunction"), accessFlags := 25, slot := 1, constantValue := 0 }, { name := "IOOBE_FORMATTER", type := (.object "java/util/function/BiFunction"), accessFlags := 25, slot := 2, constantValue := 0 }]
  methods := #[k12m0]
  instanceTypes := #[]
  staticTypes := #[(.object "java/util/function/BiFunction"), (.object "java/util/function/BiFunction"), (.object "java/util/function/BiFunction")]
  resolved := Array.replicate 194 none
  statics := some 1 }

def pool13 : Array CpInfo := pool [(9, u "<init>"), (6, .class_ 18), (1, u "java/lang/Object"), (0, u "()V"), (1, .class_ 23), (1, u "jdk/internal/util/ArraysSupport"), (0, u "LOG2_ARRAY_LONG_INDEX_SCALE"), (0, u "I"), (2, u "U"), (0, u "Ljdk/internal/misc/Unsafe;"), (8, u "BIG_ENDIAN"), (0, u "Z"), (8, u "LOG2_BYTE_BIT_SIZE"), (4, u "LOG2_ARRAY_INT_INDEX_SCALE"), (54, u "JLA"), (0, u "Ljdk/internal/access/JavaLangAccess;"), (11, u "LOG2_ARRAY_BOOLEAN_INDEX_SCALE"), (9, u "LOG2_ARRAY_BYTE_INDEX_SCALE"), (5, u "LOG2_ARRAY_CHAR_INDEX_SCALE"), (5, u "LOG2_ARRAY_SHORT_INDEX_SCALE"), (18, u "LOG2_ARRAY_FLOAT_INDEX_SCALE"), (24, u "LOG2_ARRAY_DOUBLE_INDEX_SCALE"), (89, u "T_BOOLEAN"), (2, u "T_CHAR"), (1, u "T_FLOAT"), (1, u "T_DOUBLE"), (1, u "T_BYTE"), (1, u "T_SHORT"), (1, u "T_INT"), (1, u "T_LONG"), (1, u "SOFT_MAX_ARRAY_LENGTH")] 83

def k13m0 : Method := { name := "<init>", desc := "()V", sig := { parameters := [], returnType := none }, accessFlags := 2, code := none }
/-- jdk/internal/util/ArraysSupport -/
def k13 : Class := { plain "jdk/internal/util/ArraysSupport" (some 0) with
  accessFlags := 33
  interfaces := #[]
  cf := some (fileOf pool13 21 #[] #[{ accessFlags := 2, nameIndex := 9, descriptorIndex := 19, attributes := #[] }] 33 16 #[] #[{ accessFlags := 24, nameIndex := 28, descriptorIndex := 29, attributes := #[] }, { accessFlags := 26, nameIndex := 38, descriptorIndex := 39, attributes := #[] }, { accessFlags := 25, nameIndex := 121, descriptorIndex := 25, attributes := #[] }, { accessFlags := 25, nameIndex := 131, descriptorIndex := 25, attributes := #[] }, { accessFlags := 25, nameIndex := 137, descriptorIndex := 25, attributes := #[] }, { accessFlags := 25, nameIndex := 143, descriptorIndex := 25, attributes := #[] }, { accessFlags := 25, nameIndex := 53, descriptorIndex := 25, attributes := #[] }, { accessFlags := 25, nameIndex := 24, descriptorIndex := 25, attributes := #[] }, { accessFlags := 25, nameIndex := 162, descriptorIndex := 25, attributes := #[] }, { accessFlags := 25, nameIndex := 187, descriptorIndex := 25, attributes := #[] }, { accessFlags := 26, nameIndex := 48, descriptorIndex := 25, attributes := #[] }, { accessFlags := 25, nameIndex := 277, descriptorIndex := 25, attributes := #[] }, { accessFlags := 25, nameIndex := 280, descriptorIndex := 25, attributes := #[] }, { accessFlags := 25, nameIndex := 282, descriptorIndex := 25, attributes := #[] }, { accessFlags := 25, nameIndex := 284, descriptorIndex := 25, attributes := #[] }, { accessFlags := 25, nameIndex := 286, descriptorIndex := 25, attributes := #[] }, { accessFlags := 25, nameIndex := 288, descriptorIndex := 25, attributes := #[] }, { accessFlags := 25, nameIndex := 290, descriptorIndex := 25, attributes := #[] }, { accessFlags := 25, nameIndex := 292, descriptorIndex := 25, attributes := #[] }, { accessFlags := 26, nameIndex := 108, descriptorIndex := 109, attributes := #[] }, { accessFlags := 25, nameIndex := 294, descriptorIndex := 25, attributes := #[] }])
  fields := #[{ name := "U", type := (.object "jdk/internal/misc/Unsafe"), accessFlags := 24, slot := 0, constantValue := 0 }, { name := "BIG_ENDIAN", type := .boolean, accessFlags := 26, slot := 1, constantValue := 0 }, { name := "LOG2_ARRAY_BOOLEAN_INDEX_SCALE", type := .int, accessFlags := 25, slot := 2, constantValue := 0 }, { name := "LOG2_ARRAY_BYTE_INDEX_SCALE", type := .int, accessFlags := 25, slot := 3, constantValue := 0 }, { name := "LOG2_ARRAY_CHAR_INDEX_SCALE", type := .int, accessFlags := 25, slot := 4, constantValue := 0 }, { name := "LOG2_ARRAY_SHORT_INDEX_SCALE", type := .int, accessFlags := 25, slot := 5, constantValue := 0 }, { name := "LOG2_ARRAY_INT_INDEX_SCALE", type := .int, accessFlags := 25, slot := 6, constantValue := 0 }, { name := "LOG2_ARRAY_LONG_INDEX_SCALE", type := .int, accessFlags := 25, slot := 7, constantValue := 0 }, { name := "LOG2_ARRAY_FLOAT_INDEX_SCALE", type := .int, accessFlags := 25, slot := 8, constantValue := 0 }, { name := "LOG2_ARRAY_DOUBLE_INDEX_SCALE", type := .int, accessFlags := 25, slot := 9, constantValue := 0 }, { name := "LOG2_BYTE_BIT_SIZE", type := .int, accessFlags := 26, slot := 10, constantValue := 0 }, { name := "T_BOOLEAN", type := .int, accessFlags := 25, slot := 11, constantValue := 0 }, { name := "T_CHAR", type := .int, accessFlags := 25, slot := 12, constantValue := 0 }, { name := "T_FLOAT", type := .int, accessFlags := 25, slot := 13, constantValue := 0 }, { name := "T_DOUBLE", type := .int, accessFlags := 25, slot := 14, constantValue := 0 }, { name := "T_BYTE", type := .int, accessFlags := 25, slot := 15, constantValue := 0 }, { name := "T_SHORT", type := .int, accessFlags := 25, slot := 16, constantValue := 0 }, { name := "T_INT", type := .int, accessFlags := 25, slot := 17, constantValue := 0 }, { name := "T_LONG", type := .int, accessFlags := 25, slot := 18, constantValue := 0 }, { name := "JLA", type := (.object "jdk/internal/access/JavaLangAccess"), accessFlags := 26, slot := 19, constantValue := 0 }, { name := "SOFT_MAX_ARRAY_LENGTH", type := .int, accessFlags := 25, slot := 20, constantValue := 0 }]
  methods := #[k13m0]
  instanceTypes := #[]
  staticTypes := #[(.object "jdk/internal/misc/Unsafe"), .boolean, .int, .int, .int, .int, .int, .int, .int, .int, .int, .int, .int, .int, .int, .int, .int, .int, .int, (.object "jdk/internal/access/JavaLangAccess"), .int]
  resolved := Array.replicate 378 none
  statics := none }

def pool14 : Array CpInfo := pool [(1, u "java/lang/Cloneable"), (0, .class_ 1), (0, u "java/lang/Object"), (0, .class_ 3)] 3

/-- java/lang/Cloneable -/
def k14 : Class := { plain "java/lang/Cloneable" (some 0) with
  accessFlags := 1537
  interfaces := #[]
  cf := some (fileOf pool14 2 #[] #[] 1537 4 #[] #[])
  fields := #[]
  methods := #[]
  instanceTypes := #[]
  staticTypes := #[]
  resolved := Array.replicate 8 none
  statics := none }

/-- the primitive byte -/
def k15 : Class := { plain "byte" none with kind := .primitive 'B', accessFlags := 0x411 }
/-- [B -/
def k16 : Class := { plain "[B" (some 0) with kind := .array 15 .byte, interfaces := #[14, 4], accessFlags := 1041 }

/-- the primitive char -/
def k17 : Class := { plain "char" none with kind := .primitive 'C', accessFlags := 0x411 }
/-- [C -/
def k18 : Class := { plain "[C" (some 0) with kind := .array 17 .char, interfaces := #[14, 4], accessFlags := 1041 }

/-- the primitive int -/
def k19 : Class := { plain "int" none with kind := .primitive 'I', accessFlags := 0x411 }
/-- [I -/
def k20 : Class := { plain "[I" (some 0) with kind := .array 19 .int, interfaces := #[14, 4], accessFlags := 1041 }

def heap : Heap := #[{ cls := 9, slots := #[.long 0, .int 1, .null, .int 0, .null, .int 0, .int 0], vm := .statics 9 },
  { cls := 12, slots := #[.null, .null, .null], vm := .statics 12 }]
def classes : Array Class := #[k0, k1, k2, k3, k4, k5, k6, k7, k8, k9, k10, k11, k12, k13, k14, k15, k16, k17, k18, k19, k20]
def interned : List (Array UInt16 × Addr) := []
def slotsUsed : Nat := 10
def theMethod : MethodId := ⟨1, 2⟩
def args0 : Array Value := #[.int 5, .int 7, .int 1, .int 2, .int 3]
def aboutOver (below : List Frame) : State where
  vm := { classes := classes, interned := interned.toArray }
  heap := heap
  slotsUsed := slotsUsed
  threads := #[{ frames := .invoking theMethod args0 :: below }]
def below0 : List Frame := [.native { method := ⟨0, 0⟩, args := #[] }]
def about1 : State := aboutOver below0
def p0 : Program := .bare "" "" ""
def e0 : Env := launch0.env 0 0 0
theorem w_frames : about1.frames = Frame.invoking theMethod args0 :: below0 := rfl
set_option maxRecDepth 65536 in
theorem w_args : argsFit about1.vm theMethod args0 = true := by decide +kernel
set_option maxRecDepth 65536 in
theorem w_heap : heapFits about1 = true := by decide +kernel
set_option maxRecDepth 65536 in
theorem w_runnable : about1.curStatus? = some .runnable := by decide +kernel
set_option maxRecDepth 65536 in
theorem w_alone : about1.alone = true := by decide +kernel
set_option maxRecDepth 65536 in
theorem w_named : about1.methodNamed? x = some theMethod := by decide +kernel
set_option maxRecDepth 65536 in
theorem w_hears : about1.hears theMethod below0 = true := by decide +kernel
set_option maxRecDepth 65536 in
theorem w_ripe : about1.ripe theMethod args0 below0 = true := by decide +kernel
theorem w_running : about1.status = .running := rfl
set_option maxRecDepth 65536 in
theorem w_room : about1.hasRoom e0.platform room_1 = true :=
  launch0.hasRoom_least _ room_1 (by decide +kernel) (by decide +kernel) (by decide +kernel) (by decide +kernel) (by decide +kernel) (by decide +kernel)
theorem allAtoms_all (ts : List Jvm.Cond) (a : Array Jvm.Value) (st : Jvm.State) : (allAtoms ts).before a st = ts.all (fun c => c.before a st) := by
  induction ts with
  | nil => rfl
  | cons c t ih =>
    show (Jvm.Cond.and c (allAtoms t)).before a st = _
    rw [Jvm.Cond.before_and, ih, List.all_cons]
def words1 : List Jvm.Cond := Jvm.Cond.code x code maxLocals ret :: tables_1
/-- a 'code' word, met by the world's own term for the bytes: nothing is compared byte by byte -/
theorem code_word {y : MethodName} {bytes : ByteArray} {mx : Nat} {rt : Option FieldType} {a : Array Value} {s : State} {m : MethodId} {meth : Method} {c : Code} (h1 : s.methodNamed? y = some m) (h2 : s.vm.method? m = some meth) (h3 : meth.code = some c) (h4 : c.code = bytes)
    (h5 : (c.maxLocals == mx && c.exceptionTable.isEmpty && decide (c.maxStack ≤ mostOperands) && decide (meth.sig.returnType = rt) && !meth.locks && decide (parseMethodDescriptor y.desc = some meth.sig)) = true) : (Jvm.Cond.code y bytes mx rt).before a s = true := by
  simp only [Bool.and_eq_true, beq_iff_eq, Bool.not_eq_true', decide_eq_true_eq] at h5
  obtain ⟨⟨⟨⟨⟨g1, g2⟩, g3⟩, g4⟩, g5⟩, g6⟩ := h5
  simp [Cond.before, Cond.holds, Cond.value, h1, h2, h3, h4, g1, g2, g3, g4, g5, g6]
def isCode : Jvm.Cond → Bool
  | .code _ _ _ _ => true
  | _ => false
theorem all_split {L : List Jvm.Cond} {P : Jvm.Cond → Bool} (h1 : L.all (fun c => isCode c || P c) = true) (h2 : ∀ c ∈ L.filter isCode, P c = true) : L.all P = true := by
  refine List.all_eq_true.mpr fun c hc => ?_
  have h := List.all_eq_true.mp h1 c hc
  rcases Bool.eq_false_or_eq_true (isCode c) with hi | hi
  · exact h2 c (List.mem_filter.mpr ⟨hc, hi⟩)
  · simpa [hi] using h
set_option maxRecDepth 65536 in
theorem w_c0 : (Jvm.Cond.code x code maxLocals ret).before args0 about1 = true := code_word (m := ⟨1, 2⟩) (meth := k1m2) (c := k1c2) (by decide +kernel) rfl rfl rfl (by decide +kernel)
set_option maxRecDepth 65536 in
theorem w_c1 : (Jvm.Cond.code ({ cls := "com/example/querywire/querywire/HostAllowsPinLaw", name := "str", desc := "(ICCC)Ljava/lang/String;" } : Jvm.MethodName) method_2_code (4 : Nat) (Option.some (Jvm.ClassFile.FieldType.object "java/lang/String"))).before args0 about1 = true := code_word (m := ⟨1, 1⟩) (meth := k1m1) (c := k1c1) (by decide +kernel) rfl rfl rfl (by decide +kernel)
set_option maxRecDepth 65536 in
theorem w_c2 : (Jvm.Cond.code ({ cls := "java/lang/String", name := "<init>", desc := "([C)V" } : Jvm.MethodName) jdk_42_method_3_code (2 : Nat) (Option.none : Option Jvm.ClassFile.FieldType)).before args0 about1 = true := code_word (m := ⟨9, 1⟩) (meth := k9m1) (c := k9c1) (by decide +kernel) rfl rfl rfl (by decide +kernel)
set_option maxRecDepth 65536 in
theorem w_c3 : (Jvm.Cond.code ({ cls := "java/lang/String", name := "<init>", desc := "([CIILjava/lang/Void;)V" } : Jvm.MethodName) jdk_42_method_149_code (6 : Nat) (Option.none : Option Jvm.ClassFile.FieldType)).before args0 about1 = true := code_word (m := ⟨9, 3⟩) (meth := k9m3) (c := k9c3) (by decide +kernel) rfl rfl rfl (by decide +kernel)
set_option maxRecDepth 65536 in
theorem w_c4 : (Jvm.Cond.code ({ cls := "java/lang/Object", name := "<init>", desc := "()V" } : Jvm.MethodName) object_method_1_code (1 : Nat) (Option.none : Option Jvm.ClassFile.FieldType)).before args0 about1 = true := code_word (m := ⟨0, 0⟩) (meth := k0m0) (c := k0c0) (by decide +kernel) rfl rfl rfl (by decide +kernel)
set_option maxRecDepth 65536 in
theorem w_c5 : (Jvm.Cond.code ({ cls := "java/lang/StringUTF16", name := "compress", desc := "([CII)[B" } : Jvm.MethodName) jdk_52_method_16_code (6 : Nat) (Option.some (Jvm.ClassFile.FieldType.array Jvm.ClassFile.FieldType.byte))).before args0 about1 = true := code_word (m := ⟨10, 2⟩) (meth := k10m2) (c := k10c2) (by decide +kernel) rfl rfl rfl (by decide +kernel)
set_option maxRecDepth 65536 in
theorem w_c6 : (Jvm.Cond.code ({ cls := "java/lang/StringUTF16", name := "compress", desc := "([CI[BII)I" } : Jvm.MethodName) jdk_52_method_21_code (7 : Nat) (Option.some Jvm.ClassFile.FieldType.int)).before args0 about1 = true := code_word (m := ⟨10, 3⟩) (meth := k10m3) (c := k10c3) (by decide +kernel) rfl rfl rfl (by decide +kernel)
set_option maxRecDepth 65536 in
theorem w_c7 : (Jvm.Cond.code ({ cls := "java/lang/StringUTF16", name := "coderFromArrayLen", desc := "([BI)B" } : Jvm.MethodName) jdk_52_method_15_code (2 : Nat) (Option.some Jvm.ClassFile.FieldType.byte)).before args0 about1 = true := code_word (m := ⟨10, 1⟩) (meth := k10m1) (c := k10c1) (by decide +kernel) rfl rfl rfl (by decide +kernel)
set_option maxRecDepth 65536 in
theorem w_c8 : (Jvm.Cond.code ({ cls := "com/example/querywire/querywire/AllowedHosts$Host", name := "<init>", desc := "(Ljava/lang/String;I)V" } : Jvm.MethodName) prog_5_method_1_code (3 : Nat) (Option.none : Option Jvm.ClassFile.FieldType)).before args0 about1 = true := code_word (m := ⟨3, 0⟩) (meth := k3m0) (c := k3c0) (by decide +kernel) rfl rfl rfl (by decide +kernel)
set_option maxRecDepth 65536 in
theorem w_c9 : (Jvm.Cond.code ({ cls := "java/lang/Record", name := "<init>", desc := "()V" } : Jvm.MethodName) jdk_30_method_1_code (1 : Nat) (Option.none : Option Jvm.ClassFile.FieldType)).before args0 about1 = true := code_word (m := ⟨2, 0⟩) (meth := k2m0) (c := k2c0) (by decide +kernel) rfl rfl rfl (by decide +kernel)
set_option maxRecDepth 65536 in
theorem w_c10 : (Jvm.Cond.code ({ cls := "com/example/querywire/querywire/AllowedHosts$Host", name := "allows", desc := "(Ljava/lang/String;I)Z" } : Jvm.MethodName) prog_5_method_2_code (3 : Nat) (Option.some Jvm.ClassFile.FieldType.boolean)).before args0 about1 = true := code_word (m := ⟨3, 1⟩) (meth := k3m1) (c := k3c1) (by decide +kernel) rfl rfl rfl (by decide +kernel)
set_option maxRecDepth 65536 in
theorem w_c11 : (Jvm.Cond.code ({ cls := "java/lang/String", name := "equals", desc := "(Ljava/lang/Object;)Z" } : Jvm.MethodName) jdk_42_method_66_code (3 : Nat) (Option.some Jvm.ClassFile.FieldType.boolean)).before args0 about1 = true := code_word (m := ⟨9, 2⟩) (meth := k9m2) (c := k9c2) (by decide +kernel) rfl rfl rfl (by decide +kernel)
set_option maxRecDepth 65536 in
theorem w_c12 : (Jvm.Cond.code ({ cls := "java/lang/StringLatin1", name := "equals", desc := "([B[B)Z" } : Jvm.MethodName) jdk_43_method_13_code (3 : Nat) (Option.some Jvm.ClassFile.FieldType.boolean)).before args0 about1 = true := code_word (m := ⟨11, 1⟩) (meth := k11m1) (c := k11c1) (by decide +kernel) rfl rfl rfl (by decide +kernel)
def codes1 : List Jvm.Cond := [Jvm.Cond.code x code maxLocals ret, Jvm.Cond.code ({ cls := "com/example/querywire/querywire/HostAllowsPinLaw", name := "str", desc := "(ICCC)Ljava/lang/String;" } : Jvm.MethodName) method_2_code (4 : Nat) (Option.some (Jvm.ClassFile.FieldType.object "java/lang/String")), Jvm.Cond.code ({ cls := "java/lang/String", name := "<init>", desc := "([C)V" } : Jvm.MethodName) jdk_42_method_3_code (2 : Nat) (Option.none : Option Jvm.ClassFile.FieldType), Jvm.Cond.code ({ cls := "java/lang/String", name := "<init>", desc := "([CIILjava/lang/Void;)V" } : Jvm.MethodName) jdk_42_method_149_code (6 : Nat) (Option.none : Option Jvm.ClassFile.FieldType), Jvm.Cond.code ({ cls := "java/lang/Object", name := "<init>", desc := "()V" } : Jvm.MethodName) object_method_1_code (1 : Nat) (Option.none : Option Jvm.ClassFile.FieldType), Jvm.Cond.code ({ cls := "java/lang/StringUTF16", name := "compress", desc := "([CII)[B" } : Jvm.MethodName) jdk_52_method_16_code (6 : Nat) (Option.some (Jvm.ClassFile.FieldType.array Jvm.ClassFile.FieldType.byte)), Jvm.Cond.code ({ cls := "java/lang/StringUTF16", name := "compress", desc := "([CI[BII)I" } : Jvm.MethodName) jdk_52_method_21_code (7 : Nat) (Option.some Jvm.ClassFile.FieldType.int), Jvm.Cond.code ({ cls := "java/lang/StringUTF16", name := "coderFromArrayLen", desc := "([BI)B" } : Jvm.MethodName) jdk_52_method_15_code (2 : Nat) (Option.some Jvm.ClassFile.FieldType.byte), Jvm.Cond.code ({ cls := "com/example/querywire/querywire/AllowedHosts$Host", name := "<init>", desc := "(Ljava/lang/String;I)V" } : Jvm.MethodName) prog_5_method_1_code (3 : Nat) (Option.none : Option Jvm.ClassFile.FieldType), Jvm.Cond.code ({ cls := "java/lang/Record", name := "<init>", desc := "()V" } : Jvm.MethodName) jdk_30_method_1_code (1 : Nat) (Option.none : Option Jvm.ClassFile.FieldType), Jvm.Cond.code ({ cls := "com/example/querywire/querywire/AllowedHosts$Host", name := "allows", desc := "(Ljava/lang/String;I)Z" } : Jvm.MethodName) prog_5_method_2_code (3 : Nat) (Option.some Jvm.ClassFile.FieldType.boolean), Jvm.Cond.code ({ cls := "java/lang/String", name := "equals", desc := "(Ljava/lang/Object;)Z" } : Jvm.MethodName) jdk_42_method_66_code (3 : Nat) (Option.some Jvm.ClassFile.FieldType.boolean), Jvm.Cond.code ({ cls := "java/lang/StringLatin1", name := "equals", desc := "([B[B)Z" } : Jvm.MethodName) jdk_43_method_13_code (3 : Nat) (Option.some Jvm.ClassFile.FieldType.boolean)]
set_option maxRecDepth 65536 in
theorem codes_eq : words1.filter isCode = codes1 := rfl
theorem w_codes : ∀ c ∈ words1.filter isCode, c.before args0 about1 = true := by
  rw [codes_eq]
  intro c hc
  simp only [codes1, List.mem_cons, List.not_mem_nil, or_false] at hc
  rcases hc with rfl | rfl | rfl | rfl | rfl | rfl | rfl | rfl | rfl | rfl | rfl | rfl | rfl
  · exact w_c0
  · exact w_c1
  · exact w_c2
  · exact w_c3
  · exact w_c4
  · exact w_c5
  · exact w_c6
  · exact w_c7
  · exact w_c8
  · exact w_c9
  · exact w_c10
  · exact w_c11
  · exact w_c12
set_option maxRecDepth 65536 in
theorem w_t1 : (words1.take 24).all (fun c => isCode c || c.before args0 about1) = true := by decide +kernel
set_option maxRecDepth 65536 in
theorem w_t2 : ((words1.drop 24).take 24).all (fun c => isCode c || c.before args0 about1) = true := by decide +kernel
set_option maxRecDepth 65536 in
theorem w_t3 : ((words1.drop 24).drop 24).all (fun c => isCode c || c.before args0 about1) = true := by decide +kernel
theorem w_tables : (allAtoms (Jvm.Cond.code x code maxLocals ret :: tables_1)).before args0 about1 = true := by
  rw [allAtoms_all]
  show words1.all (fun c => c.before args0 about1) = true
  refine all_split ?_ w_codes
  rw [← List.take_append_drop 24 words1, List.all_append, w_t1, ← List.take_append_drop 24 (words1.drop 24), List.all_append, w_t2, w_t3]
  rfl
set_option maxRecDepth 65536 in
theorem w_rest : rest_1_c.before args0 about1 = true := by decide +kernel
set_option maxRecDepth 65536 in
theorem w_case : (Jvm.Cond.and given_1 narrow_1).before args0 about1 = true := by decide +kernel
set_option maxRecDepth 65536 in
theorem w_consts : constsHeld consts_1 about1 := Jvm.Lit.constsHeldB_iff.mp (by decide +kernel)
theorem w_applies : (headSpec (Jvm.Cond.code x code maxLocals ret :: tables_1) room_1).applies x e0.platform about1 = true :=
  (Spec.applies_iff w_frames).mpr ⟨w_running, w_runnable, w_alone, w_named, w_hears, w_ripe, w_room, w_tables⟩
theorem atStart : AtStart classFile x code maxLocals ret World_1 tables_1 room_1 Calls_1 rest_1 Pre_1 launch0 p0 e0 about1 theMethod args0 below0 :=
  ⟨lists_1, trivial, launch0.admits_env _ _ _, launch0.least_env, fairChoices_fair.cas, fairChoices_fair.clock, w_frames, w_args, w_heap, w_applies, ⟨w_consts, trivial⟩, w_rest, w_case⟩
end start1
theorem witness_1 : WitnessClaimed_1 := ⟨start1.p0, start1.e0, start1.about1, start1.theMethod, start1.args0, start1.below0, start1.atStart⟩
end Jvm.Pilot.@@N@@
